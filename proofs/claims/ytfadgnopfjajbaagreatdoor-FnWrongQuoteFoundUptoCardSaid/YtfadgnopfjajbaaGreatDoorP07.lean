/- A part of the proof: The parser's steps, in plain Lean: they end; what they can grow to. readRecord: lines that are passed over. -/
import Derived.Test.YtfadgnopfjajbaaGreatDoorP06
namespace Go.Proofs.YtfadgnopfjajbaaGreatDoor
open Csv

inductive Reach (o : Opt) (rec : Nat) : St → St → Prop
  | refl (s : St) : Reach o rec s s
  | next {s t u : St} (h : Reach o rec s t) (hs : t.step o rec = .inl u) : Reach o rec s u

theorem nlLen_le (l : Bytes) : nlLen l ≤ l.length := by
  unfold nlLen
  split
  · rename_i h
    cases l with
    | nil => cases h
    | cons => simp
  · omega
theorem spaceEnd_le : ∀ (n : Nat) (l : Bytes) (i : Nat), spaceEnd n l = some i → i ≤ l.length
  | 0, _, _, h => by cases h
  | _ + 1, [], _, h => by cases h
  | n + 1, c :: t, i, h => by
    simp only [spaceEnd] at h
    split at h
    · cases hs : spaceEnd n (List.drop (Go.Utf8.decode ⟨(c :: t).toArray⟩ 0).2 (c :: t)) with
      | none => rw [hs] at h; cases h
      | some j =>
        rw [hs] at h
        simp only [Option.map_some, Option.some.injEq] at h
        have h1 := spaceEnd_le n _ j hs
        rw [List.length_drop] at h1
        have h2 := Lib.decodeL_le (c :: t) (by simp)
        unfold Lib.decodeL at h2
        omega
    · injection h with h
      omega
theorem enc_pos (r : Int) : 0 < (enc r).length := List.length_pos_iff.2 (enc_ne r)
theorem indexOf_le {p : Bytes} : ∀ {l : Bytes} {i : Nat}, indexOf p l = some i → i + p.length ≤ l.length ∧ p <+: l.drop i
  | [], i, h => by
    unfold indexOf at h
    split at h
    · rename_i hp
      injection h with h
      subst h
      have : p = [] := by simpa using hp
      subst this
      simp
    · cases h
  | c :: t, i, h => by
    unfold indexOf at h
    split at h
    · rename_i hp
      injection h with h
      subst h
      have := List.isPrefixOf_iff_prefix.1 hp
      exact ⟨by simpa using this.length_le, by simpa using this⟩
    · cases hi : indexOf p t with
      | none => rw [hi] at h; cases h
      | some j =>
        rw [hi] at h
        simp only [Option.map_some, Option.some.injEq] at h
        subst h
        have := indexOf_le hi
        simp only [List.length_cons, List.drop_succ_cons]
        exact ⟨by omega, this.2⟩
theorem rawLine_len (R : Bytes) : (rawLine R).2.length + (rawLine R).1.length = R.length ∧ (R ≠ [] → 0 < (rawLine R).1.length) := by
  induction R with
  | nil => exact ⟨rfl, fun h => absurd rfl h⟩
  | cons a R ih =>
    unfold rawLine
    split
    · simp
    · simp only [List.length_cons]
      exact ⟨by omega, fun _ => by omega⟩
theorem normLine_le (l : Bytes) : (normLine l).length ≤ l.length := by
  unfold normLine
  split
  · split
    · rename_i h1 h2
      have : 1 < l.length := by
        rcases l with _ | ⟨a, _ | ⟨b, l⟩⟩
        · cases h1
        · cases h2
        · simp
      simp only [List.length_append, List.length_dropLast, List.length_cons, List.length_nil]
      omega
    · exact Nat.le_refl _
  · split
    · simp
    · exact Nat.le_refl _
/-- What a step may do to the sizes. -/
structure Less (s s' : St) : Prop where
  size : s'.size < s.size
  fields : s'.fields.length + s'.size ≤ s.fields.length + s.size
  bytes : s'.fields.flatten.length + s'.cur.length + s'.size ≤ s.fields.flatten.length + s.cur.length + s.size
  col : s'.pc + s'.size ≤ s.pc + s.size
  line : s'.pl + s'.size ≤ s.pl + s.size
  num : s'.src.numLine + s'.size ≤ s.src.numLine + s.size
  poss : s.poss.length = s.fields.length → s'.poss.length = s'.fields.length
  cur : s'.quoted = none → s'.cur = []
  one : 1 ≤ s.pc → 1 ≤ s'.pc
theorem less_open {o : Opt} {rec : Nat} {s s' : St} {p : Nat × Nat} (hq : s.quoted = some p) (h : s.stepOpen o rec p = .inl s') : Less s s' := by
  unfold St.stepOpen at h
  split at h
  · rename_i i hi
    have hil := indexByte_le hi
    unfold St.stepQuote at h
    have hd : (s.line.drop (i + 1)).length = s.line.length - (i + 1) := by simp
    have ht : (s.line.take i).length = i := by simp; omega
    split at h
    · rename_i hh
      injection h with h
      subst h
      have : 0 < (s.line.drop (i + 1)).length := by
        cases hx : s.line.drop (i + 1) with
        | nil => rw [hx] at hh; cases hh
        | cons => simp
      constructor <;> simp only [St.size, List.length_drop, List.length_append, List.length_cons, List.length_nil, ht] at * <;> first | omega | exact id | (intro h; omega) | (intro h; rw [hq] at h; cases h)
    · split at h
      · rename_i hp
        injection h with h
        subst h
        have h1 := (List.isPrefixOf_iff_prefix.1 hp).length_le
        have h2 := enc_pos o.comma
        rw [hd] at h1
        constructor <;> simp only [St.size, St.push, List.length_drop, List.length_append, List.length_cons, List.length_nil, List.flatten_append, List.flatten_cons, List.flatten_nil, ht] at * <;> first | omega | (intro h; first | omega | rfl)
      · split at h
        · cases h
        · split at h
          · injection h with h
            subst h
            constructor <;> simp only [St.size, List.length_drop, List.length_append, List.length_cons, List.length_nil, ht] at * <;> first | omega | exact id | (intro h; omega) | (intro h; rw [hq] at h; cases h)
          · cases h
  · split at h
    · split at h <;> cases h
    · rename_i hl
      injection h with h
      subst h
      have h0 : 0 < s.line.length := List.length_pos_iff.2 hl
      have h1 := (rawLine_len s.src.left).1
      have h2 := normLine_le (rawLine s.src.left).1
      have h3 : (s.src.line).length ≤ (rawLine s.src.left).1.length := h2
      constructor <;> simp only [St.size, Src.next, List.length_append] <;> first | omega | exact id | (split <;> omega) | (intro h; split <;> omega) | (intro h; rw [hq] at h; cases h)
theorem less_start {o : Opt} {rec : Nat} {s s' : St} (_hq : s.quoted = none) (h : (s.trimmed o).stepStart o rec = .inl s') : Less s s' := by
  have key : ∃ t : St, s.trimmed o = t ∧ t.line.length ≤ s.line.length ∧ t.pc + t.line.length ≤ s.pc + s.line.length ∧ s.pc ≤ t.pc ∧ t = { s with line := t.line, pc := t.pc } := by
    refine ⟨_, rfl, ?_⟩
    unfold St.trimmed
    split
    · split
      · rename_i i hi
        have := spaceEnd_le _ _ _ hi
        exact ⟨by simp, by simp; omega, by simp, rfl⟩
      · exact ⟨by simp, by simp, by simp, rfl⟩
    · exact ⟨Nat.le_refl _, Nat.le_refl _, Nat.le_refl _, rfl⟩
  obtain ⟨t, ht, h1, h2, h4, h3⟩ := key
  rw [ht] at h
  have e1 : t.fields = s.fields := by rw [h3]
  have e2 : t.poss = s.poss := by rw [h3]
  have e3 : t.src = s.src := by rw [h3]
  have e4 : t.pl = s.pl := by rw [h3]
  unfold St.stepStart at h
  split at h
  · rename_i hh
    injection h with h
    subst h
    have : 0 < t.line.length := by
      cases hx : t.line with
      | nil => rw [hx] at hh; cases hh
      | cons => simp
    constructor <;> simp only [St.size, List.length_drop, List.length_nil, e1, e2, e3, e4] <;> first | omega | exact id | (intro h; omega) | (intro h; cases h)
  · split at h
    · rename_i i hi
      obtain ⟨hil, _⟩ := indexOf_le hi
      have h5 := enc_pos o.comma
      unfold St.plain at h
      split at h
      · cases h
      · injection h with h
        subst h
        have htk : (t.line.take i).length = i := by simp; omega
        constructor <;> simp only [St.size, St.push, List.length_drop, List.length_append, List.length_cons, List.length_nil, List.flatten_append, List.flatten_cons, List.flatten_nil, htk, e1, e2, e3, e4] <;> first | omega | (intro h; first | omega | rfl)
    · unfold St.plain at h
      split at h <;> cases h
theorem less_step {o : Opt} {rec : Nat} {s s' : St} (h : s.step o rec = .inl s') : Less s s' := by
  unfold St.step at h
  split at h
  · rename_i hq; exact less_start hq h
  · rename_i p hq; exact less_open hq h

/-- What holds of all states that are reached. -/
structure Bnd (s0 s : St) : Prop where
  size : s.size ≤ s0.size
  fields : s.fields.length + s.size ≤ s0.fields.length + s0.size
  bytes : s.fields.flatten.length + s.cur.length + s.size ≤ s0.fields.flatten.length + s0.cur.length + s0.size
  col : s.pc + s.size ≤ s0.pc + s0.size
  line : s.pl + s.size ≤ s0.pl + s0.size
  num : s.src.numLine + s.size ≤ s0.src.numLine + s0.size
  poss : s0.poss.length = s0.fields.length → s.poss.length = s.fields.length
  cur : s0.cur = [] → s.quoted = none → s.cur = []
  one : 1 ≤ s0.pc → 1 ≤ s.pc
theorem Reach.bnd {o : Opt} {rec : Nat} {s0 s : St} (h : Reach o rec s0 s) : Bnd s0 s := by
  induction h with
  | refl => exact ⟨Nat.le_refl _, Nat.le_refl _, Nat.le_refl _, Nat.le_refl _, Nat.le_refl _, Nat.le_refl _, id, fun h _ => h, id⟩
  | next h hs ih =>
    have hl := less_step hs
    have := hl.size; have := hl.fields; have := hl.bytes; have := hl.col; have := hl.line; have := hl.num
    have := ih.size; have := ih.fields; have := ih.bytes; have := ih.col; have := ih.line; have := ih.num
    exact ⟨by omega, by omega, by omega, by omega, by omega, by omega, fun h => hl.poss (ih.poss h), fun _ => hl.cur, fun h => hl.one (ih.one h)⟩
theorem Reach.run {o : Opt} {rec : Nat} {s0 s : St} (h : Reach o rec s0 s) : ∀ n, s0.size ≤ n → ∃ m, s.size ≤ m ∧ s0.run o rec n = s.run o rec m := by
  induction h with
  | refl => exact fun n hn => ⟨n, hn, rfl⟩
  | next h hs ih =>
    intro n hn
    obtain ⟨m, hm, e⟩ := ih n hn
    have h1 := (less_step hs).size
    obtain ⟨m, rfl⟩ : ∃ m', m = m' + 1 := ⟨m - 1, by omega⟩
    refine ⟨m, by omega, ?_⟩
    rw [e]
    simp only [St.run, hs]
theorem Reach.done {o : Opt} {rec : Nat} {s0 s : St} {q : Out} (h : Reach o rec s0 s) (hq : s.step o rec = .inr q) (n : Nat) (hn : s0.size ≤ n) : s0.run o rec n = q := by
  obtain ⟨m, hm, e⟩ := h.run n hn
  obtain ⟨m, rfl⟩ : ∃ m', m = m' + 1 := ⟨m - 1, by unfold St.size at hm; omega⟩
  rw [e]
  simp only [St.run, hq]

/-- Where the fields end in the record's bytes. -/
def ends : Nat → List Bytes → List Nat
  | _, [] => []
  | n, f :: fs => (n + f.length) :: ends (n + f.length) fs
theorem ends_append (n : Nat) (fs : List Bytes) (f : Bytes) : ends n (fs ++ [f]) = ends n fs ++ [n + (fs ++ [f]).flatten.length] := by
  induction fs generalizing n with
  | nil => simp [ends]
  | cons g fs ih =>
    simp only [List.cons_append, ends, ih, List.flatten_cons, List.length_append]
    congr 3
    omega
theorem ends_length (n : Nat) (fs : List Bytes) : (ends n fs).length = fs.length := by
  induction fs generalizing n with
  | nil => rfl
  | cons g fs ih => simp [ends, ih]
end Go.Proofs.YtfadgnopfjajbaaGreatDoor
namespace Go.Proofs.YtfadgnopfjajbaaGreatDoor
open Go.RowKit
/-- A part that ends in its place or leaves for block id. -/
def EPost (id : Nat) (K E : Act → World → Prop) : Exit → Act → World → Prop
  | .normal, a, w => K a w
  | .exit i, a, w => i = id ∧ E a w
  | _, _, _ => False
theorem EPost.mk {id : Nat} {K E : Act → World → Prop} {a : Act} {w : World} (h : K a w) : EPost id K E .normal a w := h
theorem EPost.out {id : Nat} {K E : Act → World → Prop} {a : Act} {w : World} (h : E a w) : EPost id K E (.exit id) a w := ⟨rfl, h⟩
theorem seq_epart {P : Program} {x y : Code} {Q : Exit → Act → World → Prop} {a : Act} {w : World} {id : Nat} {K E : Act → World → Prop} (h1 : x.wp P (EPost id K E) a w) (h2 : ∀ a w, K a w → y.wp P Q a w) (h3 : ∀ a w, E a w → Q (.exit id) a w) : (Code.seq x y).wp P Q a w :=
  wp_seq (wp_mono h1 fun e a w q => by cases e <;> first | exact h2 _ _ q | (obtain ⟨rfl, q⟩ := q; exact h3 _ _ q) | exact q.elim)
/-- Is the line a comment? -/
def isCom (c : CSt) (line : List UInt8) : Bool := decide (c.comment ≠ 0) && (Csv.enc c.comment).isPrefixOf line
noncomputable def recP7a : Code := part [true, false, true, true, true, false, false, false, true, false, true, false, false] recBody
set_option maxRecDepth 100000 in
set_option maxHeartbeats 1000000 in
theorem rec_p7a (B : Nat) (G : Glob) (w : World) (c : CSt) (r : RSt) (l : List (Nat × Value)) (f : Nat → Value) (hc : RInv B G w c r) (hv : c.opt.valid = true) (h0 : lk l f 0 = .pointer (some ⟨c.cr, 0, none⟩)) (lb lo cp : Nat) (line : List UInt8) (h6 : lk l f 6 = .slice (some ⟨lb, lo, none⟩) line.length cp) (hm : BytesAt w lb lo line) :
    recP7a.wp Tryz.prog (NPost fun a w' => ∃ l', a = Fr 560 ((77, .bool (isCom c line)) :: l') f ∧ Keeps [] l f l' ∧ Below w.heap.size w w') (Fr 560 l f) w := by
  dsimp only [recP7a, part, part.sub2', sub1, sub2, recBody, Tryz.f51, Option.getD]
  have hcr := hc.l.cr
  have hcr1 := hcr.drew
  refine held_start (fun w' => Blk w' c.cr 66 (crCells c)) [] mixed ?_
  by_cases h3 : c.comment = 0
  · have e3 : (c.comment != 0) = false := by simp [h3]
    have hic : isCom c line = false := by unfold isCom; rw [h3]; rfl
    rw [hic]
    clear hc hm hv hic h3
    refine take 0 _ _ ?tv1 rfl rfl (by kernel_rfl) hcr1 (by intro c a d v w h; cases d <;> exact h) ?th1 ?tn1
    case th1 => intro w' hS K hK; have hc := Blk.cell hS; unfold crCells at hc; go_simp; exact hK
    refine take 1 _ _ ?tv2 rfl rfl (by kernel_rfl) hcr1 (by intro c a d v w h; cases d <;> exact h) ?th2 ?tn2
    case th2 => intro w' hS K hK; have hc := Blk.cell hS; unfold crCells at hc; go_simp; exact hK
    refine take 2 _ _ ?tv3 rfl rfl (by kernel_rfl) hcr1 (by intro c a d v w h; cases d <;> exact h) ?th3 ?tn3
    case th3 => intro w' hS K hK; have hc := Blk.cell hS; unfold crCells at hc; go_simp; exact hK
    refine take 3 _ _ ?tv4 rfl rfl (by kernel_rfl) hcr1 (by intro c a d v w h; cases d <;> exact h) ?th4 ?tn4
    case th4 => intro w' hS K hK; have hc := Blk.cell hS; unfold crCells at hc; go_simp; exact hK
    refine take 4 _ _ ?tv5 rfl rfl (by kernel_rfl) hcr1 (by intro c a d v w h; cases d <;> exact h) ?th5 ?tn5
    case th5 => intro w' hS K hK; have hc := Blk.cell hS; unfold crCells at hc; go_simp; exact hK
    refine take 5 _ _ ?tv6 rfl rfl (by kernel_rfl) hcr1 (by intro c a d v w h; cases d <;> exact h) ?th6 ?tn6
    case th6 => intro w' hS K hK; have hc := Blk.cell hS; unfold crCells at hc; go_simp; exact hK
    refine take 6 _ _ ?tv7 rfl rfl (by kernel_rfl) hcr1 (by intro c a d v w h; cases d <;> exact h) ?th7 ?tn7
    case th7 => intro w' hS K hK; have hc := Blk.cell hS; unfold crCells at hc; go_simp; exact hK
    refine take 8 _ _ ?tv8 rfl rfl (by kernel_rfl) hcr1 (by intro c a d v w h; cases d <;> exact h) ?th8 ?tn8
    case th8 => intro w' hS K hK; have hc := Blk.cell hS; unfold crCells at hc; go_simp; exact hK
    refine take 9 _ _ ?tv9 rfl rfl (by kernel_rfl) hcr1 (by intro c a d v w h; cases d <;> exact h) ?th9 ?tn9
    case th9 => intro w' hS K hK; have hc := Blk.cell hS; unfold crCells at hc; go_simp; exact hK
    refine take 10 _ _ ?tv10 rfl rfl (by kernel_rfl) hcr1 (by intro c a d v w h; cases d <;> exact h) ?th10 ?tn10
    case th10 => intro w' hS K hK; have hc := Blk.cell hS; unfold crCells at hc; go_simp; exact hK
    refine take 11 _ _ ?tv11 rfl rfl (by kernel_rfl) hcr1 (by intro c a d v w h; cases d <;> exact h) ?th11 ?tn11
    case th11 => intro w' hS K hK; have hc := Blk.cell hS; unfold crCells at hc; go_simp; exact hK
    refine held_alone 7 _ rfl (by kernel_rfl) ?_
    go_wp
    refine ⟨fun _ => hcr1, ?_⟩
    refine take 12 _ _ ?tv12 rfl rfl (by kernel_rfl) hcr1 (by intro c a d v w h; cases d <;> exact h) ?th12 ?tn12
    case th12 => intro w' hS K hK; have hc := Blk.cell hS; unfold crCells at hc; go_simp; exact hK
    refine take 13 _ _ ?tv13 rfl rfl (by kernel_rfl) hcr1 (by intro c a d v w h; cases d <;> exact h) ?th13 ?tn13
    case th13 => intro w' hS K hK; have hc := Blk.cell hS; unfold crCells at hc; go_simp; exact hK
    refine held_done (by kernel_rfl) ?_
    exact NPost.mk ⟨_, rfl, (by repeat first | exact Keeps.refl _ _ _ | refine Keeps.far (by decide) ?_ | refine Keeps.set (by decide) ?_), (Below.refl _ w).drew⟩
  · have e3 : (c.comment != 0) = true := by simp [h3]
    have hvc : Csv.validDelim c.comment = true := by
      unfold Csv.Opt.valid CSt.opt at hv
      simp only [Bool.and_eq_true, Bool.or_eq_true] at hv
      rcases hv.2 with h | h
      · exact absurd (by simpa using h) h3
      · exact h
    have hic : isCom c line = (nextR line == c.comment) := by
      unfold isCom
      rw [Bool.eq_iff_iff, beq_iff_eq, nextR_iff c.comment (.inl hvc) line]
      simp [h3]
    rw [hic]
    have cN := nextRune_any B w.drew lb lo cp line (hc.below (Below.refl _ w).drew).l.glob.tabs hm
    have HC := Lib.hid hc
    clear hc hm hv hic h3 hvc
    refine take 0 _ _ ?tv14 rfl rfl (by kernel_rfl) hcr1 (by intro c a d v w h; cases d <;> exact h) ?th14 ?tn14
    case th14 => intro w' hS K hK; have hc := Blk.cell hS; unfold crCells at hc; go_simp; exact hK
    refine take 1 _ _ ?tv15 rfl rfl (by kernel_rfl) hcr1 (by intro c a d v w h; cases d <;> exact h) ?th15 ?tn15
    case th15 => intro w' hS K hK; have hc := Blk.cell hS; unfold crCells at hc; go_simp; exact hK
    refine take 2 _ _ ?tv16 rfl rfl (by kernel_rfl) hcr1 (by intro c a d v w h; cases d <;> exact h) ?th16 ?tn16
    case th16 => intro w' hS K hK; have hc := Blk.cell hS; unfold crCells at hc; go_simp; exact hK
    refine take 3 _ _ ?tv17 rfl rfl (by kernel_rfl) hcr1 (by intro c a d v w h; cases d <;> exact h) ?th17 ?tn17
    case th17 => intro w' hS K hK; have hc := Blk.cell hS; unfold crCells at hc; go_simp; exact hK
    refine take 4 _ _ ?tv18 rfl rfl (by kernel_rfl) hcr1 (by intro c a d v w h; cases d <;> exact h) ?th18 ?tn18
    case th18 => intro w' hS K hK; have hc := Blk.cell hS; unfold crCells at hc; go_simp; exact hK
    refine take 5 _ _ ?tv19 rfl rfl (by kernel_rfl) hcr1 (by intro c a d v w h; cases d <;> exact h) ?th19 ?tn19
    case th19 => intro w' hS K hK; have hc := Blk.cell hS; unfold crCells at hc; go_simp; exact hK
    refine take 6 _ _ ?tv20 rfl rfl (by kernel_rfl) hcr1 (by intro c a d v w h; cases d <;> exact h) ?th20 ?tn20
    case th20 => intro w' hS K hK; have hc := Blk.cell hS; unfold crCells at hc; go_simp; exact hK
    refine take 8 _ _ ?tv21 rfl rfl (by kernel_rfl) hcr1 (by intro c a d v w h; cases d <;> exact h) ?th21 ?tn21
    case th21 => intro w' hS K hK; have hc := Blk.cell hS; unfold crCells at hc; go_simp; exact hK
    refine take 9 _ _ ?tv22 rfl rfl (by kernel_rfl) hcr1 (by intro c a d v w h; cases d <;> exact h) ?th22 ?tn22
    case th22 => intro w' hS K hK; have hc := Blk.cell hS; unfold crCells at hc; go_simp; exact hK
    refine take 10 _ _ ?tv23 rfl rfl (by kernel_rfl) hcr1 (by intro c a d v w h; cases d <;> exact h) ?th23 ?tn23
    case th23 => intro w' hS K hK; have hc := Blk.cell hS; unfold crCells at hc; go_simp; exact hK
    refine take 11 _ _ ?tv24 rfl rfl (by kernel_rfl) hcr1 (by intro c a d v w h; cases d <;> exact h) ?th24 ?tn24
    case th24 => intro w' hS K hK; have hc := Blk.cell hS; unfold crCells at hc; go_simp; exact hK
    refine held_alone 7 _ rfl (by kernel_rfl) ?_
    go_wp
    refine cN.mono ?_
    rintro e w1 ⟨rfl, hb⟩
    dsimp only
    clear cN
    have hcr2 : Blk w1 c.cr 66 (crCells c) := hcr1.below hb hcr1.lt
    clear hcr hcr1
    go_wp
    refine ⟨fun _ => hcr2, ?_⟩
    refine take 12 _ _ ?tv25 rfl rfl (by kernel_rfl) hcr2 (by intro c a d v w h; cases d <;> exact h) ?th25 ?tn25
    case th25 => intro w' hS K hK; have hc := Blk.cell hS; unfold crCells at hc; go_simp; exact hK
    refine take 13 _ _ ?tv26 rfl rfl (by kernel_rfl) hcr2 (by intro c a d v w h; cases d <;> exact h) ?th26 ?tn26
    case th26 => intro w' hS K hK; have hc := Blk.cell hS; unfold crCells at hc; go_simp; exact hK
    refine held_done (by kernel_rfl) ?_
    exact NPost.mk ⟨_, rfl, (by repeat first | exact Keeps.refl _ _ _ | refine Keeps.far (by decide) ?_ | refine Keeps.set (by decide) ?_), ((Below.refl _ w).drew).trans hb⟩
/-- Blank, unless the text is at its end. -/
noncomputable def recP9a : Code := part [true, false, true, true, true, false, false, false, true, false, true, true, false, false] recBody
set_option maxRecDepth 100000 in
set_option maxHeartbeats 1000000 in
theorem rec_p9a (w : World) (G : Glob) (E : Bool) (l : List (Nat × Value)) (f : Nat → Value) (lb lo cp : Nat) (line : List UInt8) (h6 : lk l f 6 = .slice (some ⟨lb, lo, none⟩) line.length cp) (h7 : lk l f 7 = if E then errVal G.eof else .nilIface) (hm : BytesAt w lb lo line) (hlen : line.length ≤ cp) (hcap : cp ≤ 9223372036854775807) :
    recP9a.wp Tryz.prog (NPost fun a w' => ∃ l', a = Fr 560 ((86, .bool (!E && Csv.nlLen line == line.length)) :: l') f ∧ Keeps [] l f l' ∧ w' = w) (Fr 560 l f) w := by
  dsimp only [recP9a, part, part.sub2', sub1, sub2, recBody, Tryz.f51, Option.getD]
  have cN := lengthNL_any w lb lo cp line hm hlen hcap
  clear hm
  cases E
  · simp only [Bool.false_eq_true, if_false] at h7
    have hnb : ((line.length : Int) == ((Csv.nlLen line : Nat) : Int)) = (!false && Csv.nlLen line == line.length) := by
      rw [Bool.eq_iff_iff]
      simp only [beq_iff_eq, Bool.not_false, Bool.true_and]
      exact ⟨fun h => by exact_mod_cast h.symm, fun h => by exact_mod_cast h.symm⟩
    generalize (!false && Csv.nlLen line == line.length) = t at hnb
    go_wp
    refine cN.mono ?_
    rintro e w5 ⟨rfl, rfl⟩
    dsimp only
    clear cN
    go_wp
    exact NPost.mk ⟨_, rfl, (by repeat first | exact Keeps.refl _ _ _ | refine Keeps.far (by decide) ?_ | refine Keeps.set (by decide) ?_), rfl⟩
  · simp only [if_true] at h7
    clear cN
    go_wp
    exact NPost.mk ⟨_, rfl, (by repeat first | exact Keeps.refl _ _ _ | refine Keeps.far (by decide) ?_ | refine Keeps.set (by decide) ?_), rfl⟩
noncomputable def recP5 : Code := part [true, false, true, true, true, false, false, false, false] recBody
set_option maxRecDepth 100000 in
theorem rec_p5 (w : World) (l : List (Nat × Value)) (f : Nat → Value) (h7 : lk l f 7 = .nilIface) :
    recP5.wp Tryz.prog (NPost fun a w' => ∃ l', a = Fr 560 l' f ∧ Keeps [] l f l' ∧ w' = w) (Fr 560 l f) w := by
  dsimp only [recP5, part, part.sub2', sub1, sub2, recBody, Tryz.f51, Option.getD]
  go_wp
  refine wp_if_true rfl (by simp [lk]) ?_
  refine wp_skip ?_
  exact NPost.mk ⟨_, rfl, (by repeat first | exact Keeps.refl _ _ _ | refine Keeps.far (by decide) ?_ | refine Keeps.set (by decide) ?_), rfl⟩
/- The next line is read. -/
noncomputable def rec6 : Code := part [true, false, true, true, true, false, false, false, true, false, false] recBody
set_option maxRecDepth 100000 in
theorem rec_line6 (B : Nat) (G : Glob) (w : World) (c : CSt) (l : List (Nat × Value)) (f : Nat → Value) (hc : LInv B G w c) (hsmall : c.numLine + c.b.rest.length + 1 < 70368744177664) (h0 : lk l f 0 = .pointer (some ⟨c.cr, 0, none⟩)) :
    rec6.wp Tryz.prog (NPost fun a w' => ∃ l' lv ev, a = Fr 560 ((7, ev) :: (6, lv) :: l') f ∧ Keeps [] l f l' ∧ LinePost B G w c (.returned (.tuple #[lv, ev])) w') (Fr 560 l f) w := by
  dsimp only [rec6, part, part.sub2', sub1, sub2, recBody, Tryz.f51, Option.getD]
  have hL := readLine_any B G w c hc hsmall
  clear hc
  go_wp
  refine hL.mono ?_
  intro e w3 hp
  obtain ⟨lv, ev, rfl⟩ : ∃ lv ev, e = .returned (.tuple #[lv, ev]) := by
    obtain ⟨c3, lb, lo, cap, h, _⟩ := hp
    exact ⟨_, _, h⟩
  dsimp only
  have Hr := Lib.hid hp
  clear hp hL
  go_wp
  exact NPost.mk ⟨_, lv, ev, rfl, (by repeat first | exact Keeps.refl _ _ _ | refine Keeps.far (by decide) ?_ | refine Keeps.set (by decide) ?_), Hr.out⟩
noncomputable def rec72 : Code := part [true, false, true, true, true, true, true, true, true, true, true, true, true, true, true, false, false, false, false, true, true, true, true, true, true, false, false, false, true, true, true, true, false, true, true, true, false] recBody
set_option maxRecDepth 100000 in
theorem rec_line72 (B : Nat) (G : Glob) (w : World) (c : CSt) (l : List (Nat × Value)) (f : Nat → Value) (hc : LInv B G w c) (hsmall : c.numLine + c.b.rest.length + 1 < 70368744177664) (h0 : lk l f 0 = .pointer (some ⟨c.cr, 0, none⟩)) :
    rec72.wp Tryz.prog (NPost fun a w' => ∃ l' lv ev, a = Fr 560 ((7, ev) :: (6, lv) :: l') f ∧ Keeps [] l f l' ∧ LinePost B G w c (.returned (.tuple #[lv, ev])) w') (Fr 560 l f) w := by
  dsimp only [rec72, part, part.sub2', sub1, sub2, recBody, Tryz.f51, Option.getD]
  have hL := readLine_any B G w c hc hsmall
  clear hc
  go_wp
  refine hL.mono ?_
  intro e w3 hp
  obtain ⟨lv, ev, rfl⟩ : ∃ lv ev, e = .returned (.tuple #[lv, ev]) := by
    obtain ⟨c3, lb, lo, cap, h, _⟩ := hp
    exact ⟨_, _, h⟩
  dsimp only
  have Hr := Lib.hid hp
  clear hp hL
  go_wp
  exact NPost.mk ⟨_, lv, ev, rfl, (by repeat first | exact Keeps.refl _ _ _ | refine Keeps.far (by decide) ?_ | refine Keeps.set (by decide) ?_), Hr.out⟩
/- A line is left out: on to the next. -/
noncomputable def recX8 : Code := part [true, false, true, true, true, false, false, false, true, false, true, false, true] recBody
set_option maxRecDepth 100000 in
theorem rec_out8 (w : World) (l : List (Nat × Value)) (f : Nat → Value) (b : Bool) (hb : lk l f 77 = .bool b) :
    recX8.wp Tryz.prog (EPost 1 (fun a w' => b = false ∧ w' = w ∧ a = Fr 560 l f) (fun a w' => b = true ∧ w' = w ∧ ∃ l', a = Fr 560 l' f ∧ Keeps [6] l f l')) (Fr 560 l f) w := by
  dsimp only [recX8, part, part.sub2', sub1, sub2, recBody, Tryz.f51, Option.getD]
  cases b
  · refine wp_if_false rfl hb ?_
    exact wp_skip (EPost.mk ⟨rfl, rfl, rfl⟩)
  · refine wp_if_true rfl hb ?_
    go_wp
    exact EPost.out ⟨rfl, rfl, _, rfl, (by repeat first | exact Keeps.refl _ _ _ | refine Keeps.far (by decide) ?_ | refine Keeps.set (by decide) ?_)⟩
noncomputable def recX10 : Code := part [true, false, true, true, true, false, false, false, true, false, true, true, false, true] recBody
set_option maxRecDepth 100000 in
theorem rec_out10 (w : World) (l : List (Nat × Value)) (f : Nat → Value) (b : Bool) (hb : lk l f 86 = .bool b) :
    recX10.wp Tryz.prog (EPost 1 (fun a w' => b = false ∧ w' = w ∧ a = Fr 560 l f) (fun a w' => b = true ∧ w' = w ∧ ∃ l', a = Fr 560 l' f ∧ Keeps [6] l f l')) (Fr 560 l f) w := by
  dsimp only [recX10, part, part.sub2', sub1, sub2, recBody, Tryz.f51, Option.getD]
  cases b
  · refine wp_if_false rfl hb ?_
    exact wp_skip (EPost.mk ⟨rfl, rfl, rfl⟩)
  · refine wp_if_true rfl hb ?_
    go_wp
    exact EPost.out ⟨rfl, rfl, _, rfl, (by repeat first | exact Keeps.refl _ _ _ | refine Keeps.far (by decide) ?_ | refine Keeps.set (by decide) ?_)⟩
theorem Keeps.trans {S T U : List Nat} {l l1 l2 : List (Nat × Value)} {f : Nat → Value} (h : Keeps S l f l1) (h' : Keeps T l1 f l2) (hS : S.all (fun k => U.contains k) = true) (hT : T.all (fun k => U.contains k) = true) : Keeps U l f l2 := fun k hk hu => by
  have key : ∀ V : List Nat, V.all (fun k => U.contains k) = true → V.contains k = false := fun V hV => by
    rcases hc : V.contains k with _ | _
    · rfl
    · have := List.all_eq_true.1 hV k (by simpa using hc)
      rw [hu] at this; cases this
  rw [h' k hk (key T hT), h k hk (key S hS)]
noncomputable def recP7 : Code := part [true, false, true, true, true, false, false, false, true, false, true, false] recBody
theorem rec_p7 (B : Nat) (G : Glob) (w : World) (c : CSt) (r : RSt) (l : List (Nat × Value)) (f : Nat → Value) (hc : RInv B G w c r) (hv : c.opt.valid = true) (h0 : lk l f 0 = .pointer (some ⟨c.cr, 0, none⟩)) (lb lo cp : Nat) (line : List UInt8) (h6 : lk l f 6 = .slice (some ⟨lb, lo, none⟩) line.length cp) (hm : BytesAt w lb lo line) :
    recP7.wp Tryz.prog (EPost 1 (fun a w' => ∃ l', a = Fr 560 l' f ∧ Keeps [] l f l' ∧ Below w.heap.size w w' ∧ isCom c line = false) (fun a w' => ∃ l', a = Fr 560 l' f ∧ Keeps [6] l f l' ∧ Below w.heap.size w w' ∧ isCom c line = true)) (Fr 560 l f) w := by
  refine seq_part (x := recP7a) (y := recX8) (rec_p7a B G w c r l f hc hv h0 lb lo cp line h6 hm) ?_
  rintro a w1 ⟨l1, rfl, hk, hb⟩
  refine wp_mono (rec_out8 w1 _ f (isCom c line) (lk_same _ _ _ _)) ?_
  rintro (_ | i | _ | _ | _ | _) a w2 h
  · obtain ⟨h1, rfl, rfl⟩ := h
    exact ⟨_, rfl, Keeps.far rfl hk, hb, h1⟩
  · obtain ⟨rfl, h1, rfl, l2, rfl, hk2⟩ := h
    exact ⟨rfl, _, rfl, Keeps.trans (Keeps.far rfl hk) hk2 rfl rfl, hb, h1⟩
  all_goals exact h.elim
noncomputable def recP9 : Code := part [true, false, true, true, true, false, false, false, true, false, true, true, false] recBody
theorem rec_p9 (w : World) (G : Glob) (E : Bool) (l : List (Nat × Value)) (f : Nat → Value) (lb lo cp : Nat) (line : List UInt8) (h6 : lk l f 6 = .slice (some ⟨lb, lo, none⟩) line.length cp) (h7 : lk l f 7 = if E then errVal G.eof else .nilIface) (hm : BytesAt w lb lo line) (hlen : line.length ≤ cp) (hcap : cp ≤ 9223372036854775807) :
    recP9.wp Tryz.prog (EPost 1 (fun a w' => ∃ l', a = Fr 560 l' f ∧ Keeps [] l f l' ∧ w' = w ∧ (!E && Csv.nlLen line == line.length) = false) (fun a w' => ∃ l', a = Fr 560 l' f ∧ Keeps [6] l f l' ∧ w' = w ∧ (!E && Csv.nlLen line == line.length) = true)) (Fr 560 l f) w := by
  refine seq_part (x := recP9a) (y := recX10) (rec_p9a w G E l f lb lo cp line h6 h7 hm hlen hcap) ?_
  rintro a w1 ⟨l1, rfl, hk, rfl⟩
  refine wp_mono (rec_out10 w1 _ f _ (lk_same _ _ _ _)) ?_
  rintro (_ | i | _ | _ | _ | _) a w2 h
  · obtain ⟨h1, rfl, rfl⟩ := h
    exact ⟨_, rfl, Keeps.far rfl hk, rfl, h1⟩
  · obtain ⟨rfl, h1, rfl, l2, rfl, hk2⟩ := h
    exact ⟨rfl, _, rfl, Keeps.trans (Keeps.far rfl hk) hk2 rfl rfl, rfl, h1⟩
  all_goals exact h.elim
def srcOf (c : CSt) : Csv.Src := ⟨c.b.rest, c.numLine, c.offset⟩
/-- The reader stands well: nothing but its own blocks, and new ones, has changed since w0. -/
structure Stand (B : Nat) (G : Glob) (w0 : World) (c0 : CSt) (w : World) (c : CSt) (r : RSt) : Prop where
  inv : RInv B G w c r
  same : c = { c0 with b := c.b, raw := c.raw, numLine := c.numLine, offset := c.offset, rbuf := c.rbuf, idx := c.idx, pos := c.pos }
  only : Only c0.rown w0 w
  root : ∀ k, c.rown k → c0.rown k ∨ w0.heap.size ≤ k
section
variable {B : Nat} {G : Glob} {w0 w w' : World} {c0 c c' : CSt} {r r' : RSt}
theorem Stand.refl (h : RInv B G w c r) : Stand B G w c w c r := ⟨h, rfl, Only.refl _ _, fun _ h => .inl h⟩
theorem Stand.next (h : Stand B G w0 c0 w c r) (hi : RInv B G w' c' r') (hs : c' = { c with b := c'.b, raw := c'.raw, numLine := c'.numLine, offset := c'.offset, rbuf := c'.rbuf, idx := c'.idx, pos := c'.pos })
    (hO : Only c.rown w w') (hr : ∀ k, c'.rown k → c.rown k ∨ w.heap.size ≤ k) : Stand B G w0 c0 w' c' r' := by
  refine ⟨hi, ?_, h.only.trans hO (fun k hk o => ?_), fun k hk => ?_⟩
  · rw [h.same] at hs; exact hs
  · rcases h.root k o with h1 | h1
    · exact h1
    · omega
  · rcases hr k hk with h1 | h1
    · exact h.root k h1
    · exact .inr (Nat.le_trans h.only.size h1)
theorem Stand.below (h : Stand B G w0 c0 w c r) (hb : Below w.heap.size w w') : Stand B G w0 c0 w' c r :=
  h.next (h.inv.below hb) rfl ((Only.of_below hb).mono (fun k hk h => absurd hk (by omega))) (fun _ h => .inl h)
theorem Stand.idx (h : Stand B G w0 c0 w c r) {v' : Value} (hi : RInv B G w' { c with idx := v' } r') (hO : Only (fun k => k = c.cr ∨ c.idx.ownBlock = some k) w w') (hv : v'.ownBlock = c.idx.ownBlock ∨ ∃ g, v'.ownBlock = some g ∧ w.heap.size ≤ g) : Stand B G w0 c0 w' { c with idx := v' } r' := by
  refine h.next hi rfl (hO.mono (fun k _ h => h.elim (fun e => .inl (.inl e)) (fun e => .inr (.inr (.inl e))))) ?_
  rintro k (hk | hk | hk | hk)
  · exact .inl (.inl hk)
  · exact .inl (.inr (.inl hk))
  · rcases hv with e | ⟨g, e, hg⟩
    · exact .inl (.inr (.inr (.inl (e.symm.trans hk))))
    · have : some g = some k := e.symm.trans hk
      injection this with this
      exact .inr (by omega)
  · exact .inl (.inr (.inr (.inr hk)))
theorem Stand.posr (h : Stand B G w0 c0 w c r) {v' : Value} (hi : RInv B G w' { c with pos := v' } r') (hO : Only (fun k => k = c.cr ∨ c.pos.ownBlock = some k) w w') (hv : v'.ownBlock = c.pos.ownBlock ∨ ∃ g, v'.ownBlock = some g ∧ w.heap.size ≤ g) : Stand B G w0 c0 w' { c with pos := v' } r' := by
  refine h.next hi rfl (hO.mono (fun k _ h => h.elim (fun e => .inl (.inl e)) (fun e => .inr (.inr (.inr e))))) ?_
  rintro k (hk | hk | hk | hk)
  · exact .inl (.inl hk)
  · exact .inl (.inr (.inl hk))
  · exact .inl (.inr (.inr (.inl hk)))
  · rcases hv with e | ⟨g, e, hg⟩
    · exact .inl (.inr (.inr (.inr (e.symm.trans hk))))
    · have : some g = some k := e.symm.trans hk
      injection this with this
      exact .inr (by omega)
theorem Stand.bufr (h : Stand B G w0 c0 w c r) {v' : Value} (hi : RInv B G w' { c with rbuf := v' } r') (hO : Only (fun k => k = c.cr ∨ c.rbuf.ownBlock = some k) w w') (hv : v'.ownBlock = c.rbuf.ownBlock ∨ ∃ g, v'.ownBlock = some g ∧ w.heap.size ≤ g) : Stand B G w0 c0 w' { c with rbuf := v' } r' := by
  refine h.next hi rfl (hO.mono (fun k _ h => h.elim (fun e => .inl (.inl e)) (fun e => .inr (.inl e)))) ?_
  rintro k (hk | hk | hk | hk)
  · exact .inl (.inl hk)
  · rcases hv with e | ⟨g, e, hg⟩
    · exact .inl (.inr (.inl (e.symm.trans hk)))
    · have : some g = some k := e.symm.trans hk
      injection this with this
      exact .inr (by omega)
  · exact .inl (.inr (.inr (.inl hk)))
  · exact .inl (.inr (.inr (.inr hk)))
/-- Where a line lies. -/
structure LineAt (w : World) (c : CSt) (line : List UInt8) (lb lo cp : Nat) : Prop where
  at_ : BytesAt w lb lo line
  len : line.length ≤ cp
  cap : cp ≤ 9223372036854775807
  spot : lb = c.b.buf ∨ c.raw.ownBlock = some lb
theorem LineAt.lt {line : List UInt8} {lb lo cp : Nat} (h : LineAt w c line lb lo cp) (hi : LInv B G w c) : lb < w.heap.size := by
  rcases h.spot with e | e
  · rw [e]; exact hi.b.buf.lt
  · obtain ⟨l, hl⟩ := hi.raw; exact (own_lt hl e).2
theorem LineAt.below {line : List UInt8} {lb lo cp : Nat} (h : LineAt w c line lb lo cp) (hi : LInv B G w c) (hb : Below w.heap.size w w') : LineAt w' c line lb lo cp :=
  ⟨h.at_.keep (hb.block lb (h.lt hi)), h.len, h.cap, h.spot⟩
/-- Behind readLine. -/
theorem Stand.line (h : Stand B G w0 c0 w c r) {lv ev : Value} (hp : LinePost B G w c (.returned (.tuple #[lv, ev])) w') :
    ∃ (c' : CSt) (lb lo cp : Nat), Stand B G w0 c0 w' c' r ∧ lv = .slice (some ⟨lb, lo, none⟩) (srcOf c).line.length cp ∧ ev = (if c.b.rest.isEmpty then errVal G.eof else .nilIface) ∧ LineAt w' c' (srcOf c).line lb lo cp ∧ srcOf c' = (srcOf c).next ∧ Only c.lown w w' ∧
      c'.pos = c.pos ∧ c'.idx = c.idx ∧ c'.rbuf = c.rbuf ∧ ∀ k, c'.rown k → c.rown k ∨ w.heap.size ≤ k := by
  obtain ⟨c3, lb, lo, cap, he, hL3, hc3, hrest, hrb, hbuf, hs, hO3, hraw3, hat, hlen, hcap, hspot⟩ := hp
  simp only [Ending.returned.injEq, Value.tuple.injEq] at he
  have he' := congrArg Array.toList he
  simp only [List.cons.injEq, and_true] at he'
  obtain ⟨e1, e2⟩ := he'
  have e3 : c3.numLine = c.numLine + 1 := by rw [hc3]
  have e4 : c3.offset = c.offset + (Csv.rawLine c.b.rest).1.length := by rw [hc3]
  have hroot : ∀ k, c3.rown k → c.rown k ∨ w.heap.size ≤ k := by
    rintro k ((hk | (hk | hk | hk) | hk) | hk | hk | hk)
    · exact .inl (.inl (.inl (by rw [hk, hc3])))
    · exact .inl (.inl (.inr (.inl (.inl (hk.trans hrb)))))
    · exact .inl (.inl (.inr (.inl (.inr (.inl (hk.trans hbuf))))))
    · exact .inl (.inl (.inr (.inl (.inr (.inr (hk.trans hs))))))
    · rcases hraw3 with e | ⟨g, e, hg⟩
      · exact .inl (.inl (.inr (.inr (e.symm.trans hk))))
      · have : some g = some k := e.symm.trans hk
        injection this with this
        exact .inr (by omega)
    · exact .inl (.inr (.inl (by rw [hc3] at hk; exact hk)))
    · exact .inl (.inr (.inr (.inl (by rw [hc3] at hk; exact hk))))
    · exact .inl (.inr (.inr (.inr (by rw [hc3] at hk; exact hk))))
  refine ⟨c3, lb, lo, cap, h.next (h.inv.line hL3 (by rw [hc3]) hbuf hO3 hraw3) (by rw [hc3]) (hO3.mono (fun k _ h => .inl h)) hroot, e1, e2, ⟨hat, hlen, hcap, hspot⟩, ?_, hO3, by rw [hc3], by rw [hc3], by rw [hc3], hroot⟩
  unfold srcOf Csv.Src.next
  rw [hrest, e3, e4]
end
/-- While ignored lines are passed over. -/
structure Skipping (B : Nat) (G : Glob) (w : World) (c : CSt) (r : RSt) (w' : World) (c' : CSt) : Prop where
  st : Stand B G w c w' c' r
  small : c'.numLine + c'.b.rest.length ≤ c.numLine + c.b.rest.length
  rest : c'.b.rest.length ≤ c.b.rest.length
  skip : ∀ n, c.b.rest.length < n → ∃ m, c'.b.rest.length < m ∧ Csv.skip c.opt n (srcOf c) = Csv.skip c.opt m (srcOf c')
/-- Behind it. -/
structure Skipped (B : Nat) (G : Glob) (w : World) (c : CSt) (r : RSt) (w' : World) (c' : CSt) (lv errV : Value) : Prop where
  st : Stand B G w c w' c' r
  small : c'.numLine + c'.b.rest.length ≤ c.numLine + c.b.rest.length + 1
  res : (errV = errVal G.eof ∧ ∀ n, c.b.rest.length < n → Csv.skip c.opt n (srcOf c) = (none, srcOf c')) ∨
    (errV = .nilIface ∧ c'.numLine + c'.b.rest.length ≤ c.numLine + c.b.rest.length ∧ ∃ (l : List UInt8) (lb lo cap : Nat), lv = .slice (some ⟨lb, lo, none⟩) l.length cap ∧ LineAt w' c' l lb lo cap ∧ l.length + c'.b.rest.length ≤ c.b.rest.length ∧ c'.numLine + l.length + c'.b.rest.length ≤ c.numLine + c.b.rest.length + 1 ∧
      ∀ n, c.b.rest.length < n → Csv.skip c.opt n (srcOf c) = (some l, srcOf c'))
noncomputable def recLoop : Code := part [true, false, true, true, true, false] recBody
set_option maxRecDepth 100000 in
set_option maxHeartbeats 1000000 in
theorem rec_skip (B : Nat) (G : Glob) (w : World) (c : CSt) (r : RSt) (dst : Value) (l : List (Nat × Value)) (f : Nat → Value) (hc : RInv B G w c r) (hv : c.opt.valid = true) (hsmall : c.numLine + c.b.rest.length + 1 < 70368744177664)
    (h0 : lk l f 0 = .pointer (some ⟨c.cr, 0, none⟩)) (h1 : lk l f 1 = dst) (h7 : lk l f 7 = .nilIface) :
    recLoop.wp Tryz.prog (NPost fun a w' => ∃ l c' lv errV, a = Fr 560 l f ∧ lk l f 0 = .pointer (some ⟨c.cr, 0, none⟩) ∧ lk l f 1 = dst ∧ lk l f 6 = lv ∧ lk l f 7 = errV ∧ Skipped B G w c r w' c' lv errV) (Fr 560 l f) w := by
  dsimp only [recLoop, part, part.sub2', sub1, sub2, recBody, Tryz.f51, Option.getD]
  refine wp_block ?_
  refine wp_loop_n (fun k a w' => ∃ l c', a = Fr 560 l f ∧ lk l f 0 = .pointer (some ⟨c.cr, 0, none⟩) ∧ lk l f 1 = dst ∧ lk l f 7 = .nilIface ∧ Skipping B G w c r w' c' ∧ k = c'.b.rest.length) c.b.rest.length ⟨l, c, rfl, h0, h1, h7, ?_, rfl⟩ ?_
  · exact ⟨Stand.refl hc, Nat.le_refl _, Nat.le_refl _, fun n hn => ⟨n, hn, rfl⟩⟩
  clear h0 h1 h7 l
  rintro k a w2 ⟨l, c2, rfl, h0, h1, h7, hI, rfl⟩
  have ecr : c2.cr = c.cr := by rw [hI.st.same]
  have eopt : c2.opt = c.opt := by rw [hI.st.same]; rfl
  refine seq_part (rec_p5 w2 l f h7) ?_
  rintro a w2 ⟨l2, rfl, hk, rfl⟩
  refine wp_block ?_
  refine seq_part (rec_line6 B G w2 c2 l2 f hI.st.inv.l (by have := hI.small; omega) (by rw [hk 0 (by omega) rfl, ecr]; exact h0)) ?_
  rintro a w3 ⟨l3, lv, ev, rfl, hk3, hp⟩
  obtain ⟨c3, lb, lo, cp, hS3, rfl, rfl, hline, hsrc, _⟩ := hI.st.line hp
  have ecr3 : c3.cr = c.cr := by rw [hS3.same]
  have eopt3 : c3.opt = c.opt := by rw [hS3.same]; rfl
  have hK3 : ∀ k, k < 6 → lk l3 f k = lk l f k := fun k hlt => by rw [hk3 k (by omega) rfl, hk k (by omega) rfl]
  have hlen := rawLine_len c2.b.rest
  have hnl : c3.numLine = c2.numLine + 1 := congrArg Csv.Src.numLine hsrc
  have hrs : c3.b.rest = (Csv.rawLine c2.b.rest).2 := congrArg Csv.Src.left hsrc
  have hnorm := normLine_le (Csv.rawLine c2.b.rest).1
  obtain ⟨line, hl⟩ : ∃ line, line = (srcOf c2).line := ⟨_, rfl⟩
  have hl' : line = Csv.normLine (Csv.rawLine c2.b.rest).1 := hl
  rw [← hl] at hline ⊢
  rw [← hl'] at hnorm
  have hsm := hI.small
  have hcont : ∀ (w4 : World) (l4 : List (Nat × Value)), Stand B G w c w4 c3 r → lk l4 f 0 = .pointer (some ⟨c.cr, 0, none⟩) → lk l4 f 1 = dst → lk l4 f 7 = .nilIface → c2.b.rest.isEmpty = false → Csv.ignored c.opt line = true →
      ∃ m, m < c2.b.rest.length ∧ ∃ l c', Fr 560 l4 f = Fr 560 l f ∧ lk l f 0 = .pointer (some ⟨c.cr, 0, none⟩) ∧ lk l f 1 = dst ∧ lk l f 7 = .nilIface ∧ Skipping B G w c r w4 c' ∧ m = c'.b.rest.length := by
    intro w4 l4 hS4 k0 k1 k7 hE hig
    have hE' : c2.b.rest ≠ [] := fun h => by rw [h] at hE; cases hE
    have h1' := hlen.2 hE'
    have h1'' := hlen.1
    have h3 := congrArg List.length hrs
    refine ⟨c3.b.rest.length, by omega, l4, c3, rfl, k0, k1, k7, ⟨hS4, by omega, by have := hI.rest; omega, fun n hn => ?_⟩, rfl⟩
    obtain ⟨m, hm, hsk⟩ := hI.skip n hn
    obtain ⟨m, rfl⟩ : ∃ m', m = m' + 1 := ⟨m - 1, by omega⟩
    refine ⟨m, by omega, ?_⟩
    rw [hsk, hsrc]
    conv => lhs; unfold Csv.skip
    rw [if_neg (show ¬ (srcOf c2).left.isEmpty = true by rw [show (srcOf c2).left.isEmpty = false from hE]; simp), ← hl, hig, if_pos rfl]
  have hK : ∀ k, k < 6 → lk ((7, if c2.b.rest.isEmpty then errVal G.eof else .nilIface) :: (6, .slice (some ⟨lb, lo, none⟩) line.length cp) :: l3) f k = lk l f k := fun k hlt => by
    rw [lk_ne _ _ _ _ _ (by simp; omega), lk_ne _ _ _ _ _ (by simp; omega)]
    exact hK3 k hlt
  refine seq_epart (rec_p7 B G w3 c3 r _ f hS3.inv (by rw [eopt3]; exact hv) (by rw [ecr3, hK 0 (by omega)]; exact h0) lb lo cp line (by rw [lk_ne _ _ _ _ _ rfl, lk_same]) hline.at_) ?_ ?_
  · rintro a w4 ⟨l4, rfl, hk4, hb4, hnc⟩
    have hS4 := hS3.below hb4
    have hline4 := hline.below hS3.inv.l hb4
    refine seq_epart (rec_p9 w4 G c2.b.rest.isEmpty l4 f lb lo cp line (by rw [hk4 6 (by omega) rfl, lk_ne _ _ _ _ _ rfl, lk_same]) (by rw [hk4 7 (by omega) rfl, lk_same]) hline4.at_ hline4.len hline4.cap) ?_ ?_
    · rintro a w5 ⟨l5, rfl, hk5, rfl, hnl⟩
      refine wp_exit ?_
      have hK5 : ∀ k, k < 6 → lk l5 f k = lk l f k := fun k hlt => by rw [hk5 k (by omega) rfl, hk4 k (by omega) rfl, hK k hlt]
      refine ⟨l5, c3, _, _, rfl, by rw [hK5 0 (by omega)]; exact h0, by rw [hK5 1 (by omega)]; exact h1, rfl, rfl, hS4, ?_, ?_⟩
      · have h1 := hlen.1
        have h3 := congrArg List.length hrs
        omega
      · rw [hk5 6 (by omega) rfl, hk4 6 (by omega) rfl, lk_ne _ _ _ _ _ rfl, lk_same, hk5 7 (by omega) rfl, hk4 7 (by omega) rfl, lk_same]
        by_cases hE : c2.b.rest.isEmpty = true
        · rw [if_pos hE]
          refine .inl ⟨rfl, fun n hn => ?_⟩
          obtain ⟨m, hm, hsk⟩ := hI.skip n hn
          rw [hsk]
          obtain ⟨m, rfl⟩ : ∃ m', m = m' + 1 := ⟨m - 1, by omega⟩
          unfold Csv.skip
          rw [if_pos (show (srcOf c2).left.isEmpty = true from hE), hsrc]
        · rw [if_neg hE]
          have hE' : c2.b.rest ≠ [] := fun h => hE (by rw [h]; rfl)
          have h1' := hlen.2 hE'
          have h1'' := hlen.1
          have h3 := congrArg List.length hrs
          have hEf : c2.b.rest.isEmpty = false := by simpa using hE
          refine .inr ⟨rfl, by omega, line, lb, lo, cp, rfl, hline4, ?_, ?_, fun n hn => ?_⟩
          · have hr2 := hI.rest
            omega
          · omega
          · obtain ⟨m, hm, hsk⟩ := hI.skip n hn
            rw [hsk]
            obtain ⟨m, rfl⟩ : ∃ m', m = m' + 1 := ⟨m - 1, by omega⟩
            have hig : Csv.ignored c.opt line = false := by
              unfold Csv.ignored
              rw [Bool.or_eq_false_iff]
              refine ⟨?_, ?_⟩
              · rw [← eopt3]; exact hnc
              · rw [hEf] at hnl; simpa using hnl
            unfold Csv.skip
            rw [if_neg (show ¬ (srcOf c2).left.isEmpty = true from hE), ← hl, hig, if_neg (by simp), hsrc]
    · rintro a w5 ⟨l5, rfl, hk5, rfl, hnl⟩
      have hK5 : ∀ k, k < 6 → lk l5 f k = lk l f k := fun k hlt => by rw [hk5 k (by omega) (by simp; omega), hk4 k (by omega) rfl, hK k hlt]
      simp only [Bool.and_eq_true, Bool.not_eq_true', beq_iff_eq] at hnl
      refine hcont w5 l5 hS4 (by rw [hK5 0 (by omega)]; exact h0) (by rw [hK5 1 (by omega)]; exact h1) (by rw [hk5 7 (by omega) rfl, hk4 7 (by omega) rfl, lk_same, hnl.1]; rfl) hnl.1 ?_
      unfold Csv.ignored
      simp [hnl.2]
  · rintro a w4 ⟨l4, rfl, hk4, hb4, hcm⟩
    have hK4 : ∀ k, k < 6 → lk l4 f k = lk l f k := fun k hlt => by rw [hk4 k (by omega) (by simp; omega), hK k hlt]
    have hEf : c2.b.rest.isEmpty = false := by
      cases hE : c2.b.rest with
      | cons => rfl
      | nil =>
        exfalso
        rw [hl', hE] at hcm
        unfold isCom at hcm
        simp only [Bool.and_eq_true, decide_eq_true_eq] at hcm
        have := (List.isPrefixOf_iff_prefix.1 hcm.2)
        have h9 : Csv.normLine (Csv.rawLine []).1 = [] := rfl
        rw [h9, List.prefix_nil] at this
        exact enc_ne _ this
    refine hcont w4 l4 (hS3.below hb4) (by rw [hK4 0 (by omega)]; exact h0) (by rw [hK4 1 (by omega)]; exact h1) (by rw [hk4 7 (by omega) rfl, lk_same, hEf]; rfl) hEf ?_
    unfold Csv.ignored
    rw [Bool.or_eq_true]
    left
    rw [← eopt3]; exact hcm
end Go.Proofs.YtfadgnopfjajbaaGreatDoor
