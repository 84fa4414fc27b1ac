/- A part of the proof:  -/
import Derived.Test.YtfadgnopfjajbaaGreatDoorP01
import GoSem.Core.Utf8
import Derived.Test.YtfadgnopfjajbaaGreatDoorProg
import Derived.Lib.BytesEntry
import Derived.Lib.Hide
import Derived.LaidEql
import Derived.Shelf.Unicode.DecodeSlow
import Derived.Shelf.Unicode.IsSpaceAny
import Derived.Maps.AppendAt
namespace Csv

abbrev Bytes := List UInt8

abbrev NL : UInt8 := 10
abbrev CR : UInt8 := 13
abbrev QU : UInt8 := 34

/-- UTF-8 of a rune. -/
def enc (r : Int) : Bytes := (Go.Utf8.encode r).data.toList

/-- The first place where p stands in l. -/
def indexOf (p : Bytes) : Bytes → Option Nat
  | [] => if p.isEmpty then some 0 else none
  | c :: t => if p.isPrefixOf (c :: t) then some 0 else (indexOf p t).map (· + 1)

/-- The first place of a byte. -/
def indexByte (b : UInt8) : Bytes → Option Nat
  | [] => none
  | c :: t => if c = b then some 0 else (indexByte b t).map (· + 1)

/-- 1 if the text ends with a newline. -/
def nlLen (l : Bytes) : Nat := if l.getLast? = some NL then 1 else 0

/-- The white space of package unicode. -/
def isSpace (r : Nat) : Bool :=
  (9 ≤ r && r ≤ 13) || r == 32 || r == 133 || r == 160 || r == 5760 || (8192 ≤ r && r ≤ 8202) || r == 8232 || r == 8233 || r == 8239 || r == 8287 || r == 12288

/-- The place of the first rune that is no white space; fuel: at least the text's length. -/
def spaceEnd : Nat → Bytes → Option Nat
  | 0, _ => none
  | _ + 1, [] => none
  | n + 1, c :: t =>
    let d := Go.Utf8.decode ⟨(c :: t).toArray⟩ 0
    if isSpace d.1 then (spaceEnd n ((c :: t).drop d.2)).map (· + d.2) else some 0

/-- The first line, its newline included, and what is left. -/
def rawLine : Bytes → Bytes × Bytes
  | [] => ([], [])
  | c :: t => if c = NL then ([c], t) else (c :: (rawLine t).1, (rawLine t).2)

/-- A line as the reader hands it on: a carriage return ahead of its newline, or of the end of the text, is left out. -/
def normLine (l : Bytes) : Bytes :=
  if l.getLast? = some NL then
    (if l.dropLast.getLast? = some CR then l.dropLast.dropLast ++ [NL] else l)
  else if l.getLast? = some CR then l.dropLast else l

/-- The options that parsing depends on. -/
structure Opt where
  comma : Int
  comment : Int
  lazy : Bool
  trim : Bool

/-- Where the reader stands in its text. -/
structure Src where
  left : Bytes
  numLine : Nat
  offset : Nat

/-- The line that readLine hands back. -/
def Src.line (s : Src) : Bytes := normLine (rawLine s.left).1
/-- The state behind readLine. -/
def Src.next (s : Src) : Src := ⟨(rawLine s.left).2, s.numLine + 1, s.offset + (rawLine s.left).1.length⟩

/-- A failure: its kind (0 none, 1 the end, 2 a bare quote, 3 a quote, 4 the number of fields, 5 another) and the three numbers of a ParseError. -/
structure Fail where
  kind : Nat
  start : Nat
  line : Nat
  col : Nat
deriving DecidableEq

def Fail.none : Fail := ⟨0, 0, 0, 0⟩

/-- The parser between two steps. -/
structure St where
  src : Src
  line : Bytes
  pl : Nat
  pc : Nat
  fields : List Bytes
  poss : List (Nat × Nat)
  cur : Bytes
  quoted : Option (Nat × Nat)

/-- What parsing a record comes to. -/
structure Out where
  src : Src
  fields : List Bytes
  poss : List (Nat × Nat)
  fail : Fail

def St.push (s : St) (f : Bytes) (p : Nat × Nat) : St := { s with fields := s.fields ++ [f], poss := s.poss ++ [p], cur := [], quoted := none }
def St.out (s : St) (e : Fail) : Out := ⟨s.src, s.fields, s.poss, e⟩

/-- Leading white space left out. -/
def St.trimmed (o : Opt) (s : St) : St :=
  if o.trim then
    match spaceEnd s.line.length s.line with
    | some i => { s with line := s.line.drop i, pc := s.pc + i }
    | none => { s with line := [], pc := s.pc + (s.line.length - nlLen s.line) }
  else s

/-- A field that is not quoted: f, behind which 'next' is left (none: the line is at its end). -/
def St.plain (o : Opt) (rec : Nat) (s : St) (f : Bytes) (next : Option Nat) : St ⊕ Out :=
  match (if o.lazy then none else indexByte QU f) with
  | some j => .inr (s.out ⟨2, rec, s.src.numLine, s.pc + j⟩)
  | none =>
    match next with
    | some n => .inl { s.push f (s.pl, s.pc) with line := s.line.drop n, pc := s.pc + n }
    | none => .inr ((s.push f (s.pl, s.pc)).out Fail.none)

/-- A step at the start of a field. -/
def St.stepStart (o : Opt) (rec : Nat) (s : St) : St ⊕ Out :=
  if s.line.head? = some QU then
    .inl { s with line := s.line.drop 1, pc := s.pc + 1, cur := [], quoted := some (s.pl, s.pc) }
  else
    match indexOf (enc o.comma) s.line with
    | some i => s.plain o rec (s.line.take i) (some (i + (enc o.comma).length))
    | none => s.plain o rec (s.line.take (s.line.length - nlLen s.line)) none

/-- A step behind a quote that was met in a quoted field: l is what is left of the line, c what the field holds. -/
def St.stepQuote (o : Opt) (rec : Nat) (s : St) (p : Nat × Nat) (c l : Bytes) (pc : Nat) : St ⊕ Out :=
  if l.head? = some QU then .inl { s with cur := c ++ [QU], line := l.drop 1, pc := pc + 1 }
  else if (enc o.comma).isPrefixOf l then .inl { s.push c p with line := l.drop (enc o.comma).length, pc := pc + (enc o.comma).length }
  else if nlLen l = l.length then .inr ((s.push c p).out Fail.none)
  else if o.lazy then .inl { s with cur := c ++ [QU], line := l, pc := pc }
  else .inr (s.out ⟨3, rec, s.src.numLine, pc - 1⟩)

/-- A step in a quoted field. -/
def St.stepOpen (o : Opt) (rec : Nat) (s : St) (p : Nat × Nat) : St ⊕ Out :=
  match indexByte QU s.line with
  | some i => s.stepQuote o rec p (s.cur ++ s.line.take i) (s.line.drop (i + 1)) (s.pc + i + 1)
  | none =>
    if s.line = [] then
      if o.lazy then .inr ((s.push s.cur p).out Fail.none) else .inr (s.out ⟨3, rec, s.pl, s.pc⟩)
    else
      .inl { s with src := s.src.next, cur := s.cur ++ s.line, line := s.src.line,
                    pl := if s.src.line = [] then s.pl else s.pl + 1,
                    pc := if s.src.line = [] then s.pc + s.line.length else 1 }

def St.step (o : Opt) (rec : Nat) (s : St) : St ⊕ Out :=
  match s.quoted with
  | none => (s.trimmed o).stepStart o rec
  | some p => s.stepOpen o rec p

def St.run (o : Opt) (rec : Nat) : Nat → St → Out
  | 0, s => s.out ⟨5, 0, 0, 0⟩
  | n + 1, s => match s.step o rec with
    | .inl s' => s'.run o rec n
    | .inr r => r

/-- How many steps are left at most. -/
def St.size (s : St) : Nat := s.line.length + s.src.left.length + 1

/-- Lines that are ignored: blank ones and comments. -/
def ignored (o : Opt) (l : Bytes) : Bool := (decide (o.comment ≠ 0) && (enc o.comment).isPrefixOf l) || nlLen l == l.length

/-- The first line that is not ignored, and the state behind it; or, at the end of the text, that state alone. -/
def skip (o : Opt) : Nat → Src → Option Bytes × Src
  | 0, s => (none, s)
  | n + 1, s => if s.left.isEmpty then (none, s.next) else if ignored o s.line then skip o n s.next else (some s.line, s.next)

/-- A delimiter that the reader takes. -/
def validDelim (r : Int) : Bool := r != 0 && r != 34 && r != 13 && r != 10 && Go.Utf8.valid r && r != 65533

def Opt.valid (o : Opt) : Bool := !(o.comma == o.comment) && validDelim o.comma && (o.comment == 0 || validDelim o.comment)

/-- The reader between two calls. -/
structure Rd where
  src : Src
  expect : Int
  poss : List (Nat × Nat)

def St.init (s : Src) (l : Bytes) : St := ⟨s, l, s.numLine, 1, [], [], [], none⟩

/-- The check of the number of fields. -/
def counted (expect : Int) (rec n : Nat) (f : Fail) : Fail :=
  if 0 < expect ∧ (n : Int) ≠ expect ∧ f.kind = 0 then ⟨4, rec, rec, 1⟩ else f

/-- A call of readRecord: the fields (none: no record at all), the failure, the reader behind it. -/
def Rd.read (o : Opt) (r : Rd) : Option (List Bytes) × Fail × Rd :=
  if !o.valid then (none, ⟨5, 0, 0, 0⟩, r)
  else match skip o (r.src.left.length + 1) r.src with
    | (none, s) => (none, ⟨1, 0, 0, 0⟩, { r with src := s })
    | (some l, s) =>
      let st := St.init s l
      let q := st.run o s.numLine st.size
      (some q.fields, counted r.expect s.numLine q.fields.length q.fail,
        ⟨q.src, if r.expect = 0 then q.fields.length else r.expect, q.poss⟩)

/-- ReadAll: the records so far, till the end or a failure. -/
def Rd.all (o : Opt) : Nat → Rd → List (List Bytes) → List (List Bytes) × Fail × Rd
  | 0, r, _ => ([], ⟨5, 0, 0, 0⟩, r)
  | n + 1, r, acc =>
    match r.read o with
    | (rec, f, r') =>
      if f.kind = 1 then (acc, Fail.none, r')
      else if f.kind ≠ 0 then ([], f, r')
      else Rd.all o n r' (acc ++ [rec.getD []])

/-- A call of a script. -/
structure Cal where
  op : Int
  field : Int

/-- An answer. -/
structure Ans where
  record : List Bytes := []
  later : List Bytes := []
  records : List (List Bytes) := []
  fail : Fail := Fail.none
  line : Nat := 0
  col : Nat := 0
  panicked : Bool := false
  n : Int := 0

/-- A slice of a record's array: the array's number and the length; none: nil. -/
abbrev Ref := Option (Nat × Nat)

/-- A script's run between two calls. -/
structure Ses where
  rd : Rd
  arrays : List (List Bytes)
  last : Ref
  cache : Ref
  kept : List Ref
  answers : List Ans

def deref (arrays : List (List Bytes)) : Ref → List Bytes
  | none => []
  | some (i, n) => (arrays.getD i []).take n

/-- The array that holds a record of fields fs: a new one, or the cached one. -/
def place (arrays : List (List Bytes)) (cache : Ref) (fs : List Bytes) : List (List Bytes) × Ref :=
  match cache with
  | none => if fs.isEmpty then (arrays, none) else (arrays ++ [fs], some (arrays.length, fs.length))
  | some (i, _) =>
    if (arrays.getD i []).length < fs.length then (arrays ++ [fs], some (arrays.length, fs.length))
    else (arrays.set i (fs ++ (arrays.getD i []).drop fs.length), some (i, fs.length))

def spoiled : Bytes := [115, 112, 111, 105, 108, 101, 100]

def spoil (arrays : List (List Bytes)) : Ref → List (List Bytes)
  | none => arrays
  | some (i, n) => arrays.set i (List.replicate n spoiled ++ (arrays.getD i []).drop n)

def Ses.call (o : Opt) (reuse : Bool) (s : Ses) (c : Cal) : Ses :=
  if c.op = 0 then
    match s.rd.read o with
    | (none, f, rd) => { s with rd := rd, last := none, cache := none, kept := s.kept ++ [none], answers := s.answers ++ [{ fail := f }] }
    | (some fs, f, rd) =>
      let p := place s.arrays (if reuse then s.cache else none) fs
      { s with rd := rd, arrays := p.1, last := p.2, cache := if reuse then p.2 else none, kept := s.kept ++ [p.2], answers := s.answers ++ [{ record := fs, fail := f }] }
  else if c.op = 1 then
    match s.rd.all o (s.rd.src.left.length + 2) [] with
    | (rs, f, rd) => { s with rd := rd, kept := s.kept ++ [none], answers := s.answers ++ [{ records := rs, fail := f }] }
  else
    let a : Ans :=
      if c.op = 2 then
        (if c.field < 0 ∨ (s.rd.poss.length : Int) ≤ c.field then { panicked := true } else
          { line := (s.rd.poss.getD c.field.toNat (0, 0)).1, col := (s.rd.poss.getD c.field.toNat (0, 0)).2 })
      else if c.op = 3 then { n := s.rd.src.offset }
      else if c.op = 4 then { n := s.rd.expect }
      else {}
    { s with arrays := if c.op = 5 then spoil s.arrays s.last else s.arrays, kept := s.kept ++ [none], answers := s.answers ++ [a] }

def Ses.start (data : Bytes) (expect : Int) : Ses := ⟨⟨⟨data, 0, 0⟩, expect, []⟩, [], none, none, [], []⟩

def Ses.finish (s : Ses) : List Ans := s.answers.zipWith (fun a k => { a with later := deref s.arrays k }) s.kept

/-- What Scan returns. -/
def scan (data : Bytes) (o : Opt) (expect : Int) (reuse : Bool) (script : List Cal) : List Ans :=
  (script.foldl (Ses.call o reuse) (Ses.start data expect)).finish

end Csv
namespace Go.Proofs.YtfadgnopfjajbaaGreatDoor
open Go.RowKit

/-- The bytes l lie in block b from place o on. -/
def BytesAt (w : World) (b o : Nat) (l : List UInt8) : Prop := ∀ (j : Nat) (u : UInt8), l[j]? = some u → w.cell? ⟨b, o + j, none⟩ = some (b8 u)
theorem BytesAt.nil (w : World) (b o : Nat) : BytesAt w b o [] := fun j u h => by simp at h
theorem BytesAt.keep {w w' : World} {b o : Nat} {l : List UInt8} (h : BytesAt w b o l) (hk : w'.heap[b]? = w.heap[b]?) : BytesAt w' b o l :=
  fun j u hu => (World.cell?_of_block (a := ⟨b, o + j, none⟩) hk).trans (h j u hu)
theorem BytesAt.take {w : World} {b o : Nat} {l : List UInt8} (h : BytesAt w b o l) (n : Nat) : BytesAt w b o (l.take n) :=
  fun j u hu => h j u (by rw [List.getElem?_take] at hu; split at hu <;> first | exact hu | cases hu)
theorem BytesAt.drop {w : World} {b o : Nat} {l : List UInt8} (h : BytesAt w b o l) (n : Nat) : BytesAt w b (o + n) (l.drop n) :=
  fun j u hu => by rw [List.getElem?_drop] at hu; rw [Nat.add_assoc]; exact h _ u hu
theorem BytesAt.of_blk {w : World} {g : Nat} {t : TypeId} {bs : List UInt8} (h : Blk w g t (bs.map b8)) (o n : Nat) : BytesAt w g o ((bs.drop o).take n) := by
  refine BytesAt.take (fun j u hu => ?_) n
  rw [h.cell, List.getElem?_map]
  rw [List.getElem?_drop] at hu
  rw [hu]; rfl
/-- Behind 'x[i:]': at the very end of its array a slice keeps its address. -/
theorem BytesAt.cut {w : World} {b o c : Nat} {l : List UInt8} (h : BytesAt w b o l) (n : Nat) (hc : l.length ≤ c) :
    ∃ o', (if c = n then some (⟨b, o, none⟩ : Addr) else some ⟨b, o + n, none⟩) = some ⟨b, o', none⟩ ∧ BytesAt w b o' (l.drop n) ∧ (o' = o + n ∨ l.drop n = []) := by
  split
  · rename_i hn
    have e : l.drop n = [] := List.drop_eq_nil_of_le (by omega)
    exact ⟨o, rfl, by rw [e]; exact BytesAt.nil _ _ _, .inr e⟩
  · exact ⟨o + n, rfl, h.drop n, .inl rfl⟩

/-- A loop whose measure is a ghost. -/
theorem wp_loop_n {P : Program} {Q : Exit → Act → World → Prop} {a : Act} {w : World} {c : Code} (I : Nat → Act → World → Prop) (n : Nat) (h₀ : I n a w)
    (round : ∀ n a w, I n a w → c.wp P (Exit.then (fun a' w' => ∃ m, m < n ∧ I m a' w') Q) a w) : (Code.loop c).wp P Q a w := by
  intro b k cs
  have key : ∀ n a w, I n a w → ∃ e a' w', Q e a' w' ∧ Arrives P (lone (b.at a (.code c :: .inLoop c :: k)) cs w) b k cs e a' w' := by
    intro n
    induction n using Nat.strongRecOn with
    | _ n ih =>
      intro a w hI
      obtain ⟨e, a₁, w₁, hq, harr⟩ := round n a w hI b (.inLoop c :: k) cs
      cases e with
      | normal =>
        obtain ⟨m, hm, hI₁⟩ := hq
        obtain ⟨e₂, a₂, w₂, hq₂, harr₂⟩ := ih m hm a₁ w₁ hI₁
        exact ⟨e₂, a₂, w₂, hq₂, .of_steps (Steps.trans harr (.one step_inLoop)) harr₂⟩
      | _ => exact ⟨_, a₁, w₁, hq, .pass (x := .inLoop c) rfl (fun _ _ => .inl (by simp)) harr⟩
  obtain ⟨e, a', w', hq, harr⟩ := key n a w h₀
  exact ⟨e, a', w', hq, .of_steps (.one step_loop) harr⟩

/-- Go's index: -1 where there is none. -/
def goIdx : Option Nat → Int
  | some i => (i : Int)
  | none => -1

theorem indexByte_lib (l : List UInt8) (c : UInt8) : Lib.indexByte l c = goIdx (Csv.indexByte c l) := by
  induction l with
  | nil => rfl
  | cons b l ih =>
    simp only [Lib.indexByte, Csv.indexByte]
    by_cases h : b = c
    · subst h; simp [goIdx]
    · rw [if_neg (by simpa using h), if_neg h, ih]
      cases hi : Csv.indexByte c l with
      | none => simp [goIdx]
      | some i =>
        have h1 : (goIdx (some i) == -1) = false := by simp [goIdx]
        rw [h1]
        simp [goIdx]
theorem indexByte_le {c : UInt8} {l : List UInt8} {i : Nat} (h : Csv.indexByte c l = some i) : i < l.length := by
  induction l generalizing i with
  | nil => cases h
  | cons b l ih =>
    simp only [Csv.indexByte] at h
    split at h
    · injection h with h; subst h; simp
    · cases hi : Csv.indexByte c l with
      | none => rw [hi] at h; cases h
      | some k =>
        rw [hi] at h
        simp only [Option.map_some, Option.some.injEq] at h
        have := ih hi
        simp only [List.length_cons]
        omega
theorem indexByte_none {c : UInt8} {l : List UInt8} : Csv.indexByte c l = none ↔ c ∉ l := by
  induction l with
  | nil => simp [Csv.indexByte]
  | cons b l ih =>
    simp only [Csv.indexByte, List.mem_cons, not_or]
    by_cases h : b = c
    · subst h; simp
    · rw [if_neg h, Option.map_eq_none_iff, ih]
      exact ⟨fun hh => ⟨fun e => h e.symm, hh⟩, fun hh => hh.2⟩
theorem indexByte_some {c : UInt8} {l : List UInt8} {i : Nat} (h : Csv.indexByte c l = some i) : l[i]? = some c ∧ c ∉ l.take i := by
  induction l generalizing i with
  | nil => cases h
  | cons b l ih =>
    simp only [Csv.indexByte] at h
    by_cases hb : b = c
    · rw [if_pos hb] at h; injection h with h; subst h; subst hb; simp
    · rw [if_neg hb] at h
      cases hi : Csv.indexByte c l with
      | none => rw [hi] at h; cases h
      | some k =>
        rw [hi] at h
        simp only [Option.map_some, Option.some.injEq] at h
        subst h
        obtain ⟨h1, h2⟩ := ih hi
        exact ⟨by simpa using h1, by simp only [List.take_succ_cons, List.mem_cons, not_or]; exact ⟨fun e => hb e.symm, h2⟩⟩
theorem bytesOf_map (l : List UInt8) : Lib.bytesOf (l.map fun c => (c.toNat : Int)) = l := by
  unfold Lib.bytesOf
  rw [List.map_map]
  conv => rhs; rw [← List.map_id l]
  apply List.map_congr_left
  intro c _
  simp

set_option maxRecDepth 100000 in
set_option maxHeartbeats 400000 in
theorem bIndexByte_any (b o c : Nat) (l : List UInt8) (x : Nat) (w : World) (h : BytesAt w b o l) :
    Calls Tryz.prog 78 [.slice (some ⟨b, o, none⟩) l.length c, .int .u8 (x : Int)].toArray w fun e w' => e = .returned (.int .i64 (goIdx (Csv.indexByte (UInt8.ofNat x) l))) ∧ w' = w := by
  have hr := Lib.run_indexByteSlice (P := Tryz.prog) w b o l.length c (l.map fun c => (c.toNat : Int)) (by simp) (fun i hi => by
    have := h i l[i] (by simp [hi])
    rw [this]; simp [b8, hi]) (x : Int)
  rw [bytesOf_map, indexByte_lib] at hr
  have hx' : ((x : Int).toNat.toUInt8) = UInt8.ofNat x := by simp
  rw [hx'] at hr
  have he := fun args w => run_callFunc_extern (P := Tryz.prog) Tryz.func105 (by kernel_rfl) (by kernel_rfl) (by kernel_rfl) (e := Extern.BytealgIndexByte.indexByte) (by kernel_rfl) args w
  refine enter 8 Tryz.func78 rfl rfl (by simp) ?_
  go_wp
  refine ret1 rfl rfl ?_
  exact ⟨by simp [lk], rfl⟩
end Go.Proofs.YtfadgnopfjajbaaGreatDoor
namespace Go.Proofs.YtfadgnopfjajbaaGreatDoor
open Go.RowKit
theorem join_b {P : Program} {c : Code} {id : Nat} {K : Act → World → Prop} {Q : Exit → Act → World → Prop} {a : Act} {w : World} (R : Act → World → Prop) (hR : ∀ a w, R a w → K a w)
    (h : c.wp P (Exit.inBlock id (Exit.then R Q)) a w) : c.wp P (Exit.inBlock id (Exit.then K Q)) a w :=
  wp_mono h fun e a w q => by
    cases e with
    | normal => exact hR _ _ q
    | exit i =>
      simp only [Exit.inBlock, Exit.then] at q ⊢
      split
      · rename_i hi; rw [if_pos hi] at q; exact hR _ _ q
      · rename_i hi; rw [if_neg hi] at q; exact q
    | _ => exact q
theorem BInv.drew {B : Nat} {e : Value} {w : World} {b : BSt} (h : BInv B e w b) : BInv B e w.drew b :=
  ⟨h.rb, h.buf, h.len, h.src, h.sizes, h.rv, h.v4, h.end_, h.Brb, h.Bbuf, h.Bs, h.small, h.eof, h.eofB⟩
theorem BInv.rbset {B : Nat} {e : Value} {w w' : World} {b : BSt} (h : BInv B e w b) (hO : Only (fun k => k = b.rb) w w') (r v : Nat) (err : Bool) (lb lr : Int)
    (hrb : Blk w' b.rb 163 (rbCells e { b with r := r, v := v, err := err, lb := lb, lr := lr })) (hrv : r ≤ v) (hv4 : v ≤ 4096) (he : err = true → b.left = []) :
    BInv B e w' { b with r := r, v := v, err := err, lb := lb, lr := lr } := by
  have hBw : B ≤ w.heap.size := by have := h.rb.lt; have := h.Brb; omega
  have hbel : Below B w w' := hO.below hBw (fun k hk => by subst hk; exact h.Brb)
  exact ⟨hrb, h.buf.only hO (Ne.symm (ne_rb_buf h)), h.len, h.src.only hO (Ne.symm (ne_rb_s h)), h.sizes.keep hbel, hrv, hv4, he, h.Brb, h.Bbuf, h.Bs, h.small, (hbel.cell (p := ⟨0, 0, none⟩) h.eofB).trans h.eof, h.eofB⟩
theorem BInv.setr {B : Nat} {e : Value} {w : World} {b : BSt} (h : BInv B e w b) (r : Nat) (hr : r ≤ b.v) : BInv B e (w.setCell ⟨b.rb, 2, none⟩ (.int .i64 r)) { b with r := r } :=
  h.rbset ((Only.refl (fun k => k = b.rb) w).setCell (p := ⟨b.rb, 2, none⟩) (fun _ => rfl) _) r b.v b.err b.lb b.lr (h.rb.set 2 _) hr h.v4 h.end_
theorem BInv.seterr {B : Nat} {e : Value} {w : World} {b : BSt} (h : BInv B e w b) : BInv B e (w.setCell ⟨b.rb, 4, none⟩ .nilIface) { b with err := false } :=
  h.rbset ((Only.refl (fun k => k = b.rb) w).setCell (p := ⟨b.rb, 4, none⟩) (fun _ => rfl) _) b.r b.v false b.lb b.lr (h.rb.set 4 _) h.rv h.v4 (fun h => by cases h)
theorem BInv.setlast {B : Nat} {e : Value} {w : World} {b : BSt} (h : BInv B e w b) (lb lr : Int) : BInv B e ((w.setCell ⟨b.rb, 5, none⟩ (.int .i64 lb)).setCell ⟨b.rb, 6, none⟩ (.int .i64 lr)) { b with lb := lb, lr := lr } :=
  h.rbset (((Only.refl (fun k => k = b.rb) w).setCell (p := ⟨b.rb, 5, none⟩) (fun _ => rfl) _).setCell (p := ⟨b.rb, 6, none⟩) (fun _ => rfl) _) b.r b.v b.err lb lr ((h.rb.set 5 _).set 6 _) h.rv h.v4 h.end_
set_option maxRecDepth 100000 in
set_option maxHeartbeats 400000 in
theorem readErr_any (rb : Nat) (w : World) (e : Value) (h : w.cell? ⟨rb, 4, none⟩ = some e) (hz : w.frozen? ⟨rb, 4, none⟩ = false) :
    Calls Tryz.prog 111 [.pointer (some ⟨rb, 0, none⟩)].toArray w fun r w' => r = .returned e ∧ w' = w.setCell ⟨rb, 4, none⟩ .nilIface := by
  refine enter 12 Tryz.func111 rfl rfl (by simp) ?_
  go_wp
  refine ret1 rfl rfl ?_
  exact ⟨by simp [lk], rfl⟩
set_option maxRecDepth 100000 in
set_option maxHeartbeats 400000 in
theorem Buffered_any (rb : Nat) (w : World) (r v : Nat) (h : w.cell? ⟨rb, 2, none⟩ = some (.int .i64 r)) (h' : w.cell? ⟨rb, 3, none⟩ = some (.int .i64 v)) (hz : r ≤ v) (hv : v ≤ 4096) :
    Calls Tryz.prog 112 [.pointer (some ⟨rb, 0, none⟩)].toArray w fun e w' => e = .returned (.int .i64 ((v - r : Nat) : Int)) ∧ w' = w.drew := by
  obtain ⟨q, hq⟩ : ∃ q, q = v - r := ⟨_, rfl⟩
  have hw1 : IntKind.i64.wrap ((v : Int) - (r : Int)) = (q : Int) := by rw [IntWalk.i64_in _ (by omega)]; omega
  rw [← hq]
  clear hq
  refine enter 12 Tryz.func112 rfl rfl (by simp) ?_
  go_wp
  refine draw_still mixed (by kernel_rfl) ?_
  iterate 10 still_step
  refine wpStill_nil ?_
  go_wp
  refine ret1 rfl rfl ?_
  refine ⟨?_, rfl⟩
  simp [lk]
/-- What ReadSlice leaves: the line lies in the buffer, right ahead of b'.r. -/
def LineIn (eofV fullV : Value) (b b' : BSt) (line : List UInt8) (lineV errV : Value) : Prop :=
  ∃ (o : Nat) (off c : Nat), lineV = .slice (some ⟨b.buf, o, none⟩) line.length c ∧ line.length ≤ c ∧ c ≤ 4096 ∧ (line ≠ [] → o = off) ∧ off + line.length = b'.r ∧ (b'.bb.drop off).take line.length = line ∧
    line ++ b'.rest = b.rest ∧
    ((errV = .nilIface ∧ ∃ l0, line = l0 ++ [10] ∧ Csv.indexByte 10 l0 = none) ∨ (errV = eofV ∧ b'.rest = [] ∧ Csv.indexByte 10 line = none) ∨ (errV = fullV ∧ Csv.indexByte 10 line = none ∧ line.length = 4096))
theorem LineIn.last {eofV fullV : Value} {b b1 : BSt} {line : List UInt8} {lineV errV : Value} (h : LineIn eofV fullV b b1 line lineV errV) (x y : Int) : LineIn eofV fullV b { b1 with lb := x, lr := y } line lineV errV := h
theorem mk_line {B : Nat} {eofV fullV : Value} {w1 : World} {b b1 : BSt} (hb1 : BInv B eofV w1 b1) (hrest : b1.rest = b.rest) (n o c : Nat) (hn : n ≤ b1.v - b1.r) (ho : n ≠ 0 → o = b1.r) (hc : n ≤ c) (hc4 : c ≤ 4096) (b' : BSt) (e1 : b'.r = b1.r + n) (e2 : b'.v = b1.v) (e3 : b'.bb = b1.bb) (e4 : b'.left = b1.left) (errV : Value)
    (hcase : (errV = .nilIface ∧ ∃ l0, b1.pend.take n = l0 ++ [10] ∧ Csv.indexByte 10 l0 = none) ∨ (errV = eofV ∧ b1.rest.drop n = [] ∧ Csv.indexByte 10 (b1.pend.take n) = none) ∨ (errV = fullV ∧ Csv.indexByte 10 (b1.pend.take n) = none ∧ n = 4096)) :
    LineIn eofV fullV b b' (b1.pend.take n) (.slice (some ⟨b.buf, o, none⟩) n c) errV := by
  have hlen := hb1.len
  have hrv := hb1.rv
  have hv4 := hb1.v4
  have hpl : b1.pend.length = b1.v - b1.r := by unfold BSt.pend; simp; omega
  have hll : (b1.pend.take n).length = n := by rw [List.length_take, hpl]; omega
  have hpd : b'.pend = b1.pend.drop n := by unfold BSt.pend; rw [e1, e2, e3, List.drop_drop]
  have hr' : b'.rest = b1.rest.drop n := by
    unfold BSt.rest
    rw [hpd, e4, List.drop_append_of_le_length (by omega)]
  refine ⟨o, b1.r, c, by rw [hll], by rw [hll]; exact hc, hc4, fun h => ho (fun h0 => h (by rw [h0]; simp)), by rw [hll, e1], ?_, ?_, ?_⟩
  · rw [hll, e3]
    unfold BSt.pend
    rw [List.drop_take, List.take_take, Nat.min_eq_left hn]
  · rw [hr', ← hrest]
    unfold BSt.rest
    rw [List.drop_append_of_le_length (by omega), ← List.append_assoc, List.take_append_drop]
  · rcases hcase with h | ⟨h1, h2, h3⟩ | ⟨h1, h2, h3⟩
    · exact .inl h
    · exact .inr (.inl ⟨h1, by rw [hr']; exact h2, h3⟩)
    · exact .inr (.inr ⟨h1, h2, by rw [hll]; exact h3⟩)
/-- The newline was found at place i behind the first s bytes. -/
theorem found_at {p : List UInt8} {s i : Nat} (hs : Csv.indexByte 10 (p.take s) = none) (hi : Csv.indexByte (UInt8.ofNat 10) (p.drop s) = some i) :
    ∃ l0, p.take (s + i + 1) = l0 ++ [10] ∧ Csv.indexByte 10 l0 = none := by
  obtain ⟨h1, h2⟩ := indexByte_some hi
  rw [List.getElem?_drop] at h1
  refine ⟨p.take (s + i), ?_, ?_⟩
  · rw [List.take_add_one, h1]; rfl
  · rw [indexByte_none] at hs ⊢
    intro hm
    rw [List.take_add, List.mem_append] at hm
    exact hm.elim hs h2
def SlicePost (B : Nat) (eofV fullV : Value) (w : World) (b : BSt) (e : Ending) (w' : World) : Prop :=
  ∃ (b' : BSt) (line : List UInt8) (lineV errV : Value), e = .returned (.tuple #[lineV, errV]) ∧ BInv B eofV w' b' ∧ b'.rb = b.rb ∧ b'.buf = b.buf ∧ b'.s = b.s ∧ Only b.own w w' ∧ LineIn eofV fullV b b' line lineV errV
set_option maxRecDepth 100000 in
set_option maxHeartbeats 1000000 in
theorem ReadSlice_any (B : Nat) (eofV fullV : Value) (w : World) (b : BSt) (hb : BInv B eofV w b) (heV : ∃ t x, eofV = .iface t x) (hfull : w.cell? ⟨7, 0, none⟩ = some fullV) (hfB : 7 < B) :
    Calls Tryz.prog 99 [.pointer (some ⟨b.rb, 0, none⟩), .int .u8 10].toArray w (SlicePost B eofV fullV w b) := by
  have Hb := Lib.hid hb
  have hBw : B ≤ w.heap.size := by have := hb.rb.lt; have := hb.Brb; omega
  have hown : ∀ k, b.own k → B ≤ k := fun k hk => by rcases hk with rfl | rfl | rfl; exact hb.Brb; exact hb.Bbuf; exact hb.Bs
  have Hown := Lib.hid hown
  clear hb hown
  refine enter 130 Tryz.func99 rfl rfl (by simp) ?_
  go_wp
  refine join_b (fun a w' => ∃ (f : Nat → Value) (b' : BSt) (line : List UInt8) (lineV errV : Value), a = Fr 130 [(0, .pointer (some ⟨b.rb, 0, none⟩)), (4, lineV), (5, errV)] f ∧
    BInv B eofV w' b' ∧ b'.rb = b.rb ∧ b'.buf = b.buf ∧ b'.s = b.s ∧ Only b.own w w' ∧ LineIn eofV fullV b b' line lineV errV) ?_ ?_
  · as_aux_lemma =>
      rintro a w1 ⟨f, b1, line, lineV, errV, rfl, hb1, e1, e2, e3, hO1, hL⟩
      have hL' := hL
      obtain ⟨o, off, c, rfl, hlc, hc4, hoo, hoff, hline, hrest, hcase⟩ := hL
      have Hfin := Lib.hid (And.intro hb1 (And.intro e1 (And.intro e2 (And.intro e3 (And.intro hO1 hL')))))
      have hrb := hb1.rb
      rw [e1] at hrb
      have hc := hrb.cell
      have hf := hrb.frozen
      unfold rbCells at hc
      have hat : BytesAt w1 b.buf off line := by
        have h := BytesAt.of_blk hb1.buf off line.length
        rw [hline, e2] at h; exact h
      have hlen : line.length ≤ 4096 := by omega
      have Hat := Lib.hid hat
      have Hrest := Lib.hid hrest
      clear hat hcase hL' hline hoff hb1 e1 e2 e3 hrest hO1 hrb
      rcases List.eq_nil_or_concat line with hn | ⟨l0, x, hx⟩
      · have h0 : line.length = 0 := by rw [hn]; rfl
        have h0' : (line.length : Int) - 1 = -1 := by omega
        have Hn := Lib.hid hn
        clear hn
        go_wp
        refine wp_if_false rfl (by simp [lk]) ?_
        go_wp
        refine ret2 rfl rfl rfl ?_
        obtain ⟨g1, g2, g3, g4, g5, g6⟩ := Hfin.out
        exact ⟨b1, line, _, errV, by simp [lk, h0], g1, g2, g3, g4, g5, g6⟩
      · have hl : line.length = l0.length + 1 := by rw [hx]; simp
        have hlast : w1.cell? ⟨b.buf, o + l0.length, none⟩ = some (b8 x) := by
          have h := Hat.out l0.length x (by rw [hx]; simp)
          rw [hoo (by rw [hx]; simp)]; exact h
        have Hx := Lib.hid hx
        have Hl := Lib.hid hl
        obtain ⟨n, hn⟩ : ∃ n, n = l0.length := ⟨_, rfl⟩
        rw [← hn] at hlast
        have hl2 : (line.length : Int) - 1 = (n : Int) := by omega
        have hl3 : n < line.length := by omega
        have Hn := Lib.hid hn
        clear hn hx hl hoo
        unfold b8 at hlast
        go_wp
        refine wp_if_true rfl (by simp [lk]) ?_
        go_wp
        refine ret2 rfl rfl rfl ?_
        obtain ⟨g1, g2, g3, g4, g5, g6⟩ := Hfin.out
        have hset := BInv.setlast g1 (wrap64 (x.toNat : Int)) (-1)
        have hset2 : BInv B eofV ((w1.setCell ⟨b.rb, 5, none⟩ (.int .i64 (wrap64 (x.toNat : Int)))).setCell ⟨b.rb, 6, none⟩ (.int .i64 (-1))) { b1 with lb := wrap64 (x.toNat : Int), lr := -1 } := by rw [← g2]; exact hset
        exact ⟨{ b1 with lb := wrap64 (x.toNat : Int), lr := -1 }, line, .slice (some ⟨b.buf, o, none⟩) line.length c, errV, by simp [lk], hset2, g2, g3, g4, (g5.setCell (p := ⟨b.rb, 5, none⟩) (fun _ => .inl rfl) _).setCell (p := ⟨b.rb, 6, none⟩) (fun _ => .inl rfl) _, g6.last _ _⟩
  · refine wp_loop_n (fun k a w' => ∃ (f : Nat → Value) (b1 : BSt) (s : Nat), a = Fr 130 [(0, .pointer (some ⟨b.rb, 0, none⟩)), (1, .int .u8 10), (4, .slice none 0 0), (5, .nilIface), (6, .int .i64 s)] f ∧
      BInv B eofV w' b1 ∧ b1.rb = b.rb ∧ b1.buf = b.buf ∧ b1.s = b.s ∧ b1.rest = b.rest ∧ s ≤ b1.v - b1.r ∧ Csv.indexByte 10 (b1.pend.take s) = none ∧ Only b.own w w' ∧ k = 2 * (4096 - (b1.v - b1.r)) + (if b1.err then 0 else 1)) _
      ⟨_, b, 0, Fr_forget _ _ _ [(0, _), (1, _), (4, _), (5, _), (6, _)] (tells_all ⟨rfl, rfl, rfl, rfl, rfl, trivial⟩), Hb.out, rfl, rfl, rfl, rfl, Nat.zero_le _, by simp [Csv.indexByte], Only.refl _ _, rfl⟩ ?_
    rintro k a w1 ⟨f, b1, s, rfl, hb1, e1, e2, e3, hrest, hs, hnone, hO1, rfl⟩
    obtain ⟨rb, buf, sb, r, v, bb, err, lb, lr, left, sz, zs, joined⟩ := b1
    dsimp only at e1 e2 e3 hs ⊢
    subst e1 e2 e3
    obtain ⟨b1, hb1e⟩ : ∃ b1 : BSt, b1 = ⟨b.rb, b.buf, b.s, r, v, bb, err, lb, lr, left, sz, zs, joined⟩ := ⟨_, rfl⟩
    rw [← hb1e] at hb1 hrest hnone
    have hrb := hb1.rb
    have hbuf := hb1.buf
    have hlen := hb1.len
    have hrv := hb1.rv
    have hv4 := hb1.v4
    have hend := hb1.end_
    have hp0 : b1.pend = (bb.take v).drop r := by rw [hb1e]; rfl
    have hr0 : b1.rest = b1.pend ++ left := by rw [hb1e]; rfl
    have hpl : b1.pend.length = v - r := by rw [hp0]; rw [hb1e] at hlen hrv hv4; simp at *; omega
    have hrb' : Blk w1 b.rb 163 [.slice (some ⟨b.buf, 0, none⟩) 4096 4096, .iface 59 (.pointer (some ⟨b.s, 0, none⟩)), .int .i64 r, .int .i64 v, if err then eofV else .nilIface, .int .i64 lb, .int .i64 lr] := by rw [hb1e] at hrb; exact hrb
    have hbuf' : Blk w1 b.buf 5 (bb.map b8) := by rw [hb1e] at hbuf; exact hbuf
    have hlen' : bb.length = 4096 := by rw [hb1e] at hlen; exact hlen
    have hrv' : r ≤ v := by rw [hb1e] at hrv; exact hrv
    have hv4' : v ≤ 4096 := by rw [hb1e] at hv4; exact hv4
    have hend' : err = true → left = [] := by rw [hb1e] at hend; exact hend
    have hptk : b1.pend = (bb.drop r).take (v - r) := by rw [hp0, List.drop_take]
    obtain ⟨o', ho', hat, hoo⟩ : ∃ o', (if 4096 = r + s then some (⟨b.buf, 0, none⟩ : Addr) else some ⟨b.buf, r + s, none⟩) = some ⟨b.buf, o', none⟩ ∧ BytesAt w1 b.buf o' (b1.pend.drop s) ∧ True := by
      have h1 : BytesAt w1 b.buf r b1.pend := by rw [hptk]; exact BytesAt.of_blk hbuf' r (v - r)
      split
      · exact ⟨0, rfl, by rw [List.drop_eq_nil_of_le (by omega)]; exact BytesAt.nil _ _ _, trivial⟩
      · exact ⟨r + s, rfl, h1.drop s, trivial⟩
    have hdl : (b1.pend.drop s).length = v - (r + s) := by rw [List.length_drop, hpl]; omega
    have Hb1 := Lib.hid hb1
    have Hb1e := Lib.hid hb1e
    have Hrest := Lib.hid hrest
    have Hnone := Lib.hid hnone
    have Hp0 := Lib.hid hp0
    have Hptk := Lib.hid hptk
    have Hr0 := Lib.hid hr0
    have Hpl := Lib.hid hpl
    have Hdl := Lib.hid hdl
    have Hend := Lib.hid hend'
    have HO1 := Lib.hid hO1
    have Hat := Lib.hid hat
    have Hbuf' := Lib.hid hbuf'
    have Hlen' := Lib.hid hlen'
    clear hb1 hb1e hrest hnone hp0 hptk hr0 hpl hdl hend' hO1 hat hoo hrb hbuf hlen hrv hv4 hend hbuf' hlen'
    have hc := hrb'.cell
    have hf := hrb'.frozen
    obtain ⟨q, hq⟩ : ∃ q, q = r + s := ⟨_, rfl⟩
    have hw1 : IntKind.i64.wrap ((r : Int) + (s : Int)) = (q : Int) := by rw [IntWalk.i64_in _ (by omega)]; omega
    have i1 : (q : Int) ≤ v := by omega
    have i1' : q ≤ v := by omega
    rw [← hq] at ho'
    have Hq := Lib.hid hq
    clear hq
    have i2 : (v : Int) ≤ 4096 := by omega
    go_wp
    refine draw_tail 16 mixed (by kernel_rfl) ?_
    simp only [List.take_succ_cons, List.take_zero, List.drop_succ_cons, List.drop_zero]
    iterate 16 still_step
    refine wpStill_nil ?_
    go_wp
    have hcall := bIndexByte_any b.buf o' (4096 - q) (b1.pend.drop s) 10 w1.drew Hat.out
    rw [Hdl.out, show v - (r + s) = v - q by rw [Hq.out]] at hcall
    refine Calls.mono hcall ?_
    clear hcall hw1 ho'
    rintro e w2 ⟨rfl, rfl⟩
    dsimp only
    cases hi : Csv.indexByte (UInt8.ofNat 10) (b1.pend.drop s) with
    | some i =>
      as_aux_lemma =>
        have hil := indexByte_le hi
        rw [Hdl.out] at hil
        have Hi := Lib.hid hi
        clear hi
        simp only [goIdx]
        have j1 : (0 : Int) ≤ (i : Int) := by omega
        obtain ⟨q2, hq2⟩ : ∃ q2, q2 = i + s := ⟨_, rfl⟩
        obtain ⟨q3, hq3⟩ : ∃ q3, q3 = r + i + s + 1 := ⟨_, rfl⟩
        have k2 : (i : Int) + (s : Int) = (q2 : Int) := by omega
        have k3 : IntKind.i64.wrap (IntKind.i64.wrap ((r : Int) + (q2 : Int)) + 1) = (q3 : Int) := by rw [IntWalk.i64_in ((r : Int) + (q2 : Int)) (by omega), IntWalk.i64_in _ (by omega)]; omega
        have k4 : (q3 : Int) ≤ 4096 := by omega
        have k5 : (r : Int) ≤ (q3 : Int) := by omega
        have k6 : q3 ≤ v := by omega
        have k7 : (r : Int) + ((q2 : Int) + 1) = (q3 : Int) := by omega
        have k8 : r ≤ q3 := by omega
        have k9 : ¬ 4096 = r := by omega
        have Hq2 := Lib.hid hq2
        have Hq3 := Lib.hid hq3
        clear hq2 hq3
        go_wp
        refine wp_if_true rfl (by simp [lk]) ?_
        go_wp
        refine draw_still mixed (by kernel_rfl) ?_
        iterate 17 still_step
        refine wpStill_nil ?_
        go_wp
        have hE := Hb1e.out
        subst hE
        refine ⟨_, ⟨b.rb, b.buf, b.s, q3, v, bb, err, lb, lr, left, sz, zs, joined⟩, ((bb.take v).drop r).take (s + i + 1), _, _, Fr_forget _ _ _ [(0, _), (4, _), (5, _)] (tells_all ⟨rfl, rfl, rfl, trivial⟩), (BInv.setr Hb1.out q3 k6).drew.drew, rfl, rfl, rfl, ((HO1.out).setCell (p := ⟨b.rb, 2, none⟩) (fun _ => .inl rfl) _).drew.drew, ?_⟩
        have hq : q3 - r = s + i + 1 := by have := Hq3.out; omega
        rw [hq]
        exact mk_line Hb1.out Hrest.out (s + i + 1) r (4096 - r) (by show s + i + 1 ≤ v - r; omega) (fun _ => rfl) (by omega) (by omega) ⟨b.rb, b.buf, b.s, q3, v, bb, err, lb, lr, left, sz, zs, joined⟩ (by show q3 = r + (s + i + 1); omega) rfl rfl rfl _ (.inl ⟨rfl, found_at Hnone.out Hi.out⟩)
    | none =>
      have hall : Csv.indexByte 10 b1.pend = none := by
        have h1 := Hnone.out
        rw [indexByte_none] at h1 hi ⊢
        intro hm
        rw [← List.take_append_drop s b1.pend, List.mem_append] at hm
        exact hm.elim h1 hi
      have Hall := Lib.hid hall
      clear hi hall
      simp only [goIdx]
      obtain ⟨te, xe, rfl⟩ := heV
      go_wp
      refine wp_if_false rfl (by simp [lk]) ?_
      cases err
      · simp only [Bool.false_eq_true, if_false] at hc
        go_wp
        refine wp_if_false rfl (by simp [lk]) ?_
        have hE := Hb1e.out
        subst hE
        have hfull1 : w1.cell? ⟨7, 0, none⟩ = some fullV := ((HO1.out.below hBw Hown.out).cell (p := ⟨7, 0, none⟩) hfB).trans hfull
        go_wp
        refine held_start (fun w' => Blk w' b.rb 163 [.slice (some ⟨b.buf, 0, none⟩) 4096 4096, .iface 59 (.pointer (some ⟨b.s, 0, none⟩)), .int .i64 r, .int .i64 v, .nilIface, .int .i64 lb, .int .i64 lr]) [] mixed ?_
        have hrbD : Blk w1.drew.drew b.rb 163 [.slice (some ⟨b.buf, 0, none⟩) 4096 4096, .iface 59 (.pointer (some ⟨b.s, 0, none⟩)), .int .i64 r, .int .i64 v, .nilIface, .int .i64 lb, .int .i64 lr] := hrb'
        refine take 0 _ _ ?tv1 rfl rfl (by kernel_rfl) hrbD (by intro c a d v w h; cases d <;> exact h) ?th1 ?tn1
        case th1 => intro w' hS K hK; have hc := Blk.cell hS; go_simp; exact hK
        refine take 2 _ _ ?tv2 rfl rfl (by kernel_rfl) hrbD (by intro c a d v w h; cases d <;> exact h) ?th2 ?tn2
        case th2 => intro w' hS K hK; have hc := Blk.cell hS; go_simp; exact hK
        refine take 3 _ _ ?tv3 rfl rfl (by kernel_rfl) hrbD (by intro c a d v w h; cases d <;> exact h) ?th3 ?tn3
        case th3 => intro w' hS K hK; have hc := Blk.cell hS; go_simp; exact hK
        refine take 4 _ _ ?tv4 rfl rfl (by kernel_rfl) hrbD (by intro c a d v w h; cases d <;> exact h) ?th4 ?tn4
        case th4 => intro w' hS K hK; have hc := Blk.cell hS; go_simp; exact hK
        refine take 5 _ _ ?tv5 rfl rfl (by kernel_rfl) hrbD (by intro c a d v w h; cases d <;> exact h) ?th5 ?tn5
        case th5 => intro w' hS K hK; have hc := Blk.cell hS; go_simp; exact hK
        refine take 6 _ _ ?tv6 rfl rfl (by kernel_rfl) hrbD (by intro c a d v w h; cases d <;> exact h) ?th6 ?tn6
        case th6 => intro w' hS K hK; have hc := Blk.cell hS; go_simp; exact hK
        refine held_alone 1 _ rfl (by kernel_rfl) ?_
        go_wp
        refine (Buffered_any b.rb w1.drew.drew r v (hrbD.cell 2) (hrbD.cell 3) hrv' hv4').mono ?_
        rintro e w2 ⟨rfl, rfl⟩
        dsimp only
        go_wp
        refine ⟨fun _ => hrbD, ?_⟩
        refine take 7 _ _ ?tv7 rfl rfl (by kernel_rfl) hrbD (by intro c a d v w h; cases d <;> exact h) ?th7 ?tn7
        case th7 => intro w' hS K hK; go_simp; exact hK
        refine held_done (by kernel_rfl) ?_
        go_wp
        refine wp_if (decide (4096 ≤ v - r)) rfl (by simp [lk]; omega) (fun ht => ?_) (fun hf => ?_)
        · as_aux_lemma =>
            have hv : v = 4096 := by simp at ht; omega
            have hr : r = 0 := by simp at ht; omega
            subst hv hr
            go_wp
            refine ⟨_, ⟨b.rb, b.buf, b.s, 4096, 4096, bb, false, lb, lr, left, sz, zs, joined⟩, ((bb.take 4096).drop 0).take 4096, _, _, Fr_forget _ _ _ [(0, _), (4, _), (5, _)] (tells_all ⟨rfl, rfl, rfl, trivial⟩), (by repeat (first | exact BInv.setr Hb1.out 4096 (Nat.le_refl _) | refine BInv.drew ?_)), rfl, rfl, rfl, (by repeat (first | exact (HO1.out).setCell (p := ⟨b.rb, 2, none⟩) (fun _ => .inl rfl) _ | refine Only.drew ?_)), ?_⟩
            exact mk_line Hb1.out Hrest.out 4096 0 4096 (Nat.le_refl _) (fun _ => rfl) (by omega) (by omega) ⟨b.rb, b.buf, b.s, 4096, 4096, bb, false, lb, lr, left, sz, zs, joined⟩ rfl rfl rfl rfl _
              (.inr (.inr ⟨rfl, by rw [List.take_of_length_le (Nat.le_of_eq Hpl.out)]; exact Hall.out, rfl⟩))
        · as_aux_lemma =>
            obtain ⟨q5, hq5⟩ : ∃ q, q = v - r := ⟨_, rfl⟩
            have hw5 : IntKind.i64.wrap ((v : Int) - (r : Int)) = (q5 : Int) := by rw [IntWalk.i64_in _ (by omega)]; omega
            have Hq5 := Lib.hid hq5
            have hlt : v - r < 4096 := by simpa using hf
            clear hq5 hf
            go_wp
            refine draw_still mixed (by kernel_rfl) ?_
            iterate 10 still_step
            refine wpStill_nil ?_
            go_wp
            refine (fill_any B (.iface te xe) _ ⟨b.rb, b.buf, b.s, r, v, bb, false, lb, lr, left, sz, zs, joined⟩ (by repeat (first | exact Hb1.out | refine BInv.drew ?_)) hlt rfl ⟨te, xe, rfl⟩).mono ?_
            rintro e w3 ⟨rfl, b3, hb3, f1, f2, f3, f4, f5, f6, f7, f8, hO3⟩
            dsimp only
            have Hb3 := Lib.hid hb3
            have Hf := Lib.hid (And.intro f1 (And.intro f2 (And.intro f3 (And.intro f4 (And.intro f5 (And.intro f6 (And.intro f7 f8)))))))
            clear hb3 f1 f2 f3 f4 f5 f6 f7 f8 hw5
            go_wp
            obtain ⟨f1, f2, f3, f4, f5, f6, f7, f8⟩ := Hf.out
            have hb3 := Hb3.out
            refine ⟨_, ?_, _, b3, q5, Fr_forget _ _ _ [(0, _), (1, _), (4, _), (5, _), (6, _)] (tells_all ⟨rfl, rfl, rfl, rfl, rfl, trivial⟩), hb3, f1, f2, f3, f5.trans Hrest.out, ?_, ?_, (HO1.out).then (Only.mk hO3.os hO3.tape hO3.output hO3.size hO3.block), rfl⟩
            · have := hb3.v4
              dsimp only at f6 f8
              rw [f4]
              rcases f8 with h | h
              · cases b3.err <;> simp <;> omega
              · rw [h]; simp; omega
            · have := Hq5.out; dsimp only at f6; rw [f4]; omega
            · have e : b3.pend.take q5 = (bb.take v).drop r := by
                dsimp only at f6 f7
                unfold BSt.pend
                rw [f4, List.drop_zero, List.take_take, Nat.min_eq_left (by have := Hq5.out; omega), Hq5.out, f7]
                rfl
              rw [e]; exact Hall.out
      · as_aux_lemma =>
          simp only [if_true] at hc
          have hE := Hb1e.out
          subst hE
          have hb2 := (BInv.setr Hb1.out v (Nat.le_refl _)).drew.drew
          have Hb2 := Lib.hid hb2
          have hvr : r ≤ v := hrv'
          obtain ⟨o2, ho2, hoo2⟩ : ∃ o2, (if 4096 = r then some (⟨b.buf, 0, none⟩ : Addr) else some ⟨b.buf, r, none⟩) = some ⟨b.buf, o2, none⟩ ∧ (v - r ≠ 0 → o2 = r) := by
            split
            · exact ⟨0, rfl, fun h => by omega⟩
            · exact ⟨r, rfl, fun _ => rfl⟩
          have hvri : (r : Int) ≤ v := by omega
          have Hoo2 := Lib.hid hoo2
          clear hb2 hoo2
          go_wp
          refine wp_if_true rfl (by simp [lk]) ?_
          go_wp
          refine draw_still mixed (by kernel_rfl) ?_
          iterate 14 still_step
          refine wpStill_nil ?_
          go_wp
          refine (readErr_any b.rb _ (.iface te xe) (Hb2.out.rb.cell 4) (Hb2.out.rb.frozen 4)).mono ?_
          rintro e w2 ⟨rfl, rfl⟩
          dsimp only
          go_wp
          refine ⟨_, ⟨b.rb, b.buf, b.s, v, v, bb, false, lb, lr, left, sz, zs, joined⟩, ((bb.take v).drop r).take (v - r), _, _, Fr_forget _ _ _ [(0, _), (4, _), (5, _)] (tells_all ⟨rfl, rfl, rfl, trivial⟩), BInv.seterr Hb2.out, rfl, rfl, rfl, ((((HO1.out).setCell (p := ⟨b.rb, 2, none⟩) (fun _ => .inl rfl) _).drew.drew).setCell (p := ⟨b.rb, 4, none⟩) (fun _ => .inl rfl) _), ?_⟩
          exact mk_line Hb1.out Hrest.out (v - r) o2 (4096 - r) (Nat.le_refl _) Hoo2.out (by omega) (by omega) ⟨b.rb, b.buf, b.s, v, v, bb, false, lb, lr, left, sz, zs, joined⟩ (by show v = r + (v - r); omega) rfl rfl rfl _
            (.inr (.inl ⟨rfl, by show (((bb.take v).drop r) ++ left).drop (v - r) = []; rw [Hend.out rfl, List.append_nil]; exact List.drop_eq_nil_of_le (Nat.le_of_eq Hpl.out), by rw [List.take_of_length_le (by rw [Hpl.out]; exact Nat.le_refl _)]; exact Hall.out⟩))
end Go.Proofs.YtfadgnopfjajbaaGreatDoor
namespace Go.Proofs.YtfadgnopfjajbaaGreatDoor
open Go.RowKit

/-- Where an error lies: its block and the place in it. -/
abbrev EA := Nat × Nat
/-- Where the sentinel errors lie. -/
structure Glob where
  eof : EA
  bare : EA
  quote : EA
  count : EA
  full : EA
  inval : EA

/-- A sentinel error as a value. -/
abbrev errVal (a : EA) : Value := .iface 207 (.pointer (some ⟨a.1, a.2, none⟩))

/-- A sentinel: the variable in block g holds it, its text lies in block a. -/
structure Sent (B : Nat) (w : World) (g : Nat) (a : EA) (txt : List UInt8) : Prop where
  var : w.cell? ⟨g, 0, none⟩ = some (errVal a)
  gB : g < B
  blk : ∃ cs t, w.heap[a.1]? = some (.cells cs t (0, 0))
  txt : w.cell? ⟨a.1, a.2, none⟩ = some (.string ⟨txt.toArray⟩)
  aB : a.1 < B
theorem Sent.keep {B : Nat} {w w' : World} {g : Nat} {a : EA} {txt : List UInt8} (h : Sent B w g a txt) (hb : Below B w w') : Sent B w' g a txt := by
  obtain ⟨cs, t, hc⟩ := h.blk
  exact ⟨(hb.cell (p := ⟨g, 0, none⟩) h.gB).trans h.var, h.gB, ⟨cs, t, (hb.block a.1 h.aB).trans hc⟩, (hb.cell (p := ⟨a.1, a.2, none⟩) h.aB).trans h.txt, h.aB⟩
theorem Sent.ne {B : Nat} {w : World} {g g' : Nat} {a a' : EA} {txt txt' : List UInt8} (h : Sent B w g a txt) (h' : Sent B w g' a' txt') (hne : txt ≠ txt') : a ≠ a' := by
  rintro rfl
  have := h.txt.symm.trans h'.txt
  simp only [Option.some.injEq, Value.string.injEq, ByteArray.mk.injEq] at this
  exact hne (by simpa using congrArg Array.toList this)

def txtEOF : List UInt8 := [69, 79, 70]
def txtBare : List UInt8 := [98, 97, 114, 101, 32, 34, 32, 105, 110, 32, 110, 111, 110, 45, 113, 117, 111, 116, 101, 100, 45, 102, 105, 101, 108, 100]
def txtQuote : List UInt8 := [101, 120, 116, 114, 97, 110, 101, 111, 117, 115, 32, 111, 114, 32, 109, 105, 115, 115, 105, 110, 103, 32, 34, 32, 105, 110, 32, 113, 117, 111, 116, 101, 100, 45, 102, 105, 101, 108, 100]
def txtCount : List UInt8 := [119, 114, 111, 110, 103, 32, 110, 117, 109, 98, 101, 114, 32, 111, 102, 32, 102, 105, 101, 108, 100, 115]
def txtFull : List UInt8 := [98, 117, 102, 105, 111, 58, 32, 98, 117, 102, 102, 101, 114, 32, 102, 117, 108, 108]
def txtInval : List UInt8 := [99, 115, 118, 58, 32, 105, 110, 118, 97, 108, 105, 100, 32, 102, 105, 101, 108, 100, 32, 111, 114, 32, 99, 111, 109, 109, 101, 110, 116, 32, 100, 101, 108, 105, 109, 105, 116, 101, 114]

/-- The tables of the library, as they lay at the start. -/
def Tabs (B : Nat) (w : World) : Prop := ∃ w0 : World, B = w0.heap.size ∧ Below B w0 w ∧ Lib.Utf8Tabs 9 10 w0 ∧ Lib.WhiteTab 8 w0
theorem Tabs.keep {B : Nat} {w w' : World} (h : Tabs B w) (hb : Below B w w') : Tabs B w' := by
  obtain ⟨w0, h1, h2, h3, h4⟩ := h
  exact ⟨w0, h1, h2.trans hb, h3, h4⟩
theorem Tabs.u8 {B : Nat} {w : World} (h : Tabs B w) : Lib.Utf8Tabs 9 10 w := by
  obtain ⟨w0, rfl, h2, h3, h4⟩ := h
  exact Utf8Tabs_below h3 h2
theorem Tabs.white {B : Nat} {w : World} (h : Tabs B w) : Lib.WhiteTab 8 w := by
  obtain ⟨w0, rfl, h2, h3, h4⟩ := h
  exact WhiteTab_below h4 h2

structure GInv (B : Nat) (w : World) (G : Glob) : Prop where
  eof : Sent B w 0 G.eof txtEOF
  bare : Sent B w 1 G.bare txtBare
  quote : Sent B w 2 G.quote txtQuote
  count : Sent B w 3 G.count txtCount
  full : Sent B w 7 G.full txtFull
  inval : Sent B w 5 G.inval txtInval
  tabs : Tabs B w
theorem GInv.keep {B : Nat} {w w' : World} {G : Glob} (h : GInv B w G) (hb : Below B w w') : GInv B w' G :=
  ⟨h.eof.keep hb, h.bare.keep hb, h.quote.keep hb, h.count.keep hb, h.full.keep hb, h.inval.keep hb, h.tabs.keep hb⟩

theorem info_ErrStr : (Tryz.prog.info? 227).map (·.size) = some 1 := by kernel_rfl
theorem info_pErrStr : (Tryz.prog.info? 207).map (·.comparable) = some true := by kernel_rfl
theorem eql_same (a : EA) (w : World) : (binOp .eql 70 (errVal a) (errVal a)).run Tryz.prog w = .ok (.bool true) w := by
  cases h1 : Tryz.prog.info? 207 with
  | none => have := info_pErrStr; rw [h1] at this; cases this
  | some i =>
    have hi := info_pErrStr
    rw [h1] at hi
    cases h2 : Tryz.prog.info? 227 with
    | none => have := info_ErrStr; rw [h2] at this; cases this
    | some j => exact run_eql_iface_ptr_same w ⟨a.1, a.2, none⟩ Tryz.underlying70 Tryz.underlying207 h1 (by simpa using hi) h2
theorem eql_nil_left (a : EA) (w : World) : (binOp .eql 70 .nilIface (errVal a)).run Tryz.prog w = .ok (.bool false) w := run_eql_iface_nil_left w _ _ Tryz.underlying70
theorem eql_other {B : Nat} {w : World} {g g' : Nat} {a a' : EA} {txt txt' : List UInt8} (h : Sent B w g a txt) (h' : Sent B w g' a' txt') (hne : txt ≠ txt') : (binOp .eql 70 (errVal a) (errVal a')).run Tryz.prog w = .ok (.bool false) w := by
  cases h1 : Tryz.prog.info? 207 with
  | none => have := info_pErrStr; rw [h1] at this; cases this
  | some i =>
    have hi := info_pErrStr
    rw [h1] at hi
    cases h2 : Tryz.prog.info? 227 with
    | none => have := info_ErrStr; rw [h2] at this; cases this
    | some j =>
      have hj := info_ErrStr
      rw [h2] at hj
      obtain ⟨cs, t, hc⟩ := h.blk
      obtain ⟨cs', t', hc'⟩ := h'.blk
      refine run_eql_iface_ptr_other w (a := ⟨a.1, a.2, none⟩) (b := ⟨a'.1, a'.2, none⟩) Tryz.underlying70 Tryz.underlying207 h1 (by simpa using hi) h2 ?_ ?_ hc hc'
      · simp at hj; omega
      · intro e; injection e with e1 e2; exact h.ne h' hne (Prod.ext e1 e2)
end Go.Proofs.YtfadgnopfjajbaaGreatDoor
namespace Go.Proofs.YtfadgnopfjajbaaGreatDoor
open Go.RowKit

/-- The state of a csv.Reader. -/
structure CSt where
  cr : Nat
  b : BSt
  comma : Int
  comment : Int
  expect : Int
  lazy : Bool
  trim : Bool
  reuse : Bool
  numLine : Nat
  offset : Nat
  raw : Value
  rbuf : Value
  idx : Value
  pos : Value
  last : Value

def crCells (c : CSt) : List Value :=
  [.int .i32 c.comma, .int .i32 c.comment, .int .i64 c.expect, .bool c.lazy, .bool c.trim, .bool c.reuse, .bool false, .pointer (some ⟨c.b.rb, 0, none⟩), .int .i64 c.numLine, .int .i64 c.offset, c.raw, c.rbuf, c.idx, c.pos, c.last]

/-- What reading lines rests on. -/
structure LInv (B : Nat) (G : Glob) (w : World) (c : CSt) : Prop where
  b : BInv B (errVal G.eof) w c.b
  cr : Blk w c.cr 66 (crCells c)
  Bcr : B ≤ c.cr
  raw : ∃ l : List UInt8, w.ownsRow B 5 1 c.raw l.length (l.map b8)
  rawbuf : c.raw.ownBlock ≠ some c.b.buf
  glob : GInv B w G
  small : c.numLine + c.b.rest.length < 70368744177664
  osmall : c.offset + c.b.rest.length < 70368744177664

/-- The blocks that reading a line writes. -/
def CSt.lown (c : CSt) (k : Nat) : Prop := k = c.cr ∨ c.b.own k ∨ c.raw.ownBlock = some k

theorem ownsRow_form {w : World} {base : Nat} {e : TypeId} {size : Nat} {v : Value} {n : Nat} {xs : List Value} (h : w.ownsRow base e size v n xs) : ∃ A c, v = .slice A n c ∧ n ≤ c ∧ c ≤ maxLen ∧ (A = none → n = 0 ∧ c = 0) ∧ (∀ a, A = some a → ∃ g, a = ⟨g, 0, none⟩ ∧ base ≤ g ∧ g < w.heap.size) := by
  rcases h.2 with ⟨rfl, rfl⟩ | ⟨g, cap, cur, rfl, hb, hg, h1, h2, _, _⟩
  · exact ⟨none, 0, rfl, Nat.le_refl _, Nat.zero_le _, fun _ => ⟨rfl, rfl⟩, fun a h => by cases h⟩
  · exact ⟨_, cap, rfl, h1, h2, (fun h => by cases h), fun a h => ⟨g, by injection h with h; exact h.symm, hb, (Array.getElem?_eq_some_iff.1 hg).1⟩⟩
/-- Cut to nothing: 'x[:0]'. -/
theorem ownsRow_zero {w : World} {base : Nat} {e : TypeId} {size : Nat} {A : Option Addr} {n c : Nat} {xs : List Value} (h : w.ownsRow base e size (.slice A n c) n xs) : w.ownsRow base e size (.slice A 0 c) 0 [] := by
  refine ⟨by simp, ?_⟩
  rcases h.2 with ⟨h1, rfl⟩ | ⟨g, cap, cur, h1, hb, hg, h2, h3, h4, _⟩
  · injection h1 with h1 _ h2; subst h1 h2; exact .inl ⟨rfl, rfl⟩
  · injection h1 with h1 _ h5; subst h1 h5
    exact .inr ⟨g, _, cur, rfl, hb, hg, Nat.zero_le _, h3, h4, by simp⟩
theorem ownsRow_only {S : Nat → Prop} {w w' : World} {base : Nat} {e : TypeId} {size : Nat} {v : Value} {n : Nat} {xs : List Value} (h : w.ownsRow base e size v n xs) (hO : Only S w w') (hS : ∀ k, v.ownBlock = some k → ¬ S k) : w'.ownsRow base e size v n xs := by
  refine ⟨h.1, ?_⟩
  rcases h.2 with hn | ⟨g, cap, cur, rfl, hb, hg, r⟩
  · exact .inl hn
  · exact .inr ⟨g, cap, cur, rfl, hb, (hO.block g (Array.getElem?_eq_some_iff.1 hg).1 (hS g rfl)).trans hg, r⟩
theorem ownsRow_bytes {w : World} {base : Nat} {e : TypeId} {A : Addr} {c : Nat} {l : List UInt8} (h : w.ownsRow base e 1 (.slice (some A) l.length c) l.length (l.map b8)) : ∃ g, A = ⟨g, 0, none⟩ ∧ BytesAt w g 0 l ∧ Value.ownBlock (.slice (some A) l.length c) = some g := by
  rcases h.2 with ⟨h1, _⟩ | ⟨g, cap, cur, h1, hb, hg, h2, h3, h4, h5⟩
  · cases h1
  · injection h1 with h1; injection h1 with h1; subst h1
    refine ⟨g, rfl, fun j u hu => ?_, rfl⟩
    have := h.cells (g := g) rfl j (b8 u) (by rw [List.getElem?_map, hu]; rfl)
    rw [Addr.add_mk] at this
    simpa using this

theorem own_ne {w : World} {base : Nat} {e t : TypeId} {size n g : Nat} {v : Value} {xs cs : List Value} (h : w.ownsRow base e size v n xs) (hg : Blk w g t cs) (hne : e ≠ t) : v.ownBlock ≠ some g := by
  rcases h.2 with ⟨rfl, _⟩ | ⟨g', cap, cur, rfl, _, hh, _⟩
  · simp [Value.ownBlock]
  · intro he
    have e1 : g' = g := by simpa [Value.ownBlock] using he
    subst e1
    unfold Blk at hg
    rw [hh] at hg
    injection hg with hg
    injection hg with _ h2
    exact hne h2
theorem own_lt {w : World} {base : Nat} {e : TypeId} {size n g : Nat} {v : Value} {xs : List Value} (h : w.ownsRow base e size v n xs) (hg : v.ownBlock = some g) : base ≤ g ∧ g < w.heap.size := h.lt g hg

section
variable {B : Nat} {G : Glob} {w w1 : World} {c : CSt}
theorem LInv.cr_ne (h : LInv B G w c) : ¬ c.b.own c.cr := by
  rintro (e | e | e)
  · exact h.cr.ne h.b.rb (by decide) e
  · exact h.cr.ne h.b.buf (by decide) e
  · exact h.cr.ne h.b.src (by decide) e
theorem LInv.raw_ne (h : LInv B G w c) (k : Nat) (hk : c.raw.ownBlock = some k) : ¬ c.b.own k ∧ k ≠ c.cr := by
  obtain ⟨l, hl⟩ := h.raw
  refine ⟨?_, fun e => own_ne hl h.cr (by decide) (by rw [hk, e])⟩
  rintro (e | e | e)
  · exact own_ne hl h.b.rb (by decide) (by rw [hk, e])
  · exact h.rawbuf (by rw [hk, e])
  · exact own_ne hl h.b.src (by decide) (by rw [hk, e])
theorem LInv.size (h : LInv B G w c) : B ≤ w.heap.size := by have := h.cr.lt; have := h.Bcr; omega
theorem LInv.ownB (h : LInv B G w c) (k : Nat) (hk : c.lown k) : B ≤ k := by
  rcases hk with rfl | (rfl | rfl | rfl) | hk
  · exact h.Bcr
  · exact h.b.Brb
  · exact h.b.Bbuf
  · exact h.b.Bs
  · obtain ⟨l, hl⟩ := h.raw
    exact (own_lt hl hk).1
/-- The buffered reader has gone on. -/
theorem LInv.newb (h : LInv B G w c) {b1 : BSt} (hb1 : BInv B (errVal G.eof) w1 b1) (e1 : b1.rb = c.b.rb) (e2 : b1.buf = c.b.buf) (hO : Only c.b.own w w1) (hl : b1.rest.length ≤ c.b.rest.length) : LInv B G w1 { c with b := b1 } := by
  have hbel : Below B w w1 := hO.below h.size (fun k hk => h.ownB k (.inr (.inl hk)))
  have hcr : Blk w1 c.cr 66 (crCells { c with b := b1 }) := by
    have := h.cr.only hO h.cr_ne
    unfold crCells at this ⊢
    rw [← e1] at this
    exact this
  obtain ⟨l, hr⟩ := h.raw
  refine ⟨hb1, hcr, h.Bcr, ⟨l, ownsRow_only hr hO (fun k hk => (h.raw_ne k hk).1)⟩, by show c.raw.ownBlock ≠ some b1.buf; rw [e2]; exact h.rawbuf, h.glob.keep hbel, ?_, ?_⟩
  · have := h.small; show c.numLine + b1.rest.length < _; omega
  · have := h.osmall; show c.offset + b1.rest.length < _; omega
/-- The buffered reader's state stands where its blocks do. -/
theorem BInv.only {B : Nat} {e : Value} {w w' : World} {b : BSt} {S : Nat → Prop} (h : BInv B e w b) (hO : Only S w w') (hS : ∀ k, S k → ¬ b.own k ∧ B ≤ k) : BInv B e w' b := by
  have hBw : B ≤ w.heap.size := by have := h.rb.lt; have := h.Brb; omega
  have hbel : Below B w w' := hO.below hBw (fun k hk => (hS k hk).2)
  exact ⟨h.rb.only hO (fun s => (hS _ s).1 (.inl rfl)), h.buf.only hO (fun s => (hS _ s).1 (.inr (.inl rfl))), h.len, h.src.only hO (fun s => (hS _ s).1 (.inr (.inr rfl))), h.sizes.keep hbel, h.rv, h.v4, h.end_, h.Brb, h.Bbuf, h.Bs, h.small, (hbel.cell (p := ⟨0, 0, none⟩) h.eofB).trans h.eof, h.eofB⟩
/-- Bytes were appended to the raw buffer. -/
theorem LInv.append (h : LInv B G w c) {v0 v' : Value} {w' : World} {l : List UInt8} (hv0 : v0.ownBlock = c.raw.ownBlock) (h1 : w'.ownsRow B 5 1 v' l.length (l.map b8)) (hg : w.grownBy w' v0.ownBlock)
    (hat : v'.ownBlock = v0.ownBlock ∨ v'.ownBlock = some w.heap.size) :
    LInv B G (w'.setCell ⟨c.cr, 10, none⟩ v') { c with raw := v' } ∧ (w'.setCell ⟨c.cr, 10, none⟩ v').ownsRow B 5 1 v' l.length (l.map b8) ∧ Only (fun k => k = c.cr ∨ c.raw.ownBlock = some k) w (w'.setCell ⟨c.cr, 10, none⟩ v') ∧
      (v'.ownBlock = c.raw.ownBlock ∨ v'.ownBlock = some w.heap.size) := by
  rw [hv0] at hg hat
  have hO1 : Only (fun k => k = c.cr ∨ c.raw.ownBlock = some k) w w' := (Only.refl _ w).grown hg (fun k hk _ => .inr hk)
  have hO : Only (fun k => k = c.cr ∨ c.raw.ownBlock = some k) w (w'.setCell ⟨c.cr, 10, none⟩ v') := hO1.setCell (p := ⟨c.cr, 10, none⟩) (fun _ => .inl rfl) v'
  have hS : ∀ k, (k = c.cr ∨ c.raw.ownBlock = some k) → ¬ c.b.own k ∧ B ≤ k := by
    rintro k (rfl | hk)
    · exact ⟨h.cr_ne, h.Bcr⟩
    · exact ⟨(h.raw_ne k hk).1, h.ownB k (.inr (.inr hk))⟩
  have hcr1 : Blk w' c.cr 66 (crCells c) := h.cr.grown hg (fun e => (h.raw_ne c.cr e.symm).2 rfl)
  have hvcr : ∀ k, v'.ownBlock = some k → k ≠ c.cr ∧ k ≠ c.b.buf := by
    intro k hk
    rcases hat with e | e
    · rw [e] at hk
      exact ⟨(h.raw_ne k hk).2, fun e => (h.raw_ne k hk).1 (.inr (.inl e))⟩
    · rw [e] at hk
      injection hk with hk
      have := h.cr.lt; have := h.b.buf.lt
      exact ⟨by omega, by omega⟩
  have hown : (w'.setCell ⟨c.cr, 10, none⟩ v').ownsRow B 5 1 v' l.length (l.map b8) :=
    ownsRow_only h1 ((Only.refl (fun k => k = c.cr) w').setCell (p := ⟨c.cr, 10, none⟩) (fun _ => rfl) v') (fun k hk => (hvcr k hk).1)
  refine ⟨⟨h.b.only hO hS, hcr1.set 10 v', h.Bcr, ⟨l, hown⟩, fun e => (hvcr _ e).2 rfl, h.glob.keep (hO.below h.size (fun k hk => (hS k hk).2)), h.small, h.osmall⟩, hown, hO, hat⟩
/-- The line and the offset are counted on. -/
theorem LInv.count (h : LInv B G w c) (n k : Nat) (h1 : n + c.b.rest.length < 70368744177664) (h2 : k + c.b.rest.length < 70368744177664) :
    LInv B G ((w.setCell ⟨c.cr, 8, none⟩ (.int .i64 (n : Int))).setCell ⟨c.cr, 9, none⟩ (.int .i64 (k : Int))) { c with numLine := n, offset := k } := by
  have hO : Only (fun i => i = c.cr) w ((w.setCell ⟨c.cr, 8, none⟩ (.int .i64 (n : Int))).setCell ⟨c.cr, 9, none⟩ (.int .i64 (k : Int))) :=
    ((Only.refl (fun i => i = c.cr) w).setCell (p := ⟨c.cr, 8, none⟩) (fun _ => rfl) _).setCell (p := ⟨c.cr, 9, none⟩) (fun _ => rfl) _
  have hS : ∀ i, i = c.cr → ¬ c.b.own i ∧ B ≤ i := fun i e => by subst e; exact ⟨h.cr_ne, h.Bcr⟩
  obtain ⟨l, hl⟩ := h.raw
  exact ⟨h.b.only hO hS, (h.cr.set 8 _).set 9 _, h.Bcr, ⟨l, ownsRow_only hl hO (fun i hi => (h.raw_ne i hi).2)⟩, h.rawbuf, h.glob.keep (hO.below h.size (fun i hi => (hS i hi).2)), h1, h2⟩
/-- A byte of the line that was read is overwritten. -/
theorem LInv.poke (h : LInv B G w c) (lb o : Nat) (x : UInt8) (hs : (lb = c.b.buf ∧ o < c.b.r) ∨ c.raw.ownBlock = some lb) :
    ∃ b', LInv B G (w.setCell ⟨lb, o, none⟩ (b8 x)) { c with b := b' } ∧ b'.rb = c.b.rb ∧ b'.buf = c.b.buf ∧ b'.s = c.b.s ∧ b'.rest = c.b.rest ∧ b'.r = c.b.r := by
  rcases hs with ⟨rfl, ho⟩ | hr
  · have hO : Only (fun i => i = c.b.buf) w (w.setCell ⟨c.b.buf, o, none⟩ (b8 x)) := (Only.refl (fun i => i = c.b.buf) w).setCell (p := ⟨c.b.buf, o, none⟩) (fun _ => rfl) _
    have hbel : Below B w (w.setCell ⟨c.b.buf, o, none⟩ (b8 x)) := hO.below h.size (fun i hi => by subst hi; exact h.b.Bbuf)
    have hrest : BSt.rest { c.b with bb := c.b.bb.set o x } = c.b.rest := by
      unfold BSt.rest BSt.pend
      show ((c.b.bb.set o x).take c.b.v).drop c.b.r ++ c.b.left = _
      rw [List.drop_take, List.drop_take, List.drop_set_of_lt ho]
    have hb : BInv B (errVal G.eof) (w.setCell ⟨c.b.buf, o, none⟩ (b8 x)) { c.b with bb := c.b.bb.set o x } :=
      ⟨h.b.rb.only hO (ne_rb_buf h.b), by
        have := h.b.buf.set o (b8 x)
        rw [← List.map_set] at this
        exact this, by show (c.b.bb.set o x).length = _; rw [List.length_set]; exact h.b.len, h.b.src.only hO (Ne.symm (ne_buf_s h.b)), h.b.sizes.keep hbel, h.b.rv, h.b.v4, h.b.end_, h.b.Brb, h.b.Bbuf, h.b.Bs, h.b.small, (hbel.cell (p := ⟨0, 0, none⟩) h.b.eofB).trans h.b.eof, h.b.eofB⟩
    refine ⟨{ c.b with bb := c.b.bb.set o x }, h.newb hb rfl rfl (hO.mono (fun k _ e => .inr (.inl e))) (by rw [hrest]; exact Nat.le_refl _), rfl, rfl, rfl, hrest, rfl⟩
  · have hO : Only (fun i => i = lb) w (w.setCell ⟨lb, o, none⟩ (b8 x)) := (Only.refl (fun i => i = lb) w).setCell (p := ⟨lb, o, none⟩) (fun _ => rfl) _
    obtain ⟨n1, n2⟩ := h.raw_ne lb hr
    have hS : ∀ i, i = lb → ¬ c.b.own i ∧ B ≤ i := fun i e => by subst e; exact ⟨n1, h.ownB i (.inr (.inr hr))⟩
    refine ⟨c.b, ⟨h.b.only hO hS, h.cr.only hO (Ne.symm n2), h.Bcr, ?_, h.rawbuf, h.glob.keep (hO.below h.size (fun i hi => (hS i hi).2)), h.small, h.osmall⟩, rfl, rfl, rfl, rfl, rfl⟩
    obtain ⟨l, hl⟩ := h.raw
    refine ⟨l.set o x, ?_⟩
    rw [List.length_set, List.map_set]
    refine ⟨by simp, ?_⟩
    rcases hl.2 with ⟨h1, _⟩ | ⟨g, cap, cur, h1, hb, hg, h2, h3, h4, h5⟩
    · rw [h1] at hr; cases hr
    · have e : g = lb := by
        have h6 : c.raw.ownBlock = some g := by rw [h1]; rfl
        rw [hr] at h6
        injection h6 with h6
        exact h6.symm
      subst e
      refine .inr ⟨g, cap, cur.setIfInBounds o (b8 x), h1, hb, ?_, h2, h3, by simpa using h4, ?_⟩
      · simp [World.setCell, Array.getElem?_modify, hg]
      · rw [Array.toList_setIfInBounds, List.take_set, h5]
end
theorem info_u8 : (Tryz.prog.info? 5).map (fun i => (i.zero, i.size, i.bytes)) = some (some (.int .u8 0), 1, 1) := by kernel_rfl
/- append onto bytes of the call's own. -/
set_option maxRecDepth 100000 in
theorem append_bytes (w : World) (B : Nat) (ty : TypeId) (v : Value) (l : List UInt8) (hown : w.ownsRow B 5 1 v l.length (l.map b8)) (b o c : Nat) (m : List UInt8) (hm : BytesAt w b o m)
    (hlen : l.length + m.length < 140737488355328) (hB : B ≤ w.heap.size) :
    ∃ v' w', (Builtin.append_ #[63, 63] ty #[v, .slice (some ⟨b, o, none⟩) m.length c]).run Tryz.prog w = .ok v' w' ∧ w'.ownsRow B 5 1 v' (l ++ m).length ((l ++ m).map b8) ∧ w.grownBy w' v.ownBlock ∧
      (v' = .slice none 0 0 ↔ v = .slice none 0 0 ∧ m = []) ∧ (v'.ownBlock = v.ownBlock ∨ v'.ownBlock = some w.heap.size) := by
  cases hi : Tryz.prog.info? 5 with
  | none => have := info_u8; rw [hi] at this; cases this
  | some i =>
    have h := info_u8
    rw [hi] at h
    simp only [Option.map_some, Option.some.injEq, Prod.mk.injEq] at h
    obtain ⟨hz, hs, hb⟩ := h
    obtain ⟨v', w', h1, h2, h3, h4, h5⟩ := run_append_own_at (P := Tryz.prog) w B 63 ty 5 i (.int .u8 0) 1 1 Tryz.underlying63 hi hz hs hb rfl (by omega) v l.length (l.map b8) hown ⟨b, o, none⟩ m.length c (m.map b8) (by simp)
      (fun j u hu => by
        rw [List.getElem?_map] at hu
        cases hj : m[j]? with
        | none => rw [hj] at hu; cases hu
        | some x => rw [hj] at hu; injection hu with hu; subst hu; rw [Addr.add_mk]; exact hm j x hj)
      (fun u hu => by obtain ⟨y, _, rfl⟩ := List.mem_map.1 hu; rfl) (by simp only [maxLen]; omega) (by omega) hB
    exact ⟨v', w', h1, by simpa using h2, h3, by rw [h4]; simp, h5⟩
end Go.Proofs.YtfadgnopfjajbaaGreatDoor
