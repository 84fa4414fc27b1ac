/- A part of the proof: Scan: the state ahead of its loop. Scan: its contract. slices.Equal of equal slices. slices.EqualFunc of equal tables. slices.EqualFunc: the loop. laws.equal, laws.same: answers that are alike. laws.equal of answers that are alike. laws.equal and laws.same of answers that are alike. -/
import Derived.Test.YtfadgnopfjajbaaGreatDoorP14
import Derived.Shelf.Slices.Equal
namespace Go.Proofs.YtfadgnopfjajbaaGreatDoor
open Go.RowKit
def bst0 (rb buf sb : Nat) (data : List UInt8) (sz : Value) (zs : List Int) (jn : Bool) : BSt := { rb := rb, buf := buf, s := sb, r := 0, v := 0, bb := zeros, err := false, lb := -1, lr := -1, left := data, sz := sz, zs := zs, joined := jn }
def cst0 (cr rb buf sb : Nat) (data : List UInt8) (sz : Value) (zs : List Int) (jn : Bool) (comma comment expect : Int) (lz tr re : Bool) : CSt := { cr := cr, b := bst0 rb buf sb data sz zs jn, comma := comma, comment := comment, expect := expect, lazy := lz, trim := tr, reuse := re, numLine := 0, offset := 0, raw := .slice none 0 0, rbuf := .slice none 0 0, idx := .slice none 0 0, pos := .slice none 0 0, last := .slice none 0 0 }
def rst0 : RSt := ⟨[], [], []⟩
theorem zeros_len : zeros.length = 4096 := List.length_replicate
section
variable {B : Nat} {G : Glob} {w : World} {cr rb buf sb kb n : Nat} {data : List UInt8} {sz : Value} {zs : List Int} {jn : Bool} {comma comment expect : Int} {lz tr re : Bool}
theorem start_inv (hG : GInv B w G) (hE : ETy B w) (hsz : IntsBelow B w sz zs) (hd : data.length < 268435456) (h1 : B ≤ cr) (h2 : B ≤ rb) (h3 : B ≤ buf) (h4 : B ≤ sb) (h5 : B ≤ kb) (b1 : Blk w cr 66 (rdCells comma comment expect lz tr re rb)) (b2 : Blk w rb 163 [.slice (some ⟨buf, 0, none⟩) 4096 4096, .iface 59 (.pointer (some ⟨sb, 0, none⟩)), .int .i64 0, .int .i64 0, .nilIface, .int .i64 (-1), .int .i64 (-1)]) (b3 : Blk w buf 5 (zeros.map b8)) (b4 : Blk w sb 61 [.string ⟨data.toArray⟩, sz, .bool jn]) (b5 : Blk w kb 36 (List.replicate n (.slice none 0 0))) :
    SInv B G w n (cst0 cr rb buf sb data sz zs jn comma comment expect lz tr re) rst0 [] kb (.slice none 0 0) (Csv.Ses.start data expect) := by
  have hrest : (cst0 cr rb buf sb data sz zs jn comma comment expect lz tr re).b.rest = data := rfl
  have hnil : ∀ t q, w.ownsRow B t q (.slice none 0 0) 0 [] := fun t q => ⟨by simp, .inl ⟨rfl, rfl⟩⟩
  have hb : BInv B (errVal G.eof) w (bst0 rb buf sb data sz zs jn) := ⟨b2, b3, zeros_len, b4, hsz, Nat.le_refl _, Nat.zero_le _, (fun h => by cases h), h2, h3, h4, (by show data.length < _; omega), hG.eof.var, hG.eof.gB⟩
  refine ⟨⟨⟨hb, b1, h1, ⟨[], hnil _ _⟩, (fun h => by cases h), hG, ?_, ?_⟩, hnil _ _, hnil _ _, hnil _ _, (fun k h => by cases h), (fun h => by cases h)⟩, rfl, rfl, fun _ => rfl, ⟨rfl, (fun i g arr h => by cases h), List.nodup_nil⟩, trivial, trivial, (fun x h => by cases h), ?_, h5, Nat.zero_le _, ⟨[], hnil _ _, rfl, (fun i cs a h => by cases h)⟩, rfl, hE⟩
  · show 0 + data.length < _; omega
  · show 0 + data.length < _; omega
  · exact b5
end
end Go.Proofs.YtfadgnopfjajbaaGreatDoor
namespace Go.Proofs.YtfadgnopfjajbaaGreatDoor
open Go.RowKit
set_option maxRecDepth 100000 in
theorem scan_eq : scanBody = Code.seq sc0 (.seq sc1 (.seq sc2 (.seq sc4 (.seq sc5 (.seq sc6 (.seq sc7 (.seq (.seq sc8 scLoop) (.seq (.seq sc30 scLater) (.seq sc35 .ret))))))))) := by kernel_rfl
/-- Answers in memory. -/
def AnsRow (B : Nat) (w : World) (av : Value) (xs : List Csv.Ans) : Prop := ∃ css : List (List Value), w.ownsRow B 53 11 av xs.length css.flatten ∧ css.length = xs.length ∧ ∀ (j : Nat) (cs : List Value) (a : Csv.Ans), css[j]? = some cs → xs[j]? = some a → AnsAt B w (fun k => av.ownBlock = some k) cs a
def optOf (comma comment : Int) (lz tr : Bool) : Csv.Opt := { comma := if comma = 0 then 44 else comma, comment := comment, lazy := lz, trim := tr }
/-- A script in memory. -/
def ScriptIn (w : World) (script : List Csv.Cal) (sv : Value) : Prop := ∃ A cp, sv = .slice A script.length cp ∧ (0 < script.length → ∃ sb so, A = some ⟨sb, so, none⟩ ∧ sb < w.heap.size ∧ ∀ (i : Nat) (cal : Csv.Cal), script[i]? = some cal → w.cell? ⟨sb, so + i * 2, none⟩ = some (.int .i64 cal.op) ∧ w.cell? ⟨sb, so + i * 2 + 1, none⟩ = some (.int .i64 cal.field))
theorem Scan_tame (G : Glob) (w : World) (data : List UInt8) (sz : Value) (zs : List Int) (jn : Bool) (comma comment expect : Int) (lz tr re : Bool) (sv : Value) (script : List Csv.Cal) (m : Int) (hG : GInv w.heap.size w G) (hE : ETy w.heap.size w) (hsz : IntsBelow w.heap.size w sz zs) (hsv : ScriptIn w script sv)
    (hm : w.cell? ⟨4, 0, none⟩ = some (.int .i64 m)) (hmB : 4 < w.heap.size) (hsmall : 2 * data.length + script.length < 268435450) (ht : TameFor (optOf comma comment lz tr) re (Csv.Ses.start data expect) script) :
    Calls Tryz.prog 6 [.agg #[.string ⟨data.toArray⟩, sz, .bool jn], .agg (optCells comma comment expect lz tr re).toArray, sv].toArray w fun e w' => ∃ av, e = .returned av ∧ Below w.heap.size w w' ∧ AnsRow w.heap.size w' av (Csv.scan data (optOf comma comment lz tr) expect re script) := by
  obtain ⟨A, cp, rfl, hscr⟩ := hsv
  have hsz' := hsz
  obtain ⟨A1, c1, hszf, _⟩ := hsz'
  refine enter 146 Tryz.func6 rfl rfl (by simp) ?_
  show scanBody.wp _ _ _ _
  rw [scan_eq]
  obtain ⟨l0, hl0⟩ : ∃ l0 : List (Nat × Value), l0 = ([Value.agg #[.string ⟨data.toArray⟩, sz, .bool jn], .agg (optCells comma comment expect lz tr re).toArray, .slice A script.length cp].zipIdx.map fun p => (p.2, p.1)) := ⟨_, rfl⟩
  rw [← hl0]
  have z0 : lk l0 (fun _ => undef) 0 = .agg #[.string ⟨data.toArray⟩, .slice A1 zs.length c1, .bool jn] := by rw [hl0, hszf]; rfl
  have z1 : lk l0 (fun _ => undef) 1 = .agg (optCells comma comment expect lz tr re).toArray := by rw [hl0]; rfl
  have z2 : lk l0 (fun _ => undef) 2 = .slice A script.length cp := by rw [hl0]; rfl
  refine seq_part (scan_p0 w l0 _ _ _ _ _ jn comma comment expect lz tr re z0 z1) ?_
  rintro a w1 ⟨l1, rfl, K1, a3, a4, hb1, hib, hob⟩
  refine seq_part (scan_p1 w1 l1 _ _ _ _ _ _ jn a3 hib) ?_
  rintro a w2 ⟨l2, cr, rb, buf, rfl, K2, hb2, ocr, orb, obuf, bsrc, brb, bbuf, bcr⟩
  have hob2 := hob.below hb2 hob.lt
  refine seq_part (scan_p2 w2 _ _ (w.heap.size + 1) cr rb comma comment expect lz tr re ?_ ?_ hob2 bcr) ?_
  · rw [lk_ne _ _ _ _ _ (by decide), K2 4 rfl rfl, a4]
  · simp [lk]
  rintro a w3 ⟨l3, rfl, K3, hO3, bcr3⟩
  have hne : w.heap.size + 1 ≠ cr := hob2.ne bcr (by decide)
  have hob3 := hob2.only hO3 hne
  have e7 : lk l3 (fun _ => undef) 7 = .pointer (some ⟨cr, 0, none⟩) := by rw [K3 7 rfl rfl]; simp [lk]
  have e4 : lk l3 (fun _ => undef) 4 = .pointer (some ⟨w.heap.size + 1, 0, none⟩) := by rw [K3 4 rfl rfl, lk_ne _ _ _ _ _ (by decide), K2 4 rfl rfl, a4]
  have e2 : lk l3 (fun _ => undef) 2 = .slice A script.length cp := by rw [K3 2 rfl rfl, lk_ne _ _ _ _ _ (by decide), K2 2 rfl rfl, K1 2 rfl rfl, z2]
  refine seq_part (scan_p4 w3 l3 _ (w.heap.size + 1) cr rb _ comma comment expect lz tr re e4 e7 hob3 bcr3) ?_
  rintro a w4 ⟨l4, rfl, K4, hO4, bcr4⟩
  have hO24 := hO3.then hO4
  have bsrc4 := bsrc.only hO24 (bsrc.ne bcr (by decide))
  have brb4 := brb.only hO24 (brb.ne bcr (by decide))
  have bbuf4 := bbuf.only hO24 (bbuf.ne bcr (by decide))
  have hb12 : Below w.heap.size w w2 := hb1.trans (hb2.mono hb1.size)
  have hb4 : Below w.heap.size w w4 := hb12.trans (hO24.below hb12.size (fun k e => by rw [e]; exact Nat.le_trans hb1.size ocr))
  refine seq_part (scan_p5 w4 l4 _) ?_
  rintro a w4' ⟨rfl, rfl⟩
  refine seq_part (scan_p6 w4' _ _) ?_
  rintro a w4 ⟨rfl, rfl⟩
  refine seq_part (scan_p7 w4 _ _ A script.length cp ?_ (by omega)) ?_
  · rw [lk_ne _ _ _ _ _ (by decide), lk_ne _ _ _ _ _ (by decide), K4 2 rfl rfl, e2]
  rintro a w5 ⟨l5, rfl, K5, hb5, bkb⟩
  have hb05 : Below w.heap.size w w5 := hb4.trans (hb5.mono hb4.size)
  refine seq_part (R := fun a w' => ∃ l' c' r' gs' av' s', a = Fr 146 l' (fun _ => undef) ∧ Lp w.heap.size G w script.length (optOf comma comment lz tr) re (Csv.Ses.start data expect) script (2 * data.length) (.slice A script.length cp) cr w4.heap.size script.length l' (fun _ => undef) w' c' r' gs' av' s') ?_ ?_
  · refine seq_part (scan_p8 w5 _ _ A script.length cp ?_) ?_
    · rw [lk_ne _ _ _ _ _ (by decide), K5 2 rfl rfl, lk_ne _ _ _ _ _ (by decide), lk_ne _ _ _ _ _ (by decide), K4 2 rfl rfl, e2]
    rintro a w6 ⟨l6, rfl, K6, f62, f63, f64, rfl⟩
    have hst := start_inv (B := w.heap.size) (G := G) (n := script.length) (data := data) (hG.keep hb05) (hE.keep hb05) (hsz.keep hb05) (by omega) (Nat.le_trans hb1.size ocr) (Nat.le_trans hb1.size orb) (Nat.le_trans hb1.size obuf) hb1.size hb4.size (bcr4.below hb5 bcr4.lt) (brb4.below hb5 brb4.lt) (bbuf4.below hb5 bbuf4.lt) (by rw [← hszf] at bsrc4; exact bsrc4.below hb5 bsrc4.lt) bkb
    refine last_part (scan_loop (m := m) (cr := cr) (kb := w4.heap.size) (s0 := Csv.Ses.start data expect) (script := script) (P0 := 2 * data.length) (o := optOf comma comment lz tr) (reuse := re) ⟨hst, ?_, ?_, ?_, ?_, f62, f63, f64, rfl, rfl, rfl, rfl, rfl, ?_, ht, hb05⟩ rfl hsmall ?_ ?_) ?_
    · rw [K6 7 rfl rfl, lk_ne _ _ _ _ _ (by decide), K5 7 rfl rfl, lk_ne _ _ _ _ _ (by decide), lk_ne _ _ _ _ _ (by decide), K4 7 rfl rfl, e7]
    · rw [K6 8 rfl rfl, lk_ne _ _ _ _ _ (by decide), K5 8 rfl rfl, lk_ne _ _ _ _ _ (by decide)]; simp [lk]
    · rw [K6 9 rfl rfl, lk_ne _ _ _ _ _ (by decide), K5 9 rfl rfl]; simp [lk]; rfl
    · rw [K6 10 rfl rfl]; simp [lk]
    · show 0 + 2 * data.length ≤ _; omega
    · intro hpos
      obtain ⟨sb, so, hA, hsb, hcells⟩ := hscr hpos
      refine ⟨sb, so, cp, by rw [hA], fun w' hb i cal hi => ?_⟩
      obtain ⟨q1, q2⟩ := hcells i cal hi
      exact ⟨(hb.cell (p := ⟨sb, so + i * 2, none⟩) hsb).trans q1, (hb.cell (p := ⟨sb, so + i * 2 + 1, none⟩) hsb).trans q2⟩
    · intro w' hb
      exact (hb.cell (p := ⟨4, 0, none⟩) hmB).trans hm
    · rintro a w7 ⟨l7, c7, r7, gs7, av7, s7, rfl, hL⟩
      exact NPost.mk ⟨l7, c7, r7, gs7, av7, s7, rfl, hL⟩
  rintro a w7 ⟨l7, c7, r7, gs7, av7, s7, rfl, hL⟩
  have hst7 := hL.st
  have hA7 : s7.answers.length = script.length := by rw [← hst7.same, hL.len]
  obtain ⟨css, r1, r2, r3⟩ := hst7.ans
  obtain ⟨A7, ca7, hav7, _⟩ := ownsRow_form r1
  rw [hA7] at hav7 r1
  have hw : ∀ k, av7.ownBlock = some k → Mut c7 gs7 w4.heap.size av7 k := fun k h => .inr (.inr (.inr h))
  refine seq_part (R := fun a w' => ∃ l', a = Fr 146 l' (fun _ => undef) ∧ Lt w.heap.size w script.length s7 gs7 w4.heap.size av7 script.length l' (fun _ => undef) w') ?_ ?_
  · refine seq_part (scan_p30 w7 l7 _ A7 script.length ca7 (hL.h8.trans hav7)) ?_
    rintro a w8 ⟨l8, rfl, K8, g131, g132, rfl⟩
    have hk8 := hst7.kept
    rw [hL.len, Nat.sub_self] at hk8
    simp only [List.replicate_zero, List.append_nil] at hk8
    refine last_part (later_loop (n := script.length) ⟨(K8 8 rfl rfl).trans hL.h8, (K8 10 rfl rfl).trans hL.h10, g131, g132, hL.below, hst7.size, hk8, hst7.arrs, hst7.okKept, hL.len, hA7, css, r1, by omega, fun j cs a e1 e2 => ?_⟩ (by omega)) ?_
    · have e2' : s7.answers[j]? = some a := by
        have : lat s7 0 = s7.answers := by simp [lat]
        rw [this] at e2; exact e2
      obtain ⟨rv, lv, sv, vs, q1, q2, q3, q4, q5, q6, q7, q8⟩ := (r3 j cs a e1 e2').form
      exact ⟨rv, lv, sv, vs, q1, q2, fun k h1 h2 => q3 k h1 (hw k h2), q4, fun k h1 h2 => q5 k h1 (hw k h2), q6, fun k h1 h2 => q7 k h1 (hw k h2), fun u hu k h1 h2 => q8 u hu k h1 (hw k h2)⟩
    · rintro a w9 ⟨l9, rfl, h9⟩
      exact NPost.mk ⟨l9, rfl, h9⟩
  rintro a w9 ⟨l9, rfl, hT⟩
  refine seq_part (scan_p35 w9 l9 _ A7 script.length ca7 (hT.h8.trans hav7)) ?_
  rintro a w10 ⟨l10, rfl, rfl⟩
  refine wp_ret (ret1 rfl rfl ⟨av7, ?_, hT.below, ?_⟩)
  · rw [hav7]; simp [lk]
  · obtain ⟨css', t1, t2, t3⟩ := hT.ans
    have hfin : Csv.scan data (optOf comma comment lz tr) expect re script = s7.finish := by
      have := hL.fold
      rw [List.take_length] at this
      rw [this]; rfl
    have hfl := finish_len hL.len hA7
    have hlat : lat s7 script.length = s7.finish := by
      unfold lat
      rw [List.take_of_length_le (by omega), List.drop_of_length_le (by omega), List.append_nil]
    rw [hfin]
    refine ⟨css', by rw [hfl]; exact t1, by rw [hfl]; exact t2, fun j cs a e1 e2 => t3 j cs a e1 (by rw [hlat]; exact e2)⟩
theorem Scan_any (G : Glob) (w : World) (data : List UInt8) (sz : Value) (zs : List Int) (jn : Bool) (comma comment expect : Int) (lz tr re : Bool) (sv : Value) (script : List Csv.Cal) (m : Int) (hG : GInv w.heap.size w G) (hE : ETy w.heap.size w) (hsz : IntsBelow w.heap.size w sz zs) (hsv : ScriptIn w script sv)
    (hm : w.cell? ⟨4, 0, none⟩ = some (.int .i64 m)) (hmB : 4 < w.heap.size) (hsmall : 2 * data.length + script.length < 268435450) (ht : Tames (optOf comma comment lz tr) (Csv.Ses.start data expect).rd) :
    Calls Tryz.prog 6 [.agg #[.string ⟨data.toArray⟩, sz, .bool jn], .agg (optCells comma comment expect lz tr re).toArray, sv].toArray w fun e w' => ∃ av, e = .returned av ∧ Below w.heap.size w w' ∧ AnsRow w.heap.size w' av (Csv.scan data (optOf comma comment lz tr) expect re script) :=
  Scan_tame G w data sz zs jn comma comment expect lz tr re sv script m hG hE hsz hsv hm hmB hsmall (Tames.script script _ ht)
end Go.Proofs.YtfadgnopfjajbaaGreatDoor
namespace Go.Proofs.YtfadgnopfjajbaaGreatDoor
open Go.RowKit
theorem drewN_below (w : World) : ∀ q, Below w.heap.size w (w.drewN q) := fun _ => ⟨rfl, rfl, rfl, Nat.le_refl _, fun _ _ => rfl⟩
/-- Strings that can be read. -/
def StrR (w : World) (v : Value) (fs : List (List UInt8)) : Prop := ∃ A c, v = .slice A fs.length c ∧ (0 < fs.length → ∃ b o, A = some ⟨b, o, none⟩ ∧ ∀ (j : Nat) (x : List UInt8), fs[j]? = some x → w.cell? ⟨b, o + j, none⟩ = some (strV x))
theorem StrS.read {B : Nat} {w : World} {v : Value} {fs : List (List UInt8)} (h : StrS B w v fs) : StrR w v fs := by
  obtain ⟨A, c, hv, h1, h2, h3, h4⟩ := h.form
  refine ⟨A, c, hv, fun hp => ?_⟩
  cases hA : A with
  | none => have := (h3 hA).1; rw [this] at hp; simp at hp
  | some a =>
    obtain ⟨g, rfl, _⟩ := h4 a hA
    refine ⟨g, 0, rfl, fun j x hj => ?_⟩
    rw [hv, hA] at h
    have := (h.cell j x hj).2
    rw [Nat.zero_add]; exact this
theorem Equal_any (w : World) (v1 v2 : Value) (fs : List (List UInt8)) (h1 : StrR w v1 fs) (h2 : StrR w v2 fs) (hl : fs.length ≤ 9223372036854775807) : Calls Tryz.prog 23 #[v1, v2] w fun e w' => e = .returned (.bool true) ∧ ∃ q, w' = w.drewN q := by
  obtain ⟨A1, c1, rfl, r1⟩ := h1
  obtain ⟨A2, c2, rfl, r2⟩ := h2
  rcases Nat.eq_zero_or_pos fs.length with h0 | hp
  · rw [h0]
    have := Any.slices_Equal_string_empty Tryz.laysEqual A1 A2 c1 0 c2 w (by decide)
    exact this.mono (fun e w' ⟨h1, h2⟩ => ⟨h1, 0, h2⟩)
  · obtain ⟨b1, o1, rfl, q1⟩ := r1 hp
    obtain ⟨b2, o2, rfl, q2⟩ := r2 hp
    have key : ∀ (b o : Nat), (∀ (j : Nat) (x : List UInt8), fs[j]? = some x → w.cell? ⟨b, o + j, none⟩ = some (strV x)) → ∀ j, j < (fs.map fun x => (⟨x.toArray⟩ : ByteArray)).length → w.cell? ⟨b, o + j, none⟩ = some (.string ((fs.map fun x => (⟨x.toArray⟩ : ByteArray)).getD j ByteArray.empty)) := fun b o q j hj => by
      rw [List.length_map] at hj
      rw [q j _ (List.getElem?_eq_getElem hj), List.getD_eq_getElem?_getD, List.getElem?_map, List.getElem?_eq_getElem hj]
      rfl
    have := Any.slices_Equal_string Tryz.laysEqual b1 o1 fs.length c1 b2 o2 fs.length c2 (fs.map fun x => ⟨x.toArray⟩) (fs.map fun x => ⟨x.toArray⟩) w (by simp) (by simp) (by omega) (by omega) (key b1 o1 q1) (key b2 o2 q2)
    rw [decide_eq_true rfl] at this
    exact this
end Go.Proofs.YtfadgnopfjajbaaGreatDoor
namespace Go.Proofs.YtfadgnopfjajbaaGreatDoor
open Go.RowKit
/-- The slots of V but those of S hold what they held. -/
def VKeeps (V S : List Nat) (l : List (Nat × Value)) (f : Nat → Value) (l' : List (Nat × Value)) : Prop := ∀ k, V.contains k = true → S.contains k = false → lk l' f k = lk l f k
theorem VKeeps.refl (V S : List Nat) (l : List (Nat × Value)) (f : Nat → Value) : VKeeps V S l f l := fun _ _ _ => rfl
theorem VKeeps.far {V S : List Nat} {l l' : List (Nat × Value)} {f : Nat → Value} {j : Nat} {v : Value} (hj : V.contains j = false) (h : VKeeps V S l f l') : VKeeps V S l f ((j, v) :: l') := fun k hk hs => by
  rw [lk_ne _ _ _ _ _ (by simp only [beq_eq_false_iff_ne, ne_eq]; intro e; subst e; rw [hk] at hj; cases hj)]
  exact h k hk hs
theorem VKeeps.set {V S : List Nat} {l l' : List (Nat × Value)} {f : Nat → Value} {j : Nat} {v : Value} (hj : S.contains j = true) (h : VKeeps V S l f l') : VKeeps V S l f ((j, v) :: l') := fun k hk hs => by
  rw [lk_ne _ _ _ _ _ (by simp only [beq_eq_false_iff_ne, ne_eq]; intro e; subst e; rw [hj] at hs; cases hs)]
  exact h k hk hs
theorem Equal_str {B B' : Nat} (w : World) (v1 v2 : Value) (fs : List (List UInt8)) (h1 : StrS B w v1 fs) (h2 : StrS B' w v2 fs) : Calls Tryz.prog 23 #[v1, v2] w fun e w' => e = .returned (.bool true) ∧ ∃ q, w' = w.drewN q := by
  obtain ⟨A, c, hv, e1, e2, _⟩ := h1.form
  exact Equal_any w v1 v2 fs h1.read h2.read (by simp only [maxLen] at e2; omega)
abbrev qV : List Nat := [0, 1, 2, 7, 8, 9, 15, 16, 17]
noncomputable def qsBody : Code := (Tryz.f59.body).getD .skip
noncomputable def qs0 : Code := part [false] qsBody
noncomputable def qs1 : Code := part [true, false, false] qsBody
noncomputable def qs3 : Code := part [true, true, false, false] qsBody
noncomputable def qs4 : Code := part [true, true, false, true, false, false, false] qsBody
noncomputable def qs5 : Code := part [true, true, false, true, false, false, true, true, false, false, false] qsBody
noncomputable def qs6 : Code := part [true, true, false, true, false, false, true, true, false, false, true, false] qsBody
noncomputable def qs7 : Code := part [true, true, false, true, false, false, true, true, false, false, true, true, false] qsBody
noncomputable def qs8 : Code := part [true, true, false, true, false, false, true, true, false, false, true, true, true, false] qsBody
noncomputable def qs9 : Code := part [true, true, false, true, false, false, true, true, true] qsBody
noncomputable def qs10 : Code := part [true, true, true, false] qsBody
noncomputable def qs2 : Code := part [true, false, true, false] qsBody
set_option maxRecDepth 100000 in
theorem qs_eq : qsBody = Code.seq qs0 (.seq (.seq qs1 (.cond (.tmp 14) qs2 .skip)) (.seq (.seq qs3 (.block 0 (.loop (.seq qs4 (.seq (.cond (.tmp 18) .skip (.exit 0)) (.seq (.block 1 (.seq qs5 (.seq qs6 (.seq qs7 (.cond (.tmp 30) qs8 .skip))))) qs9)))))) (.seq qs10 .ret))) := by kernel_rfl
set_option maxRecDepth 100000 in
theorem qs_p0 (w : World) (l : List (Nat × Value)) (f : Nat → Value) : qs0.wp Tryz.prog (NPost fun a w' => a = Fr 32 ((6, .bool false) :: l) f ∧ w' = w) (Fr 32 l f) w := by
  dsimp only [qs0, qsBody, part, part.sub2', sub1, sub2, Tryz.f59, Option.getD]
  go_wp
  exact NPost.mk ⟨rfl, rfl⟩
set_option maxRecDepth 100000 in
theorem qs_p1 (w : World) (l : List (Nat × Value)) (f : Nat → Value) (A1 A2 : Option Addr) (n c1 c2 : Nat) (h0 : lk l f 0 = .slice A1 n c1) (h1 : lk l f 1 = .slice A2 n c2) : qs1.wp Tryz.prog (NPost fun a w' => ∃ l', a = Fr 32 ((14, .bool false) :: l') f ∧ VKeeps qV [] l f l' ∧ w' = w) (Fr 32 l f) w := by
  dsimp only [qs1, qsBody, part, part.sub2', sub1, sub2, Tryz.f59, Option.getD]
  go_wp
  first
    | exact NPost.mk ⟨_, rfl, (by repeat first | exact VKeeps.refl _ _ _ _ | refine VKeeps.far (by decide) ?_ | refine VKeeps.set (by decide) ?_), rfl⟩
    | (simp only [ne_eq, not_true_eq_false, decide_false, bne_self_eq_false, beq_self_eq_true, Bool.not_true, decide_true]; exact NPost.mk ⟨_, rfl, (by repeat first | exact VKeeps.refl _ _ _ _ | refine VKeeps.far (by decide) ?_ | refine VKeeps.set (by decide) ?_), rfl⟩)
set_option maxRecDepth 100000 in
theorem qs_p3 (w : World) (l : List (Nat × Value)) (f : Nat → Value) (A1 : Option Addr) (n c1 : Nat) (h0 : lk l f 0 = .slice A1 n c1) : qs3.wp Tryz.prog (NPost fun a w' => ∃ l', a = Fr 32 l' f ∧ VKeeps qV [15, 16, 17] l f l' ∧ lk l' f 15 = .slice A1 n c1 ∧ lk l' f 16 = .int .i64 (n : Int) ∧ lk l' f 17 = .int .i64 ((0 : Nat) : Int) ∧ w' = w) (Fr 32 l f) w := by
  dsimp only [qs3, qsBody, part, part.sub2', sub1, sub2, Tryz.f59, Option.getD]
  go_wp
  exact NPost.mk ⟨_, rfl, (by repeat first | exact VKeeps.refl _ _ _ _ | refine VKeeps.far (by decide) ?_ | refine VKeeps.set (by decide) ?_), by simp [lk], by simp [lk], by simp [lk], rfl⟩
set_option maxRecDepth 100000 in
theorem qs_p4 (w : World) (l : List (Nat × Value)) (f : Nat → Value) (i n : Nat) (h17 : lk l f 17 = .int .i64 (i : Int)) (h16 : lk l f 16 = .int .i64 (n : Int)) : qs4.wp Tryz.prog (NPost fun a w' => ∃ l', a = Fr 32 ((18, .bool (decide (i < n))) :: l') f ∧ VKeeps qV [] l f l' ∧ w' = w) (Fr 32 l f) w := by
  dsimp only [qs4, qsBody, part, part.sub2', sub1, sub2, Tryz.f59, Option.getD]
  go_wp
  exact NPost.mk ⟨_, rfl, (by repeat first | exact VKeeps.refl _ _ _ _ | refine VKeeps.far (by decide) ?_ | refine VKeeps.set (by decide) ?_), rfl⟩
set_option maxRecDepth 100000 in
theorem qs_p9 (w : World) (l : List (Nat × Value)) (f : Nat → Value) (i : Nat) (h17 : lk l f 17 = .int .i64 (i : Int)) (hi : i < 9223372036854775807) : qs9.wp Tryz.prog (NPost fun a w' => ∃ l', a = Fr 32 ((17, .int .i64 ((i + 1 : Nat) : Int)) :: l') f ∧ VKeeps qV [] l f l' ∧ w' = w) (Fr 32 l f) w := by
  dsimp only [qs9, qsBody, part, part.sub2', sub1, sub2, Tryz.f59, Option.getD]
  go_wp
  exact NPost.mk ⟨_, rfl, (by repeat first | exact VKeeps.refl _ _ _ _ | refine VKeeps.far (by decide) ?_ | refine VKeeps.set (by decide) ?_), rfl⟩
set_option maxRecDepth 100000 in
theorem qs_p10 (w : World) (l : List (Nat × Value)) (f : Nat → Value) : qs10.wp Tryz.prog (NPost fun a w' => a = Fr 32 ((6, .bool true) :: l) f ∧ w' = w) (Fr 32 l f) w := by
  dsimp only [qs10, qsBody, part, part.sub2', sub1, sub2, Tryz.f59, Option.getD]
  go_wp
  exact NPost.mk ⟨rfl, rfl⟩
noncomputable def qaBody : Code := (Tryz.f35.body).getD .skip
noncomputable def qa0 : Code := part [false] qaBody
noncomputable def qa1 : Code := part [true, false, false] qaBody
noncomputable def qa3 : Code := part [true, true, false, false] qaBody
noncomputable def qa4 : Code := part [true, true, false, true, false, false, false] qaBody
noncomputable def qa5 : Code := part [true, true, false, true, false, false, true, true, false, false, false] qaBody
noncomputable def qa6 : Code := part [true, true, false, true, false, false, true, true, false, false, true, false] qaBody
noncomputable def qa7 : Code := part [true, true, false, true, false, false, true, true, false, false, true, true, false] qaBody
noncomputable def qa8 : Code := part [true, true, false, true, false, false, true, true, false, false, true, true, true, false] qaBody
noncomputable def qa9 : Code := part [true, true, false, true, false, false, true, true, true] qaBody
noncomputable def qa10 : Code := part [true, true, true, false] qaBody
noncomputable def qa2 : Code := part [true, false, true, false] qaBody
set_option maxRecDepth 100000 in
theorem qa_eq : qaBody = Code.seq qa0 (.seq (.seq qa1 (.cond (.tmp 14) qa2 .skip)) (.seq (.seq qa3 (.block 0 (.loop (.seq qa4 (.seq (.cond (.tmp 18) .skip (.exit 0)) (.seq (.block 1 (.seq qa5 (.seq qa6 (.seq qa7 (.cond (.tmp 30) qa8 .skip))))) qa9)))))) (.seq qa10 .ret))) := by kernel_rfl
set_option maxRecDepth 100000 in
theorem qa_p0 (w : World) (l : List (Nat × Value)) (f : Nat → Value) : qa0.wp Tryz.prog (NPost fun a w' => a = Fr 32 ((6, .bool false) :: l) f ∧ w' = w) (Fr 32 l f) w := by
  dsimp only [qa0, qaBody, part, part.sub2', sub1, sub2, Tryz.f35, Option.getD]
  go_wp
  exact NPost.mk ⟨rfl, rfl⟩
set_option maxRecDepth 100000 in
theorem qa_p1 (w : World) (l : List (Nat × Value)) (f : Nat → Value) (A1 A2 : Option Addr) (n c1 c2 : Nat) (h0 : lk l f 0 = .slice A1 n c1) (h1 : lk l f 1 = .slice A2 n c2) : qa1.wp Tryz.prog (NPost fun a w' => ∃ l', a = Fr 32 ((14, .bool false) :: l') f ∧ VKeeps qV [] l f l' ∧ w' = w) (Fr 32 l f) w := by
  dsimp only [qa1, qaBody, part, part.sub2', sub1, sub2, Tryz.f35, Option.getD]
  go_wp
  first
    | exact NPost.mk ⟨_, rfl, (by repeat first | exact VKeeps.refl _ _ _ _ | refine VKeeps.far (by decide) ?_ | refine VKeeps.set (by decide) ?_), rfl⟩
    | (simp only [ne_eq, not_true_eq_false, decide_false, bne_self_eq_false, beq_self_eq_true, Bool.not_true, decide_true]; exact NPost.mk ⟨_, rfl, (by repeat first | exact VKeeps.refl _ _ _ _ | refine VKeeps.far (by decide) ?_ | refine VKeeps.set (by decide) ?_), rfl⟩)
set_option maxRecDepth 100000 in
theorem qa_p3 (w : World) (l : List (Nat × Value)) (f : Nat → Value) (A1 : Option Addr) (n c1 : Nat) (h0 : lk l f 0 = .slice A1 n c1) : qa3.wp Tryz.prog (NPost fun a w' => ∃ l', a = Fr 32 l' f ∧ VKeeps qV [15, 16, 17] l f l' ∧ lk l' f 15 = .slice A1 n c1 ∧ lk l' f 16 = .int .i64 (n : Int) ∧ lk l' f 17 = .int .i64 ((0 : Nat) : Int) ∧ w' = w) (Fr 32 l f) w := by
  dsimp only [qa3, qaBody, part, part.sub2', sub1, sub2, Tryz.f35, Option.getD]
  go_wp
  exact NPost.mk ⟨_, rfl, (by repeat first | exact VKeeps.refl _ _ _ _ | refine VKeeps.far (by decide) ?_ | refine VKeeps.set (by decide) ?_), by simp [lk], by simp [lk], by simp [lk], rfl⟩
set_option maxRecDepth 100000 in
theorem qa_p4 (w : World) (l : List (Nat × Value)) (f : Nat → Value) (i n : Nat) (h17 : lk l f 17 = .int .i64 (i : Int)) (h16 : lk l f 16 = .int .i64 (n : Int)) : qa4.wp Tryz.prog (NPost fun a w' => ∃ l', a = Fr 32 ((18, .bool (decide (i < n))) :: l') f ∧ VKeeps qV [] l f l' ∧ w' = w) (Fr 32 l f) w := by
  dsimp only [qa4, qaBody, part, part.sub2', sub1, sub2, Tryz.f35, Option.getD]
  go_wp
  exact NPost.mk ⟨_, rfl, (by repeat first | exact VKeeps.refl _ _ _ _ | refine VKeeps.far (by decide) ?_ | refine VKeeps.set (by decide) ?_), rfl⟩
set_option maxRecDepth 100000 in
theorem qa_p9 (w : World) (l : List (Nat × Value)) (f : Nat → Value) (i : Nat) (h17 : lk l f 17 = .int .i64 (i : Int)) (hi : i < 9223372036854775807) : qa9.wp Tryz.prog (NPost fun a w' => ∃ l', a = Fr 32 ((17, .int .i64 ((i + 1 : Nat) : Int)) :: l') f ∧ VKeeps qV [] l f l' ∧ w' = w) (Fr 32 l f) w := by
  dsimp only [qa9, qaBody, part, part.sub2', sub1, sub2, Tryz.f35, Option.getD]
  go_wp
  exact NPost.mk ⟨_, rfl, (by repeat first | exact VKeeps.refl _ _ _ _ | refine VKeeps.far (by decide) ?_ | refine VKeeps.set (by decide) ?_), rfl⟩
set_option maxRecDepth 100000 in
theorem qa_p10 (w : World) (l : List (Nat × Value)) (f : Nat → Value) : qa10.wp Tryz.prog (NPost fun a w' => a = Fr 32 ((6, .bool true) :: l) f ∧ w' = w) (Fr 32 l f) w := by
  dsimp only [qa10, qaBody, part, part.sub2', sub1, sub2, Tryz.f35, Option.getD]
  go_wp
  exact NPost.mk ⟨rfl, rfl⟩
set_option maxRecDepth 100000 in
theorem qs_p5 (w : World) (l : List (Nat × Value)) (f : Nat → Value) (b i n c : Nat) (u : Value) (A : Option Addr) (un uc : Nat) (h17 : lk l f 17 = .int .i64 (i : Int)) (h15 : lk l f 15 = .slice (some ⟨b, 0, none⟩) n c) (hi : i < n) (hu : u = .slice A un uc) (hc : w.cell? ⟨b, i, none⟩ = some u) : qs5.wp Tryz.prog (NPost fun a w' => ∃ l', a = Fr 32 l' f ∧ VKeeps qV [7, 8] l f l' ∧ lk l' f 7 = .int .i64 (i : Int) ∧ lk l' f 8 = u ∧ w' = w) (Fr 32 l f) w := by
  subst hu
  dsimp only [qs5, qsBody, part, part.sub2', sub1, sub2, Tryz.f59, Option.getD]
  go_wp
  exact NPost.mk ⟨_, rfl, (by repeat first | exact VKeeps.refl _ _ _ _ | refine VKeeps.far (by decide) ?_ | refine VKeeps.set (by decide) ?_), by simp [lk], by simp [lk], rfl⟩
set_option maxRecDepth 100000 in
theorem qs_p6 (w : World) (l : List (Nat × Value)) (f : Nat → Value) (b i n c : Nat) (u : Value) (A : Option Addr) (un uc : Nat) (h7 : lk l f 7 = .int .i64 (i : Int)) (h1 : lk l f 1 = .slice (some ⟨b, 0, none⟩) n c) (hi : i < n) (hu : u = .slice A un uc) (hc : w.cell? ⟨b, i, none⟩ = some u) : qs6.wp Tryz.prog (NPost fun a w' => ∃ l', a = Fr 32 l' f ∧ VKeeps qV [9] l f l' ∧ lk l' f 9 = u ∧ w' = w) (Fr 32 l f) w := by
  subst hu
  dsimp only [qs6, qsBody, part, part.sub2', sub1, sub2, Tryz.f59, Option.getD]
  go_wp
  exact NPost.mk ⟨_, rfl, (by repeat first | exact VKeeps.refl _ _ _ _ | refine VKeeps.far (by decide) ?_ | refine VKeeps.set (by decide) ?_), by simp [lk], rfl⟩
set_option maxRecDepth 100000 in
theorem qs_p7 (w : World) (l : List (Nat × Value)) (f : Nat → Value) (u1 u2 : Value) (R : World → Prop) (h2 : lk l f 2 = .func (.func 23) #[] #[]) (h8 : lk l f 8 = u1) (h9 : lk l f 9 = u2) (hR : Calls Tryz.prog 23 #[u1, u2] w fun e w' => e = .returned (.bool true) ∧ R w') : qs7.wp Tryz.prog (NPost fun a w' => ∃ l', a = Fr 32 ((30, .bool false) :: l') f ∧ VKeeps qV [] l f l' ∧ R w') (Fr 32 l f) w := by
  dsimp only [qs7, qsBody, part, part.sub2', sub1, sub2, Tryz.f59, Option.getD]
  go_wp
  refine hR.mono ?_
  rintro e w1 ⟨rfl, hr⟩
  dsimp only
  have H := Lib.hid hr
  clear hr hR
  go_wp
  exact NPost.mk ⟨_, rfl, (by repeat first | exact VKeeps.refl _ _ _ _ | refine VKeeps.far (by decide) ?_ | refine VKeeps.set (by decide) ?_), H.out⟩
end Go.Proofs.YtfadgnopfjajbaaGreatDoor
namespace Go.Proofs.YtfadgnopfjajbaaGreatDoor
open Go.RowKit
/-- Ahead of round i. -/
structure Qi (w0 : World) (v1 v2 fv : Value) (n i : Nat) (l : List (Nat × Value)) (f : Nat → Value) (w : World) : Prop where
  h0 : lk l f 0 = v1
  h1 : lk l f 1 = v2
  h2 : lk l f 2 = fv
  h15 : lk l f 15 = v1
  h16 : lk l f 16 = .int .i64 (n : Int)
  h17 : lk l f 17 = .int .i64 (i : Int)
  below : Below w0.heap.size w0 w
section
variable {w0 w w' : World} {v1 v2 fv : Value} {n i : Nat} {l l' : List (Nat × Value)} {f : Nat → Value}
theorem Qi.keep (h : Qi w0 v1 v2 fv n i l f w) (K : VKeeps qV [7, 8, 9] l f l') (hb : Below w0.heap.size w w') : Qi w0 v1 v2 fv n i l' f w' :=
  ⟨(K 0 rfl rfl).trans h.h0, (K 1 rfl rfl).trans h.h1, (K 2 rfl rfl).trans h.h2, (K 15 rfl rfl).trans h.h15, (K 16 rfl rfl).trans h.h16, (K 17 rfl rfl).trans h.h17, h.below.trans hb⟩
theorem VKeeps.mono {V S S' : List Nat} (h : VKeeps V S l f l') (hs : ∀ k, S'.contains k = false → S.contains k = false) : VKeeps V S' l f l' := fun k a b => h k a (hs k b)
theorem VKeeps.trans {V S : List Nat} {l'' : List (Nat × Value)} (h : VKeeps V S l f l') (h' : VKeeps V S l' f l'') : VKeeps V S l f l'' := fun k a b => (h' k a b).trans (h k a b)
theorem qs_loop (h : Qi w0 v1 v2 fv n 0 l f w) (hn : n ≤ 9223372036854775807)
    (hround : ∀ (i : Nat) (l : List (Nat × Value)) (w : World), i < n → Qi w0 v1 v2 fv n i l f w → (Code.block 1 (.seq qs5 (.seq qs6 (.seq qs7 (.cond (.tmp 30) qs8 .skip))))).wp Tryz.prog (NPost fun a w' => ∃ l', a = Fr 32 l' f ∧ Qi w0 v1 v2 fv n i l' f w') (Fr 32 l f) w) :
    (Code.block 0 (.loop (.seq qs4 (.seq (.cond (.tmp 18) .skip (.exit 0)) (.seq (.block 1 (.seq qs5 (.seq qs6 (.seq qs7 (.cond (.tmp 30) qs8 .skip))))) qs9))))).wp Tryz.prog (NPost fun a w' => ∃ l', a = Fr 32 l' f ∧ Qi w0 v1 v2 fv n n l' f w') (Fr 32 l f) w := by
  refine wp_block ?_
  refine wp_loop_n (fun k a w' => ∃ l', a = Fr 32 l' f ∧ k ≤ n ∧ Qi w0 v1 v2 fv n (n - k) l' f w') n ⟨l, rfl, Nat.le_refl _, by rw [Nat.sub_self]; exact h⟩ ?_
  rintro k a w1 ⟨l1, rfl, hk, hL⟩
  refine seq_part (qs_p4 w1 l1 f (n - k) n hL.h17 hL.h16) ?_
  rintro a w2 ⟨l2, rfl, K2, rfl⟩
  have e65 : lk ((18, .bool (decide (n - k < n))) :: l2) f 18 = .bool (decide (n - k < n)) := by simp [lk]
  have hL2 := hL.keep ((VKeeps.far (j := 18) (v := .bool (decide (n - k < n))) rfl K2).mono (fun _ _ => rfl)) (Below.refl _ w2)
  revert e65 hL2
  generalize (18, Value.bool (decide (n - k < n))) :: l2 = l3
  intro e65 hL2
  by_cases hlt : n - k < n
  · rw [decide_eq_true hlt] at e65
    refine seq_part (R := fun a w => a = Fr 32 l3 f ∧ w = w2) (wp_if_true rfl e65 (wp_skip (NPost.mk ⟨rfl, rfl⟩))) ?_
    rintro a w3 ⟨rfl, rfl⟩
    refine seq_part (hround (n - k) l3 w3 hlt hL2) ?_
    rintro a w4 ⟨l4, rfl, hL4⟩
    refine last_part (qs_p9 w4 l4 f (n - k) hL4.h17 (by omega)) ?_
    rintro a w5 ⟨l5, rfl, K5, rfl⟩
    refine ⟨k - 1, by omega, _, rfl, by omega, ?_⟩
    have e : n - (k - 1) = n - k + 1 := by omega
    rw [e]
    exact ⟨by rw [lk_ne _ _ _ _ _ rfl]; exact (K5 0 rfl rfl).trans hL4.h0, by rw [lk_ne _ _ _ _ _ rfl]; exact (K5 1 rfl rfl).trans hL4.h1, by rw [lk_ne _ _ _ _ _ rfl]; exact (K5 2 rfl rfl).trans hL4.h2, by rw [lk_ne _ _ _ _ _ rfl]; exact (K5 15 rfl rfl).trans hL4.h15, by rw [lk_ne _ _ _ _ _ rfl]; exact (K5 16 rfl rfl).trans hL4.h16, by simp [lk], hL4.below⟩
  · rw [decide_eq_false hlt] at e65
    have hk0 : n - k = n := by omega
    rw [hk0] at hL2
    refine wp_seq (wp_if_false rfl e65 (wp_exit ?_))
    simp only [Exit.then, Exit.inBlock, if_true]
    exact NPost.mk ⟨l3, rfl, hL2⟩
theorem qs_calls (w : World) (A1 A2 : Option Addr) (n c1 c2 : Nat) (fv : Value) (hn : n ≤ 9223372036854775807)
    (hround : ∀ (i : Nat) (l : List (Nat × Value)) (w' : World), i < n → Qi w (.slice A1 n c1) (.slice A2 n c2) fv n i l (fun _ => undef) w' → (Code.block 1 (.seq qs5 (.seq qs6 (.seq qs7 (.cond (.tmp 30) qs8 .skip))))).wp Tryz.prog (NPost fun a w' => ∃ l', a = Fr 32 l' (fun _ => undef) ∧ Qi w (.slice A1 n c1) (.slice A2 n c2) fv n i l' (fun _ => undef) w') (Fr 32 l (fun _ => undef)) w') :
    Calls Tryz.prog 59 [.slice A1 n c1, .slice A2 n c2, fv].toArray w fun e w' => e = .returned (.bool true) ∧ Below w.heap.size w w' := by
  refine enter 32 Tryz.func59 rfl rfl (by simp) ?_
  show qsBody.wp _ _ _ _
  rw [qs_eq]
  dsimp only [List.zipIdx, List.map]
  refine seq_part (qs_p0 w _ _) ?_
  rintro a w1 ⟨rfl, rfl⟩
  refine seq_part (R := fun a w' => ∃ l', a = Fr 32 l' (fun _ => undef) ∧ lk l' (fun _ => undef) 0 = .slice A1 n c1 ∧ lk l' (fun _ => undef) 1 = .slice A2 n c2 ∧ lk l' (fun _ => undef) 2 = fv ∧ w' = w1) ?_ ?_
  · refine seq_part (qs_p1 w1 _ _ A1 A2 n c1 c2 (by simp [lk]) (by simp [lk])) ?_
    rintro a w2 ⟨l2, rfl, K2, rfl⟩
    refine wp_if_false rfl (by simp [lk]) (wp_skip (NPost.mk ⟨_, rfl, ?_, ?_, ?_, rfl⟩))
    · rw [lk_ne _ _ _ _ _ rfl, K2 0 rfl rfl]; simp [lk]
    · rw [lk_ne _ _ _ _ _ rfl, K2 1 rfl rfl]; simp [lk]
    · rw [lk_ne _ _ _ _ _ rfl, K2 2 rfl rfl]; simp [lk]
  rintro a w2 ⟨l2, rfl, g0, g1, g2, rfl⟩
  refine seq_part (R := fun a w' => ∃ l', a = Fr 32 l' (fun _ => undef) ∧ Below w2.heap.size w2 w') ?_ ?_
  · refine seq_part (qs_p3 w2 l2 _ A1 n c1 g0) ?_
    rintro a w3 ⟨l3, rfl, K3, k15, k16, k17, rfl⟩
    refine last_part (qs_loop (w0 := w3) (v1 := .slice A1 n c1) (v2 := .slice A2 n c2) (fv := fv) (n := n) ⟨(K3 0 rfl rfl).trans g0, (K3 1 rfl rfl).trans g1, (K3 2 rfl rfl).trans g2, k15, k16, k17, Below.refl _ _⟩ hn hround) ?_
    rintro a w4 ⟨l4, rfl, hL⟩
    exact NPost.mk ⟨l4, rfl, hL.below⟩
  rintro a w4 ⟨l4, rfl, hb⟩
  refine seq_part (qs_p10 w4 l4 _) ?_
  rintro a w5 ⟨rfl, rfl⟩
  exact wp_ret (ret1 rfl rfl ⟨by simp [lk], hb⟩)
theorem qa_loop (h : Qi w0 v1 v2 fv n 0 l f w) (hn : n ≤ 9223372036854775807)
    (hround : ∀ (i : Nat) (l : List (Nat × Value)) (w : World), i < n → Qi w0 v1 v2 fv n i l f w → (Code.block 1 (.seq qa5 (.seq qa6 (.seq qa7 (.cond (.tmp 30) qa8 .skip))))).wp Tryz.prog (NPost fun a w' => ∃ l', a = Fr 32 l' f ∧ Qi w0 v1 v2 fv n i l' f w') (Fr 32 l f) w) :
    (Code.block 0 (.loop (.seq qa4 (.seq (.cond (.tmp 18) .skip (.exit 0)) (.seq (.block 1 (.seq qa5 (.seq qa6 (.seq qa7 (.cond (.tmp 30) qa8 .skip))))) qa9))))).wp Tryz.prog (NPost fun a w' => ∃ l', a = Fr 32 l' f ∧ Qi w0 v1 v2 fv n n l' f w') (Fr 32 l f) w := by
  refine wp_block ?_
  refine wp_loop_n (fun k a w' => ∃ l', a = Fr 32 l' f ∧ k ≤ n ∧ Qi w0 v1 v2 fv n (n - k) l' f w') n ⟨l, rfl, Nat.le_refl _, by rw [Nat.sub_self]; exact h⟩ ?_
  rintro k a w1 ⟨l1, rfl, hk, hL⟩
  refine seq_part (qa_p4 w1 l1 f (n - k) n hL.h17 hL.h16) ?_
  rintro a w2 ⟨l2, rfl, K2, rfl⟩
  have e65 : lk ((18, .bool (decide (n - k < n))) :: l2) f 18 = .bool (decide (n - k < n)) := by simp [lk]
  have hL2 := hL.keep ((VKeeps.far (j := 18) (v := .bool (decide (n - k < n))) rfl K2).mono (fun _ _ => rfl)) (Below.refl _ w2)
  revert e65 hL2
  generalize (18, Value.bool (decide (n - k < n))) :: l2 = l3
  intro e65 hL2
  by_cases hlt : n - k < n
  · rw [decide_eq_true hlt] at e65
    refine seq_part (R := fun a w => a = Fr 32 l3 f ∧ w = w2) (wp_if_true rfl e65 (wp_skip (NPost.mk ⟨rfl, rfl⟩))) ?_
    rintro a w3 ⟨rfl, rfl⟩
    refine seq_part (hround (n - k) l3 w3 hlt hL2) ?_
    rintro a w4 ⟨l4, rfl, hL4⟩
    refine last_part (qa_p9 w4 l4 f (n - k) hL4.h17 (by omega)) ?_
    rintro a w5 ⟨l5, rfl, K5, rfl⟩
    refine ⟨k - 1, by omega, _, rfl, by omega, ?_⟩
    have e : n - (k - 1) = n - k + 1 := by omega
    rw [e]
    exact ⟨by rw [lk_ne _ _ _ _ _ rfl]; exact (K5 0 rfl rfl).trans hL4.h0, by rw [lk_ne _ _ _ _ _ rfl]; exact (K5 1 rfl rfl).trans hL4.h1, by rw [lk_ne _ _ _ _ _ rfl]; exact (K5 2 rfl rfl).trans hL4.h2, by rw [lk_ne _ _ _ _ _ rfl]; exact (K5 15 rfl rfl).trans hL4.h15, by rw [lk_ne _ _ _ _ _ rfl]; exact (K5 16 rfl rfl).trans hL4.h16, by simp [lk], hL4.below⟩
  · rw [decide_eq_false hlt] at e65
    have hk0 : n - k = n := by omega
    rw [hk0] at hL2
    refine wp_seq (wp_if_false rfl e65 (wp_exit ?_))
    simp only [Exit.then, Exit.inBlock, if_true]
    exact NPost.mk ⟨l3, rfl, hL2⟩
theorem qa_calls (w : World) (A1 A2 : Option Addr) (n c1 c2 : Nat) (fv : Value) (hn : n ≤ 9223372036854775807)
    (hround : ∀ (i : Nat) (l : List (Nat × Value)) (w' : World), i < n → Qi w (.slice A1 n c1) (.slice A2 n c2) fv n i l (fun _ => undef) w' → (Code.block 1 (.seq qa5 (.seq qa6 (.seq qa7 (.cond (.tmp 30) qa8 .skip))))).wp Tryz.prog (NPost fun a w' => ∃ l', a = Fr 32 l' (fun _ => undef) ∧ Qi w (.slice A1 n c1) (.slice A2 n c2) fv n i l' (fun _ => undef) w') (Fr 32 l (fun _ => undef)) w') :
    Calls Tryz.prog 35 [.slice A1 n c1, .slice A2 n c2, fv].toArray w fun e w' => e = .returned (.bool true) ∧ Below w.heap.size w w' := by
  refine enter 32 Tryz.func35 rfl rfl (by simp) ?_
  show qaBody.wp _ _ _ _
  rw [qa_eq]
  dsimp only [List.zipIdx, List.map]
  refine seq_part (qa_p0 w _ _) ?_
  rintro a w1 ⟨rfl, rfl⟩
  refine seq_part (R := fun a w' => ∃ l', a = Fr 32 l' (fun _ => undef) ∧ lk l' (fun _ => undef) 0 = .slice A1 n c1 ∧ lk l' (fun _ => undef) 1 = .slice A2 n c2 ∧ lk l' (fun _ => undef) 2 = fv ∧ w' = w1) ?_ ?_
  · refine seq_part (qa_p1 w1 _ _ A1 A2 n c1 c2 (by simp [lk]) (by simp [lk])) ?_
    rintro a w2 ⟨l2, rfl, K2, rfl⟩
    refine wp_if_false rfl (by simp [lk]) (wp_skip (NPost.mk ⟨_, rfl, ?_, ?_, ?_, rfl⟩))
    · rw [lk_ne _ _ _ _ _ rfl, K2 0 rfl rfl]; simp [lk]
    · rw [lk_ne _ _ _ _ _ rfl, K2 1 rfl rfl]; simp [lk]
    · rw [lk_ne _ _ _ _ _ rfl, K2 2 rfl rfl]; simp [lk]
  rintro a w2 ⟨l2, rfl, g0, g1, g2, rfl⟩
  refine seq_part (R := fun a w' => ∃ l', a = Fr 32 l' (fun _ => undef) ∧ Below w2.heap.size w2 w') ?_ ?_
  · refine seq_part (qa_p3 w2 l2 _ A1 n c1 g0) ?_
    rintro a w3 ⟨l3, rfl, K3, k15, k16, k17, rfl⟩
    refine last_part (qa_loop (w0 := w3) (v1 := .slice A1 n c1) (v2 := .slice A2 n c2) (fv := fv) (n := n) ⟨(K3 0 rfl rfl).trans g0, (K3 1 rfl rfl).trans g1, (K3 2 rfl rfl).trans g2, k15, k16, k17, Below.refl _ _⟩ hn hround) ?_
    rintro a w4 ⟨l4, rfl, hL⟩
    exact NPost.mk ⟨l4, rfl, hL.below⟩
  rintro a w4 ⟨l4, rfl, hb⟩
  refine seq_part (qa_p10 w4 l4 _) ?_
  rintro a w5 ⟨rfl, rfl⟩
  exact wp_ret (ret1 rfl rfl ⟨by simp [lk], hb⟩)
end
/-- EqualFunc of two tables that hold the same strings. -/
theorem eqStrs_any {B B' : Nat} (w : World) (v1 v2 : Value) (rss : List (List (List UInt8))) (vs1 vs2 : List Value) (h1 : RecsS B w v1 rss vs1) (h2 : RecsS B' w v2 rss vs2) :
    Calls Tryz.prog 59 [v1, v2, .func (.func 23) #[] #[]].toArray w fun e w' => e = .returned (.bool true) ∧ Below w.heap.size w w' := by
  obtain ⟨A1, c1, hv1, k1, k2, z1, s1⟩ := ownsRow_form h1.row
  have hn : rss.length ≤ 9223372036854775807 := by simp only [maxLen] at k2; omega
  obtain ⟨A2, c2, hv2, _, _, z2, s2⟩ := ownsRow_form h2.row
  rw [hv1, hv2]
  refine qs_calls w A1 A2 rss.length c1 c2 _ hn ?_
  intro i l w' hi hQ
  have hA1 : ∃ b1, A1 = some ⟨b1, 0, none⟩ := by
    cases hA : A1 with
    | none => have := (z1 hA).1; omega
    | some a => obtain ⟨g, e, _⟩ := s1 a hA; exact ⟨g, by rw [e]⟩
  have hA2 : ∃ b2, A2 = some ⟨b2, 0, none⟩ := by
    cases hA : A2 with
    | none => have := (z2 hA).1; omega
    | some a => obtain ⟨g, e, _⟩ := s2 a hA; exact ⟨g, by rw [e]⟩
  obtain ⟨b1, rfl⟩ := hA1
  obtain ⟨b2, rfl⟩ := hA2
  have hfs : rss[i]? = some (rss[i]) := List.getElem?_eq_getElem hi
  obtain ⟨u1, hu1, q1⟩ := h1.each i _ hfs
  obtain ⟨u2, hu2, q2⟩ := h2.each i _ hfs
  have c1' : w.cell? ⟨b1, i, none⟩ = some u1 := by
    have hr := h1.row
    rw [hv1] at hr
    have := World.ownsRow.cells hr (g := b1) rfl i u1 hu1
    rw [Addr.add_mk] at this
    simpa using this
  have c2' : w.cell? ⟨b2, i, none⟩ = some u2 := by
    have hr := h2.row
    rw [hv2] at hr
    have := World.ownsRow.cells hr (g := b2) rfl i u2 hu2
    rw [Addr.add_mk] at this
    simpa using this
  have l1 : b1 < w.heap.size := by obtain ⟨g, e, _, h⟩ := s1 _ rfl; injection e with e; subst e; exact h
  have l2 : b2 < w.heap.size := by obtain ⟨g, e, _, h⟩ := s2 _ rfl; injection e with e; subst e; exact h
  obtain ⟨B1, d1, f1, _⟩ := q1.form
  obtain ⟨B2, d2, f2, _⟩ := q2.form
  have d1' : w'.cell? ⟨b1, i, none⟩ = some u1 := (hQ.below.cell (p := ⟨b1, i, none⟩) l1).trans c1'
  have d2' : w'.cell? ⟨b2, i, none⟩ = some u2 := (hQ.below.cell (p := ⟨b2, i, none⟩) l2).trans c2'
  have t1 := q1.below hQ.below (fun k hk => (own_lt q1 hk).2)
  have t2 := q2.below hQ.below (fun k hk => (own_lt q2 hk).2)
  refine block_part ?_
  refine seq_part (qs_p5 w' l _ b1 i _ c1 u1 B1 _ d1 hQ.h17 hQ.h15 hi f1 d1') ?_
  rintro a w3 ⟨l3, rfl, K3, k7, k8, rfl⟩
  have hQ3 := hQ.keep (K3.mono (S' := [7, 8, 9]) (by intro k; simp <;> omega)) (Below.refl _ w3)
  refine seq_part (qs_p6 w3 l3 _ b2 i _ c2 u2 B2 _ d2 k7 hQ3.h1 hi f2 d2') ?_
  rintro a w4 ⟨l4, rfl, K4, k9, rfl⟩
  have hQ4 := hQ3.keep (K4.mono (S' := [7, 8, 9]) (by intro k; simp <;> omega)) (Below.refl _ w4)
  refine seq_part (qs_p7 w4 l4 _ u1 u2 (fun w' => Below w4.heap.size w4 w') hQ4.h2 ((K4 8 rfl rfl).trans k8) k9 ((Equal_str w4 u1 u2 _ t1 t2).mono ?_)) ?_
  · rintro e w5 ⟨he, q, rfl⟩
    exact ⟨he, drewN_below w4 q⟩
  rintro a w5 ⟨l5, rfl, K5, hb5⟩
  have hQ5 := hQ4.keep ((VKeeps.far (j := 30) (v := .bool false) rfl K5).mono (fun _ _ => rfl)) (hb5.mono hQ4.below.size)
  exact wp_if_false rfl (by simp [lk]) (wp_skip (NPost.mk ⟨_, rfl, hQ5⟩))
end Go.Proofs.YtfadgnopfjajbaaGreatDoor
namespace Go.Proofs.YtfadgnopfjajbaaGreatDoor
open Go.RowKit
/-- The shapes of an answer's cells. -/
structure AnsForm (cs : List Value) : Prop where
  form : ∃ (A1 A2 A3 : Option Addr) (n1 c1 n2 c2 n3 c3 : Nat) (k s ln cl a b : Int) (p : Bool) (x : Int), cs = [.slice A1 n1 c1, .slice A2 n2 c2, .slice A3 n3 c3, .int .i64 k, .int .i64 s, .int .i64 ln, .int .i64 cl, .int .i64 a, .int .i64 b, .bool p, .int .i64 x]
set_option maxRecDepth 100000 in
theorem qa_p5 (w : World) (l : List (Nat × Value)) (f : Nat → Value) (b i n c : Nat) (A1 A2 A3 : Option Addr) (n1 d1 n2 d2 n3 d3 : Nat) (k s ln cl a0 b0 : Int) (p : Bool) (x : Int) (h17 : lk l f 17 = .int .i64 (i : Int)) (h15 : lk l f 15 = .slice (some ⟨b, 0, none⟩) n c) (hi : i < n)
    (e0 : w.cell? ⟨b, i * 11, none⟩ = some (.slice A1 n1 d1)) (e1 : w.cell? ⟨b, i * 11 + 1, none⟩ = some (.slice A2 n2 d2)) (e2 : w.cell? ⟨b, i * 11 + 2, none⟩ = some (.slice A3 n3 d3)) (e3 : w.cell? ⟨b, i * 11 + 3, none⟩ = some (.int .i64 k)) (e4 : w.cell? ⟨b, i * 11 + 4, none⟩ = some (.int .i64 s)) (e5 : w.cell? ⟨b, i * 11 + 5, none⟩ = some (.int .i64 ln)) (e6 : w.cell? ⟨b, i * 11 + 6, none⟩ = some (.int .i64 cl)) (e7 : w.cell? ⟨b, i * 11 + 7, none⟩ = some (.int .i64 a0)) (e8 : w.cell? ⟨b, i * 11 + 8, none⟩ = some (.int .i64 b0)) (e9 : w.cell? ⟨b, i * 11 + 9, none⟩ = some (.bool p)) (e10 : w.cell? ⟨b, i * 11 + 10, none⟩ = some (.int .i64 x)) :
    qa5.wp Tryz.prog (NPost fun a w' => ∃ l', a = Fr 32 l' f ∧ VKeeps qV [7, 8] l f l' ∧ lk l' f 7 = .int .i64 (i : Int) ∧ lk l' f 8 = .pointer (some ⟨w.heap.size, 0, none⟩) ∧ Below w.heap.size w w' ∧ Blk w' w.heap.size 53 [.slice A1 n1 d1, .slice A2 n2 d2, .slice A3 n3 d3, .int .i64 k, .int .i64 s, .int .i64 ln, .int .i64 cl, .int .i64 a0, .int .i64 b0, .bool p, .int .i64 x]) (Fr 32 l f) w := by
  dsimp only [qa5, qaBody, part, part.sub2', sub1, sub2, Tryz.f35, Option.getD]
  go_wp
  exact NPost.mk ⟨_, rfl, (by repeat first | exact VKeeps.refl _ _ _ _ | refine VKeeps.far (by decide) ?_ | refine VKeeps.set (by decide) ?_), by simp [lk], by simp [lk], (Below.refl _ w).alloc (Nat.le_refl _) _, Blk.new_arr w _ _⟩
set_option maxRecDepth 100000 in
theorem qa_p6 (w : World) (l : List (Nat × Value)) (f : Nat → Value) (b i n c : Nat) (A1 A2 A3 : Option Addr) (n1 d1 n2 d2 n3 d3 : Nat) (k s ln cl a0 b0 : Int) (p : Bool) (x : Int) (h7 : lk l f 7 = .int .i64 (i : Int)) (h1 : lk l f 1 = .slice (some ⟨b, 0, none⟩) n c) (hi : i < n)
    (e0 : w.cell? ⟨b, i * 11, none⟩ = some (.slice A1 n1 d1)) (e1 : w.cell? ⟨b, i * 11 + 1, none⟩ = some (.slice A2 n2 d2)) (e2 : w.cell? ⟨b, i * 11 + 2, none⟩ = some (.slice A3 n3 d3)) (e3 : w.cell? ⟨b, i * 11 + 3, none⟩ = some (.int .i64 k)) (e4 : w.cell? ⟨b, i * 11 + 4, none⟩ = some (.int .i64 s)) (e5 : w.cell? ⟨b, i * 11 + 5, none⟩ = some (.int .i64 ln)) (e6 : w.cell? ⟨b, i * 11 + 6, none⟩ = some (.int .i64 cl)) (e7 : w.cell? ⟨b, i * 11 + 7, none⟩ = some (.int .i64 a0)) (e8 : w.cell? ⟨b, i * 11 + 8, none⟩ = some (.int .i64 b0)) (e9 : w.cell? ⟨b, i * 11 + 9, none⟩ = some (.bool p)) (e10 : w.cell? ⟨b, i * 11 + 10, none⟩ = some (.int .i64 x)) :
    qa6.wp Tryz.prog (NPost fun a w' => ∃ l', a = Fr 32 l' f ∧ VKeeps qV [9] l f l' ∧ lk l' f 9 = .pointer (some ⟨w.heap.size, 0, none⟩) ∧ Below w.heap.size w w' ∧ Blk w' w.heap.size 53 [.slice A1 n1 d1, .slice A2 n2 d2, .slice A3 n3 d3, .int .i64 k, .int .i64 s, .int .i64 ln, .int .i64 cl, .int .i64 a0, .int .i64 b0, .bool p, .int .i64 x]) (Fr 32 l f) w := by
  dsimp only [qa6, qaBody, part, part.sub2', sub1, sub2, Tryz.f35, Option.getD]
  go_wp
  exact NPost.mk ⟨_, rfl, (by repeat first | exact VKeeps.refl _ _ _ _ | refine VKeeps.far (by decide) ?_ | refine VKeeps.set (by decide) ?_), by simp [lk], (Below.refl _ w).alloc (Nat.le_refl _) _, Blk.new_arr w _ _⟩
set_option maxRecDepth 100000 in
theorem qa_p7 (w : World) (l : List (Nat × Value)) (f : Nat → Value) (b8 b9 lb : Nat) (A1 A2 A3 B1 B2 B3 : Option Addr) (n1 d1 n2 d2 n3 d3 m1 g1 m2 g2 m3 g3 : Nat) (k s ln cl a0 b0 : Int) (p : Bool) (x : Int) (R : World → Prop) (h2 : lk l f 2 = .func (.func 36) #[] #[.pointer (some ⟨lb, 0, none⟩)]) (h8 : lk l f 8 = .pointer (some ⟨b8, 0, none⟩)) (h9 : lk l f 9 = .pointer (some ⟨b9, 0, none⟩))
    (hb8 : Blk w b8 53 [.slice A1 n1 d1, .slice A2 n2 d2, .slice A3 n3 d3, .int .i64 k, .int .i64 s, .int .i64 ln, .int .i64 cl, .int .i64 a0, .int .i64 b0, .bool p, .int .i64 x])
    (hb9 : Blk w b9 53 [.slice B1 m1 g1, .slice B2 m2 g2, .slice B3 m3 g3, .int .i64 k, .int .i64 s, .int .i64 ln, .int .i64 cl, .int .i64 a0, .int .i64 b0, .bool p, .int .i64 x])
    (hR : Calls Tryz.prog 36 #[.agg #[.slice A1 n1 d1, .slice A2 n2 d2, .slice A3 n3 d3, .int .i64 k, .int .i64 s, .int .i64 ln, .int .i64 cl, .int .i64 a0, .int .i64 b0, .bool p, .int .i64 x], .agg #[.slice B1 m1 g1, .slice B2 m2 g2, .slice B3 m3 g3, .int .i64 k, .int .i64 s, .int .i64 ln, .int .i64 cl, .int .i64 a0, .int .i64 b0, .bool p, .int .i64 x], .pointer (some ⟨lb, 0, none⟩)] w fun e w' => e = .returned (.bool true) ∧ R w') :
    qa7.wp Tryz.prog (NPost fun a w' => ∃ l', a = Fr 32 ((30, .bool false) :: l') f ∧ VKeeps qV [] l f l' ∧ R w') (Fr 32 l f) w := by
  dsimp only [qa7, qaBody, part, part.sub2', sub1, sub2, Tryz.f35, Option.getD]
  have c8 := hb8.cell
  have c9 := hb9.cell
  clear hb8 hb9
  go_wp
  refine hR.mono ?_
  rintro e w1 ⟨rfl, hr⟩
  dsimp only
  have H := Lib.hid hr
  clear hr hR c8 c9
  go_wp
  exact NPost.mk ⟨_, rfl, (by repeat first | exact VKeeps.refl _ _ _ _ | refine VKeeps.far (by decide) ?_ | refine VKeeps.set (by decide) ?_), H.out⟩
end Go.Proofs.YtfadgnopfjajbaaGreatDoor
namespace Go.Proofs.YtfadgnopfjajbaaGreatDoor
open Go.RowKit
noncomputable def eqBody : Code := (Tryz.f37.body).getD .skip
noncomputable def eq0 : Code := part [false] eqBody
noncomputable def eq1 : Code := part [true, false] eqBody
set_option maxRecDepth 100000 in
theorem eq_eq : eqBody = Code.seq eq0 (.seq eq1 .ret) := by kernel_rfl
set_option maxRecDepth 100000 in
theorem equal_p0 (w : World) (l : List (Nat × Value)) (f : Nat → Value) (A1 A2 A3 B1 B2 B3 : Option Addr) (n1 d1 n2 d2 n3 d3 m1 g1 m2 g2 m3 g3 : Nat) (k s ln cl a0 b0 : Int) (p : Bool) (x : Int)
    (h0 : lk l f 0 = .agg #[.slice A1 n1 d1, .slice A2 n2 d2, .slice A3 n3 d3, .int .i64 k, .int .i64 s, .int .i64 ln, .int .i64 cl, .int .i64 a0, .int .i64 b0, .bool p, .int .i64 x])
    (h1 : lk l f 1 = .agg #[.slice B1 m1 g1, .slice B2 m2 g2, .slice B3 m3 g3, .int .i64 k, .int .i64 s, .int .i64 ln, .int .i64 cl, .int .i64 a0, .int .i64 b0, .bool p, .int .i64 x]) :
    eq0.wp Tryz.prog (NPost fun a w' => ∃ l', a = Fr 65 l' f ∧ VKeeps [0, 1, 2, 3, 4] [3, 4] l f l' ∧ lk l' f 3 = .pointer (some ⟨w.heap.size, 0, none⟩) ∧ lk l' f 4 = .pointer (some ⟨w.heap.size + 1, 0, none⟩) ∧ Below w.heap.size w w' ∧
      Blk w' w.heap.size 53 [.slice A1 n1 d1, .slice A2 n2 d2, .slice A3 n3 d3, .int .i64 k, .int .i64 s, .int .i64 ln, .int .i64 cl, .int .i64 a0, .int .i64 b0, .bool p, .int .i64 x] ∧
      Blk w' (w.heap.size + 1) 53 [.slice B1 m1 g1, .slice B2 m2 g2, .slice B3 m3 g3, .int .i64 k, .int .i64 s, .int .i64 ln, .int .i64 cl, .int .i64 a0, .int .i64 b0, .bool p, .int .i64 x]) (Fr 65 l f) w := by
  dsimp only [eq0, eqBody, part, part.sub2', sub1, sub2, Tryz.f37, Option.getD]
  go_wp
  have hb := (Below.refl w.heap.size w)
  refine NPost.mk ⟨_, rfl, (by repeat first | exact VKeeps.refl _ _ _ _ | refine VKeeps.far (by decide) ?_ | refine VKeeps.set (by decide) ?_), by simp [lk], by simp [lk], ?_, ?_, ?_⟩
  · exact ((Below.refl _ w).alloc (Nat.le_refl _) _).alloc (by simp) _
  · exact (Blk.new_arr w _ _).below ((Below.refl _ _).alloc (Nat.le_refl _) _) (by simp)
  · have h := Blk.new_arr (w.alloc (.cells #[.slice A1 n1 d1, .slice A2 n2 d2, .slice A3 n3 d3, .int .i64 k, .int .i64 s, .int .i64 ln, .int .i64 cl, .int .i64 a0, .int .i64 b0, .bool p, .int .i64 x] 53)) 53 #[.slice B1 m1 g1, .slice B2 m2 g2, .slice B3 m3 g3, .int .i64 k, .int .i64 s, .int .i64 ln, .int .i64 cl, .int .i64 a0, .int .i64 b0, .bool p, .int .i64 x]
    simpa using h
set_option maxRecDepth 100000 in
set_option maxHeartbeats 2000000 in
theorem equal_p1 (w : World) (l : List (Nat × Value)) (f : Nat → Value) (b3 b4 : Nat) (A1 A2 A3 B1 B2 B3 : Option Addr) (n1 d1 n2 d2 n3 d3 m1 g1 m2 g2 m3 g3 : Nat) (k s ln cl a0 b0 : Int) (p : Bool) (x : Int) (h2 : lk l f 2 = .bool true) (h3 : lk l f 3 = .pointer (some ⟨b3, 0, none⟩)) (h4 : lk l f 4 = .pointer (some ⟨b4, 0, none⟩))
    (hb3 : Blk w b3 53 [.slice A1 n1 d1, .slice A2 n2 d2, .slice A3 n3 d3, .int .i64 k, .int .i64 s, .int .i64 ln, .int .i64 cl, .int .i64 a0, .int .i64 b0, .bool p, .int .i64 x])
    (hb4 : Blk w b4 53 [.slice B1 m1 g1, .slice B2 m2 g2, .slice B3 m3 g3, .int .i64 k, .int .i64 s, .int .i64 ln, .int .i64 cl, .int .i64 a0, .int .i64 b0, .bool p, .int .i64 x])
    (hR1 : ∀ w1, Below w.heap.size w w1 → Calls Tryz.prog 23 #[.slice A1 n1 d1, .slice B1 m1 g1] w1 fun e w' => e = .returned (.bool true) ∧ Below w.heap.size w w')
    (hR2 : ∀ w1, Below w.heap.size w w1 → Calls Tryz.prog 23 #[.slice A2 n2 d2, .slice B2 m2 g2] w1 fun e w' => e = .returned (.bool true) ∧ Below w.heap.size w w')
    (hR3 : ∀ w1, Below w.heap.size w w1 → Calls Tryz.prog 59 #[.slice A3 n3 d3, .slice B3 m3 g3, .func (.func 23) #[] #[]] w1 fun e w' => e = .returned (.bool true) ∧ Below w.heap.size w w') :
    eq1.wp Tryz.prog (NPost fun a w' => ∃ l', a = Fr 65 l' f ∧ lk l' f 6 = .bool true ∧ Below w.heap.size w w') (Fr 65 l f) w := by
  dsimp only [eq1, eqBody, part, part.sub2', sub1, sub2, Tryz.f37, Option.getD]
  have H3 := Lib.hid hb3
  have H4 := Lib.hid hb4
  have G1 := Lib.hid (hR1 w (Below.refl _ _))
  have G2 := Lib.hid hR2
  have G3 := Lib.hid hR3
  have c3 := hb3.cell
  have c4 := hb4.cell
  clear hR1 hR2 hR3 hb3 hb4
  go_wp
  refine G1.out.mono ?_
  rintro e w1 ⟨rfl, k1⟩
  clear c3 c4
  have c3 := (H3.out.below k1 H3.out.lt).cell
  have c4 := (H4.out.below k1 H4.out.lt).cell
  have K1 := Lib.hid k1
  clear k1
  dsimp only
  go_wp
  refine (G2.out w1 K1.out).mono ?_
  rintro e w2 ⟨rfl, k2⟩
  clear c3 c4
  have c3 := (H3.out.below k2 H3.out.lt).cell
  have c4 := (H4.out.below k2 H4.out.lt).cell
  have K2 := Lib.hid k2
  clear k2
  dsimp only
  go_wp
  refine (G3.out w2 K2.out).mono ?_
  rintro e w3 ⟨rfl, k3⟩
  clear c3 c4
  have c3 := (H3.out.below k3 H3.out.lt).cell
  have c4 := (H4.out.below k3 H4.out.lt).cell
  have K3 := Lib.hid k3
  clear k3
  dsimp only
  go_wp
  exact NPost.mk ⟨_, rfl, by simp [lk], K3.out⟩
end Go.Proofs.YtfadgnopfjajbaaGreatDoor
namespace Go.Proofs.YtfadgnopfjajbaaGreatDoor
open Go.RowKit
theorem AnsAt.lt {B : Nat} {w : World} {M : Nat → Prop} {cs : List Value} {a : Csv.Ans} (h : AnsAt B w M cs a) {w' : World} (hb : Below w.heap.size w w') : AnsAt B w' M cs a := h.turn (Turns.below hb)
/-- equal of two answers in memory that hold the same. -/
theorem equal_any {B B' : Nat} (w : World) (M M' : Nat → Prop) (cs cs' : List Value) (a : Csv.Ans) (h : AnsAt B w M cs a) (h' : AnsAt B' w M' cs' a) :
    Calls Tryz.prog 37 [.agg cs.toArray, .agg cs'.toArray, .bool true].toArray w fun e w' => e = .returned (.bool true) ∧ Below w.heap.size w w' := by
  obtain ⟨rv, lv, sv, vs, hcs, r1, r2, r3, r4, r5, r6, r7⟩ := h.form
  obtain ⟨rv', lv', sv', vs', hcs', s1, s2, s3, s4, s5, s6, s7⟩ := h'.form
  obtain ⟨A1, d1, e1, _⟩ := r1.form
  obtain ⟨A2, d2, e2, _⟩ := r3.form
  obtain ⟨A3, d3, e3, _⟩ := ownsRow_form r5.row
  obtain ⟨B1, g1, f1, _⟩ := s1.form
  obtain ⟨B2, g2, f2, _⟩ := s3.form
  obtain ⟨B3, g3, f3, _⟩ := ownsRow_form s5.row
  rw [hcs, hcs', e1, e2, e3, f1, f2, f3]
  refine enter 65 Tryz.func37 rfl rfl (by simp) ?_
  show eqBody.wp _ _ _ _
  rw [eq_eq]
  refine seq_part (equal_p0 w _ _ A1 A2 A3 B1 B2 B3 _ d1 _ d2 _ d3 _ g1 _ g2 _ g3 _ _ _ _ _ _ _ _ rfl rfl) ?_
  rintro x w1 ⟨l1, rfl, K1, k3, k4, hb1, b3, b4⟩
  refine seq_part (equal_p1 w1 l1 _ _ _ A1 A2 A3 B1 B2 B3 _ d1 _ d2 _ d3 _ g1 _ g2 _ g3 _ _ _ _ _ _ _ _ ((K1 2 rfl rfl).trans rfl) k3 k4 b3 b4 ?_ ?_ ?_) ?_
  · intro w2 hb2
    have hb := hb1.trans (hb2.mono hb1.size)
    rw [← e1, ← f1]
    refine (Equal_str w2 rv rv' a.record (r1.below hb (fun k hk => (own_lt r1 hk).2)) (s1.below hb (fun k hk => (own_lt s1 hk).2))).mono ?_
    rintro e w3 ⟨he, q, rfl⟩
    exact ⟨he, hb2.trans ((drewN_below w2 q).mono hb2.size)⟩
  · intro w2 hb2
    have hb := hb1.trans (hb2.mono hb1.size)
    rw [← e2, ← f2]
    refine (Equal_str w2 lv lv' a.later (r3.below hb (fun k hk => (own_lt r3 hk).2)) (s3.below hb (fun k hk => (own_lt s3 hk).2))).mono ?_
    rintro e w3 ⟨he, q, rfl⟩
    exact ⟨he, hb2.trans ((drewN_below w2 q).mono hb2.size)⟩
  · intro w2 hb2
    have hb := hb1.trans (hb2.mono hb1.size)
    rw [← e3, ← f3]
    have hO := Only.of_below hb
    have t1 : RecsS B w2 sv a.records vs := r5.only hO (fun k hk e => by have := (own_lt r5.row hk).2; omega) (fun u hu k hk e => by
      obtain ⟨fs, hs⟩ := r5.mem hu
      have := (own_lt hs hk).2; omega)
    have t2 : RecsS B' w2 sv' a.records vs' := s5.only hO (fun k hk e => by have := (own_lt s5.row hk).2; omega) (fun u hu k hk e => by
      obtain ⟨fs, hs⟩ := s5.mem hu
      have := (own_lt hs hk).2; omega)
    refine (eqStrs_any w2 sv sv' a.records vs vs' t1 t2).mono ?_
    rintro e w3 ⟨he, hb3⟩
    exact ⟨he, hb2.trans (hb3.mono hb2.size)⟩
  rintro x w2 ⟨l2, rfl, k6, hb2⟩
  exact wp_ret (ret1 rfl rfl ⟨by rw [k6], hb1.trans (hb2.mono hb1.size)⟩)
noncomputable def s1Body : Code := (Tryz.f36.body).getD .skip
noncomputable def s10 : Code := part [false] s1Body
noncomputable def s11 : Code := part [true, false] s1Body
set_option maxRecDepth 100000 in
theorem s1_eq : s1Body = Code.seq s10 (.seq s11 .ret) := by kernel_rfl
set_option maxRecDepth 100000 in
theorem same1_p0 (w : World) (l : List (Nat × Value)) (f : Nat → Value) (A1 A2 A3 B1 B2 B3 : Option Addr) (n1 d1 n2 d2 n3 d3 m1 g1 m2 g2 m3 g3 : Nat) (k s ln cl a0 b0 : Int) (p : Bool) (x : Int)
    (h0 : lk l f 0 = .agg #[.slice A1 n1 d1, .slice A2 n2 d2, .slice A3 n3 d3, .int .i64 k, .int .i64 s, .int .i64 ln, .int .i64 cl, .int .i64 a0, .int .i64 b0, .bool p, .int .i64 x])
    (h1 : lk l f 1 = .agg #[.slice B1 m1 g1, .slice B2 m2 g2, .slice B3 m3 g3, .int .i64 k, .int .i64 s, .int .i64 ln, .int .i64 cl, .int .i64 a0, .int .i64 b0, .bool p, .int .i64 x]) :
    s10.wp Tryz.prog (NPost fun a w' => ∃ l', a = Fr 10 l' f ∧ VKeeps [0, 1, 2, 3, 4] [3, 4] l f l' ∧ lk l' f 3 = .pointer (some ⟨w.heap.size, 0, none⟩) ∧ lk l' f 4 = .pointer (some ⟨w.heap.size + 1, 0, none⟩) ∧ Below w.heap.size w w' ∧
      Blk w' w.heap.size 53 [.slice A1 n1 d1, .slice A2 n2 d2, .slice A3 n3 d3, .int .i64 k, .int .i64 s, .int .i64 ln, .int .i64 cl, .int .i64 a0, .int .i64 b0, .bool p, .int .i64 x] ∧
      Blk w' (w.heap.size + 1) 53 [.slice B1 m1 g1, .slice B2 m2 g2, .slice B3 m3 g3, .int .i64 k, .int .i64 s, .int .i64 ln, .int .i64 cl, .int .i64 a0, .int .i64 b0, .bool p, .int .i64 x]) (Fr 10 l f) w := by
  dsimp only [s10, s1Body, part, part.sub2', sub1, sub2, Tryz.f36, Option.getD]
  go_wp
  refine NPost.mk ⟨_, rfl, (by repeat first | exact VKeeps.refl _ _ _ _ | refine VKeeps.far (by decide) ?_ | refine VKeeps.set (by decide) ?_), by simp [lk], by simp [lk], ?_, ?_, ?_⟩
  · exact ((Below.refl _ w).alloc (Nat.le_refl _) _).alloc (by simp) _
  · exact (Blk.new_arr w _ _).below ((Below.refl _ _).alloc (Nat.le_refl _) _) (by simp)
  · have h := Blk.new_arr (w.alloc (.cells #[.slice A1 n1 d1, .slice A2 n2 d2, .slice A3 n3 d3, .int .i64 k, .int .i64 s, .int .i64 ln, .int .i64 cl, .int .i64 a0, .int .i64 b0, .bool p, .int .i64 x] 53)) 53 #[.slice B1 m1 g1, .slice B2 m2 g2, .slice B3 m3 g3, .int .i64 k, .int .i64 s, .int .i64 ln, .int .i64 cl, .int .i64 a0, .int .i64 b0, .bool p, .int .i64 x]
    simpa using h
set_option maxRecDepth 100000 in
theorem same1_p1 (w : World) (l : List (Nat × Value)) (f : Nat → Value) (b3 b4 lb : Nat) (A1 A2 A3 B1 B2 B3 : Option Addr) (n1 d1 n2 d2 n3 d3 m1 g1 m2 g2 m3 g3 : Nat) (k s ln cl a0 b0 : Int) (p : Bool) (x : Int) (R : World → Prop) (h2 : lk l f 2 = .pointer (some ⟨lb, 0, none⟩)) (h3 : lk l f 3 = .pointer (some ⟨b3, 0, none⟩)) (h4 : lk l f 4 = .pointer (some ⟨b4, 0, none⟩))
    (hb3 : Blk w b3 53 [.slice A1 n1 d1, .slice A2 n2 d2, .slice A3 n3 d3, .int .i64 k, .int .i64 s, .int .i64 ln, .int .i64 cl, .int .i64 a0, .int .i64 b0, .bool p, .int .i64 x])
    (hb4 : Blk w b4 53 [.slice B1 m1 g1, .slice B2 m2 g2, .slice B3 m3 g3, .int .i64 k, .int .i64 s, .int .i64 ln, .int .i64 cl, .int .i64 a0, .int .i64 b0, .bool p, .int .i64 x])
    (hlb : w.cell? ⟨lb, 0, none⟩ = some (.bool true))
    (hR : Calls Tryz.prog 37 #[.agg #[.slice A1 n1 d1, .slice A2 n2 d2, .slice A3 n3 d3, .int .i64 k, .int .i64 s, .int .i64 ln, .int .i64 cl, .int .i64 a0, .int .i64 b0, .bool p, .int .i64 x], .agg #[.slice B1 m1 g1, .slice B2 m2 g2, .slice B3 m3 g3, .int .i64 k, .int .i64 s, .int .i64 ln, .int .i64 cl, .int .i64 a0, .int .i64 b0, .bool p, .int .i64 x], .bool true] w fun e w' => e = .returned (.bool true) ∧ R w') :
    s11.wp Tryz.prog (NPost fun a w' => ∃ l', a = Fr 10 l' f ∧ lk l' f 5 = .bool true ∧ R w') (Fr 10 l f) w := by
  dsimp only [s11, s1Body, part, part.sub2', sub1, sub2, Tryz.f36, Option.getD]
  have c8 := hb3.cell
  have c9 := hb4.cell
  clear hb3 hb4
  go_wp
  refine hR.mono ?_
  rintro e w1 ⟨rfl, hr⟩
  dsimp only
  have H := Lib.hid hr
  clear hr hR c8 c9
  go_wp
  exact NPost.mk ⟨_, rfl, by simp [lk], H.out⟩
theorem same1_any {B B' : Nat} (w : World) (M M' : Nat → Prop) (cs cs' : List Value) (a : Csv.Ans) (lb : Nat) (h : AnsAt B w M cs a) (h' : AnsAt B' w M' cs' a) (hlb : w.cell? ⟨lb, 0, none⟩ = some (.bool true)) (hlt : lb < w.heap.size) :
    Calls Tryz.prog 36 [.agg cs.toArray, .agg cs'.toArray, .pointer (some ⟨lb, 0, none⟩)].toArray w fun e w' => e = .returned (.bool true) ∧ Below w.heap.size w w' := by
  have heq := fun (w1 : World) (hb : Below w.heap.size w w1) => equal_any w1 M M' cs cs' a (h.lt hb) (h'.lt hb)
  obtain ⟨rv, lv, sv, vs, hcs, r1, r2, r3, r4, r5, r6, r7⟩ := h.form
  obtain ⟨rv', lv', sv', vs', hcs', s1, s2, s3, s4, s5, s6, s7⟩ := h'.form
  obtain ⟨A1, d1, e1, _⟩ := r1.form
  obtain ⟨A2, d2, e2, _⟩ := r3.form
  obtain ⟨A3, d3, e3, _⟩ := ownsRow_form r5.row
  obtain ⟨B1, g1, f1, _⟩ := s1.form
  obtain ⟨B2, g2, f2, _⟩ := s3.form
  obtain ⟨B3, g3, f3, _⟩ := ownsRow_form s5.row
  rw [hcs, hcs', e1, e2, e3, f1, f2, f3] at heq ⊢
  refine enter 10 Tryz.func36 rfl rfl (by simp) ?_
  show s1Body.wp _ _ _ _
  rw [s1_eq]
  refine seq_part (same1_p0 w _ _ A1 A2 A3 B1 B2 B3 _ d1 _ d2 _ d3 _ g1 _ g2 _ g3 _ _ _ _ _ _ _ _ rfl rfl) ?_
  rintro x w1 ⟨l1, rfl, K1, k3, k4, hb1, b3, b4⟩
  refine seq_part (same1_p1 w1 l1 _ _ _ lb A1 A2 A3 B1 B2 B3 _ d1 _ d2 _ d3 _ g1 _ g2 _ g3 _ _ _ _ _ _ _ _ (fun w' => Below w1.heap.size w1 w') ((K1 2 rfl rfl).trans rfl) k3 k4 b3 b4 ((hb1.cell (p := ⟨lb, 0, none⟩) hlt).trans hlb) (heq w1 hb1)) ?_
  rintro x w2 ⟨l2, rfl, k5, hb2⟩
  exact wp_ret (ret1 rfl rfl ⟨by rw [k5], hb1.trans (hb2.mono hb1.size)⟩)
end Go.Proofs.YtfadgnopfjajbaaGreatDoor
