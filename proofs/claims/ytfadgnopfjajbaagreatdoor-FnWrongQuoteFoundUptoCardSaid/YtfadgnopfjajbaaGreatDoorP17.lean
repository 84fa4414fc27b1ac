/- A part of the proof: spec.Encoded: the UTF-8 of a rune. spec.Legal, laws.chosen. laws.chosen, spec.rareSpaces, spec.hasRare, spec.Said, laws.legal. spec.rareSpaces, spec.hasRare: they end and hand back something; what, no proof here asks. Texts of quoted fields, in plain Lean: what the parser makes of them. strings.ReplaceAll of the library's plain layer: quotes doubled, carriage returns left out. The library's string functions at this program; spec.hasRare, spec.Said, laws.legal. spec.hasRare, spec.Said, laws.legal. -/
import Derived.Test.YtfadgnopfjajbaaGreatDoorP16
import Derived.Lib.QuoteBits
import Derived.Lib.ReplaceLaws
import Derived.Lib.Replace
namespace Go.Proofs.YtfadgnopfjajbaaGreatDoor
open Go.RowKit
theorem nat_mask6 (x : Nat) : x &&& 63 = x % 64 := Nat.and_two_pow_sub_one_eq_mod x 6
/-- 'x & 63' on an int32 that is not negative. -/
theorem and63_i32 (x : Nat) (h : x < 2147483648) : bits .and .i32 (x : Int) 63 = ((x % 64 : Nat) : Int) := by
  show IntKind.i32.wrap ((BitVec.ofInt 32 (x : Int) &&& BitVec.ofInt 32 ((63 : Nat) : Int)).toNat : Int) = _
  rw [BitVec.toNat_and, ofInt_u32 x (by omega), ofInt_u32 63 (by omega), nat_mask6]
  exact Lib.wrap_i32_small _ (by omega)
/-- Bytes of a new block as a string. -/
theorem conv_new (w : World) (l : List UInt8) (n c : Nat) (cs : Array Value) (hn : n = l.length) (hc : cs.toList = l.map b8) :
    Sem.run Tryz.prog (convert 63 9 (.slice (some ⟨w.heap.size, 0, none⟩) n c)) (w.alloc (.cells cs 5)) = .ok (.string ⟨l.toArray⟩) (w.alloc (.cells cs 5)) := by
  subst hn
  refine run_convert_bytes_back _ _ _ _ _ _ _ Tryz.underlying63 Tryz.underlying5 Tryz.underlying9 (fun j hj => ?_)
  rw [Addr.add_mk, Nat.zero_add, (Blk.new_arr w 5 cs).cell j, hc, List.getElem?_map, List.getElem?_eq_getElem hj]
  rfl
noncomputable def ecBody : Code := (Tryz.f19.body).getD .skip
noncomputable def ec1 : Code := part [true, false, false, false] ecBody
noncomputable def ec2 : Code := part [true, false, false, true, false, false] ecBody
noncomputable def ec3 : Code := part [true, false, false, true, true, false] ecBody
noncomputable def ec4 : Code := part [true, false, false, true, true, true, false, false] ecBody
noncomputable def ec5 : Code := part [true, false, false, true, true, true, true, false] ecBody
noncomputable def ec6 : Code := part [true, false, false, true, true, true, true, true, false, false] ecBody
noncomputable def ec7 : Code := part [true, true, false] ecBody
noncomputable def ec0 : Code := part [false] ecBody
set_option maxRecDepth 100000 in
theorem ec_eq : ecBody = Code.seq ec0 (.seq (.block 0 (.seq ec1 (.cond (.tmp 3) (.seq ec2 .ret) (.seq ec3 (.cond (.tmp 10) (.seq ec4 .ret) (.seq ec5 (.cond (.tmp 23) (.seq ec6 .ret) .skip))))))) (.seq ec7 .ret)) := by kernel_rfl
set_option maxRecDepth 100000 in
theorem ec_p0 (w : World) (l : List (Nat × Value)) (f : Nat → Value) : ec0.wp Tryz.prog (NPost fun a w' => a = Fr 61 ((2, .string ⟨#[]⟩) :: l) f ∧ w' = w) (Fr 61 l f) w := by
  dsimp only [ec0, ecBody, part, part.sub2', sub1, sub2, Tryz.f19, Option.getD]
  go_wp
  exact NPost.mk ⟨rfl, rfl⟩
set_option maxRecDepth 100000 in
theorem ec_p1 (w : World) (l : List (Nat × Value)) (f : Nat → Value) (c : Nat) (h0 : lk l f 0 = .int .i32 (c : Int)) : ec1.wp Tryz.prog (NPost fun a w' => ∃ l', a = Fr 61 ((3, .bool (decide (c < 128))) :: l') f ∧ lk l' f 0 = .int .i32 (c : Int) ∧ w' = w) (Fr 61 l f) w := by
  dsimp only [ec1, ecBody, part, part.sub2', sub1, sub2, Tryz.f19, Option.getD]
  go_wp
  have e : decide ((c : Int) < 128) = decide (c < 128) := decide_eq_decide.2 (by omega)
  simp only [e]
  exact NPost.mk ⟨_, rfl, by simpa [lk] using h0, rfl⟩
set_option maxRecDepth 100000 in
theorem ec_p3 (w : World) (l : List (Nat × Value)) (f : Nat → Value) (c : Nat) (h0 : lk l f 0 = .int .i32 (c : Int)) : ec3.wp Tryz.prog (NPost fun a w' => ∃ l', a = Fr 61 ((10, .bool (decide (c < 2048))) :: l') f ∧ lk l' f 0 = .int .i32 (c : Int) ∧ w' = w) (Fr 61 l f) w := by
  dsimp only [ec3, ecBody, part, part.sub2', sub1, sub2, Tryz.f19, Option.getD]
  go_wp
  have e : decide ((c : Int) < 2048) = decide (c < 2048) := decide_eq_decide.2 (by omega)
  simp only [e]
  exact NPost.mk ⟨_, rfl, by simpa [lk] using h0, rfl⟩
set_option maxRecDepth 100000 in
theorem ec_p5 (w : World) (l : List (Nat × Value)) (f : Nat → Value) (c : Nat) (h0 : lk l f 0 = .int .i32 (c : Int)) : ec5.wp Tryz.prog (NPost fun a w' => ∃ l', a = Fr 61 ((23, .bool (decide (c < 65536))) :: l') f ∧ lk l' f 0 = .int .i32 (c : Int) ∧ w' = w) (Fr 61 l f) w := by
  dsimp only [ec5, ecBody, part, part.sub2', sub1, sub2, Tryz.f19, Option.getD]
  go_wp
  have e : decide ((c : Int) < 65536) = decide (c < 65536) := decide_eq_decide.2 (by omega)
  simp only [e]
  exact NPost.mk ⟨_, rfl, by simpa [lk] using h0, rfl⟩
set_option maxRecDepth 100000 in
theorem ec_p2 (w : World) (l : List (Nat × Value)) (f : Nat → Value) (c : Nat) (h : c < 128) (h0 : lk l f 0 = .int .i32 (c : Int)) (s : Value) (hs : s = .string ⟨(Csv.enc c).toArray⟩) : ec2.wp Tryz.prog (NPost fun a w' => ∃ l', a = Fr 61 ((2, s) :: l') f ∧ Below w.heap.size w w') (Fr 61 l f) w := by
  dsimp only [ec2, ecBody, part, part.sub2', sub1, sub2, Tryz.f19, Option.getD]
  have hcv := conv_new w (Csv.enc c) 1 1 #[.int .u8 (c : Int)] (by rw [enc_eq, enc1 c h]; rfl) (by rw [enc_eq, enc1 c h]; simp [b8, u8n c (by omega)])
  rw [← hs] at hcv
  clear hs
  go_wp
  exact NPost.mk ⟨_, rfl, (Below.refl _ w).alloc (Nat.le_refl _) _⟩
theorem and63_int (x : Int) (h0 : 0 ≤ x) (h : x < 2147483648) : bits .and .i32 x 63 = x % 64 := by
  obtain ⟨n, rfl⟩ := Int.eq_ofNat_of_zero_le h0
  have := and63_i32 n (by omega)
  rw [this]; omega
set_option maxRecDepth 100000 in
theorem ec_p4 (w : World) (l : List (Nat × Value)) (f : Nat → Value) (c : Nat) (h : 128 ≤ c) (h1 : c < 2048) (h0 : lk l f 0 = .int .i32 (c : Int)) (s : Value) (hs : s = .string ⟨(Csv.enc c).toArray⟩) : ec4.wp Tryz.prog (NPost fun a w' => ∃ l', a = Fr 61 ((2, s) :: l') f ∧ Below w.heap.size w w') (Fr 61 l f) w := by
  dsimp only [ec4, ecBody, part, part.sub2', sub1, sub2, Tryz.f19, Option.getD]
  have hb := and63_int c (by omega) (by omega)
  have hcv := conv_new w (Csv.enc c) 2 2 #[.int .u8 (192 + (c : Int) / 64), .int .u8 (128 + (c : Int) % 64)] (by rw [enc_eq, enc2 c h h1]; rfl) (by rw [enc_eq, enc2 c h h1]; simp [b8]; omega)
  rw [← hs] at hcv
  clear hs
  go_wp
  exact NPost.mk ⟨_, rfl, (Below.refl _ w).alloc (Nat.le_refl _) _⟩
set_option maxRecDepth 100000 in
theorem ec_p6 (w : World) (l : List (Nat × Value)) (f : Nat → Value) (c : Nat) (h : 2048 ≤ c) (h1 : c < 65536) (hsur : c < 55296 ∨ 57344 ≤ c) (h0 : lk l f 0 = .int .i32 (c : Int)) (s : Value) (hs : s = .string ⟨(Csv.enc c).toArray⟩) : ec6.wp Tryz.prog (NPost fun a w' => ∃ l', a = Fr 61 ((2, s) :: l') f ∧ Below w.heap.size w w') (Fr 61 l f) w := by
  dsimp only [ec6, ecBody, part, part.sub2', sub1, sub2, Tryz.f19, Option.getD]
  have hb := and63_int c (by omega) (by omega)
  have hb2 := and63_int ((c : Int) / 64) (by omega) (by omega)
  have hcv := conv_new w (Csv.enc c) 3 3 #[.int .u8 (224 + (c : Int) / 4096), .int .u8 (128 + (c : Int) / 64 % 64), .int .u8 (128 + (c : Int) % 64)] (by rw [enc_eq, enc3 c h h1 (by omega)]; rfl) (by rw [enc_eq, enc3 c h h1 (by omega)]; simp [b8]; omega)
  rw [← hs] at hcv
  clear hs
  go_wp
  exact NPost.mk ⟨_, rfl, (Below.refl _ w).alloc (Nat.le_refl _) _⟩
set_option maxRecDepth 100000 in
theorem ec_p7 (w : World) (l : List (Nat × Value)) (f : Nat → Value) (c : Nat) (h : 65536 ≤ c) (h1 : c ≤ 1114111) (h0 : lk l f 0 = .int .i32 (c : Int)) (s : Value) (hs : s = .string ⟨(Csv.enc c).toArray⟩) : ec7.wp Tryz.prog (NPost fun a w' => ∃ l', a = Fr 61 ((2, s) :: l') f ∧ Below w.heap.size w w') (Fr 61 l f) w := by
  dsimp only [ec7, ecBody, part, part.sub2', sub1, sub2, Tryz.f19, Option.getD]
  have hb := and63_int c (by omega) (by omega)
  have hb2 := and63_int ((c : Int) / 64) (by omega) (by omega)
  have hb3 := and63_int ((c : Int) / 4096) (by omega) (by omega)
  have hcv := conv_new w (Csv.enc c) 4 4 #[.int .u8 (240 + (c : Int) / 262144), .int .u8 (128 + (c : Int) / 4096 % 64), .int .u8 (128 + (c : Int) / 64 % 64), .int .u8 (128 + (c : Int) % 64)] (by rw [enc_eq, enc4 c h (by omega)]; rfl) (by rw [enc_eq, enc4 c h (by omega)]; simp [b8]; omega)
  rw [← hs] at hcv
  clear hs
  go_wp
  exact NPost.mk ⟨_, rfl, (Below.refl _ w).alloc (Nat.le_refl _) _⟩
/-- Encoded of a rune. -/
theorem Encoded_any (w : World) (r : Int) (hv : Utf8.valid r = true) : Calls Tryz.prog 19 [.int .i32 r].toArray w fun e w' => e = .returned (.string ⟨(Csv.enc r).toArray⟩) ∧ Below w.heap.size w w' := by
  unfold Utf8.valid at hv
  simp only [Bool.or_eq_true, Bool.and_eq_true, decide_eq_true_eq] at hv
  obtain ⟨c, rfl⟩ := Int.eq_ofNat_of_zero_le (show 0 ≤ r by omega)
  refine enter 61 Tryz.func19 rfl rfl (by simp) ?_
  show ecBody.wp _ _ _ _
  rw [ec_eq]
  refine seq_part (ec_p0 w _ _) ?_
  rintro x w1 ⟨rfl, rfl⟩
  by_cases h1 : c < 128
  · refine wp_seq (wp_block (seq_part (ec_p1 w1 _ _ c (by simp [lk])) ?_))
    rintro x w2 ⟨l2, rfl, k0, rfl⟩
    refine wp_if_true rfl (by simp [lk, h1]) (seq_part (ec_p2 w2 _ _ c h1 (by rw [lk_ne _ _ _ _ _ rfl, k0]) _ rfl) ?_)
    rintro x w3 ⟨l3, rfl, hb⟩
    refine wp_ret ?_
    simp only [Exit.then, Exit.inBlock]
    exact ret1 rfl rfl ⟨by simp [lk], hb⟩
  by_cases h2 : c < 2048
  · refine wp_seq (wp_block (seq_part (ec_p1 w1 _ _ c (by simp [lk])) ?_))
    rintro x w2 ⟨l2, rfl, k0, rfl⟩
    refine wp_if_false rfl (by simp [lk, h1]) (seq_part (ec_p3 w2 _ _ c (by rw [lk_ne _ _ _ _ _ rfl, k0])) ?_)
    rintro x w3 ⟨l3, rfl, k0, rfl⟩
    refine wp_if_true rfl (by simp [lk, h2]) (seq_part (ec_p4 w3 _ _ c (by omega) h2 (by rw [lk_ne _ _ _ _ _ rfl, k0]) _ rfl) ?_)
    rintro x w3 ⟨l3, rfl, hb⟩
    refine wp_ret ?_
    simp only [Exit.then, Exit.inBlock]
    exact ret1 rfl rfl ⟨by simp [lk], hb⟩
  by_cases h3 : c < 65536
  · refine wp_seq (wp_block (seq_part (ec_p1 w1 _ _ c (by simp [lk])) ?_))
    rintro x w2 ⟨l2, rfl, k0, rfl⟩
    refine wp_if_false rfl (by simp [lk, h1]) (seq_part (ec_p3 w2 _ _ c (by rw [lk_ne _ _ _ _ _ rfl, k0])) ?_)
    rintro x w3 ⟨l3, rfl, k0, rfl⟩
    refine wp_if_false rfl (by simp [lk, h2]) (seq_part (ec_p5 w3 _ _ c (by rw [lk_ne _ _ _ _ _ rfl, k0])) ?_)
    rintro x w4 ⟨l4, rfl, k0, rfl⟩
    refine wp_if_true rfl (by simp [lk, h3]) (seq_part (ec_p6 w4 _ _ c (by omega) h3 (by omega) (by rw [lk_ne _ _ _ _ _ rfl, k0]) _ rfl) ?_)
    rintro x w3 ⟨l3, rfl, hb⟩
    refine wp_ret ?_
    simp only [Exit.then, Exit.inBlock]
    exact ret1 rfl rfl ⟨by simp [lk], hb⟩
  · refine seq_part (R := fun a w' => ∃ l', a = Fr 61 l' (fun _ => undef) ∧ lk l' (fun _ => undef) 0 = .int .i32 (c : Int) ∧ w' = w1) (block_part (seq_part (ec_p1 w1 _ _ c (by simp [lk])) ?_)) ?_
    · rintro x w2 ⟨l2, rfl, k0, rfl⟩
      refine wp_if_false rfl (by simp [lk, h1]) (seq_part (ec_p3 w2 _ _ c (by rw [lk_ne _ _ _ _ _ rfl, k0])) ?_)
      rintro x w3 ⟨l3, rfl, k0, rfl⟩
      refine wp_if_false rfl (by simp [lk, h2]) (seq_part (ec_p5 w3 _ _ c (by rw [lk_ne _ _ _ _ _ rfl, k0])) ?_)
      rintro x w4 ⟨l4, rfl, k0, rfl⟩
      exact wp_if_false rfl (by simp [lk, h3]) (wp_skip (NPost.mk ⟨_, rfl, by rw [lk_ne _ _ _ _ _ rfl, k0], rfl⟩))
    · rintro x w2 ⟨l2, rfl, k0, rfl⟩
      refine seq_part (ec_p7 w2 _ _ c (by omega) (by omega) k0 _ rfl) ?_
      rintro x w3 ⟨l3, rfl, hb⟩
      exact wp_ret (ret1 rfl rfl ⟨by simp [lk], hb⟩)
end Go.Proofs.YtfadgnopfjajbaaGreatDoor
namespace Go.Proofs.YtfadgnopfjajbaaGreatDoor
open Go.RowKit
noncomputable def lgBody : Code := (Tryz.f60.body).getD .skip
noncomputable def lg0 : Code := part [false] lgBody
noncomputable def lg1 : Code := part [true, false] lgBody
set_option maxRecDepth 100000 in
theorem lg_eq : lgBody = Code.seq lg0 (.seq lg1 .ret) := by kernel_rfl
set_option maxRecDepth 100000 in
theorem lg_p0 (w : World) (l : List (Nat × Value)) (f : Nat → Value) : lg0.wp Tryz.prog (NPost fun a w' => a = Fr 33 ((2, .bool false) :: l) f ∧ w' = w) (Fr 33 l f) w := by
  dsimp only [lg0, lgBody, part, part.sub2', sub1, sub2, Tryz.f60, Option.getD]
  go_wp
  exact NPost.mk ⟨rfl, rfl⟩
/-- A delimiter that the reference takes. -/
def LegalR (r : Int) : Prop := Csv.validDelim r = true ∧ Utf8.valid r = true
theorem legalR_of {r : Int} (h1 : 0 < r) (h2 : r ≤ 1114111) (h3 : r < 55296 ∨ 57343 < r) (h4 : r ≠ 13) (h5 : r ≠ 10) (h6 : r ≠ 34) (h7 : r ≠ 65533) : LegalR r := by
  have hv : Utf8.valid r = true := by
    unfold Utf8.valid
    simp only [Bool.or_eq_true, Bool.and_eq_true, decide_eq_true_eq]
    omega
  refine ⟨?_, hv⟩
  unfold Csv.validDelim
  simp only [hv, Bool.and_eq_true, bne_iff_ne, ne_eq, h4, h5, h6, h7, not_false_eq_true, and_true]
  omega
set_option maxRecDepth 100000 in
set_option maxHeartbeats 1000000 in
theorem lg_p1 (w : World) (l : List (Nat × Value)) (f : Nat → Value) (r : Int) (h0 : lk l f 0 = .int .i32 r) : lg1.wp Tryz.prog (NPost fun a w' => ∃ l' b, a = Fr 33 ((2, .bool b) :: l') f ∧ (b = true → LegalR r) ∧ w' = w) (Fr 33 l f) w := by
  dsimp only [lg1, lgBody, part, part.sub2', sub1, sub2, Tryz.f60, Option.getD]
  by_cases h1 : 0 < r
  · by_cases h2 : r ≤ 1114111
    · by_cases h3 : r < 55296
      · by_cases h4 : r = 13
        · subst h4; go_wp <;> exact NPost.mk ⟨_, _, rfl, (fun h => by simp at h), rfl⟩
        · by_cases h5 : r = 10
          · subst h5; go_wp <;> exact NPost.mk ⟨_, _, rfl, (fun h => by simp at h), rfl⟩
          · by_cases h6 : r = 34
            · subst h6; go_wp <;> exact NPost.mk ⟨_, _, rfl, (fun h => by simp at h), rfl⟩
            · have h7 : r ≠ 65533 := by omega
              have hL := Lib.hid (legalR_of h1 h2 (.inl h3) h4 h5 h6 h7)
              go_wp
              exact NPost.mk ⟨_, _, rfl, (fun _ => hL.out), rfl⟩
      · by_cases h3' : 57343 < r
        · have h4 : r ≠ 13 := by omega
          have h5 : r ≠ 10 := by omega
          have h6 : r ≠ 34 := by omega
          by_cases h7 : r = 65533
          · subst h7; go_wp <;> exact NPost.mk ⟨_, _, rfl, (fun h => by simp at h), rfl⟩
          · have hL := Lib.hid (legalR_of h1 h2 (.inr h3') h4 h5 h6 h7)
            go_wp
            exact NPost.mk ⟨_, _, rfl, (fun _ => hL.out), rfl⟩
        · go_wp <;> exact NPost.mk ⟨_, _, rfl, (fun h => by simp at h), rfl⟩
    · go_wp <;> exact NPost.mk ⟨_, _, rfl, (fun h => by simp at h), rfl⟩
  · go_wp <;> exact NPost.mk ⟨_, _, rfl, (fun h => by simp at h), rfl⟩
theorem Legal_any (w : World) (r : Int) : Calls Tryz.prog 60 [.int .i32 r].toArray w fun e w' => ∃ b, e = .returned (.bool b) ∧ (b = true → LegalR r) ∧ w' = w := by
  refine enter 33 Tryz.func60 rfl rfl (by simp) ?_
  show lgBody.wp _ _ _ _
  rw [lg_eq]
  refine seq_part (lg_p0 w _ _) ?_
  rintro x w1 ⟨rfl, rfl⟩
  refine seq_part (lg_p1 w1 _ _ r (by simp [lk])) ?_
  rintro x w2 ⟨l2, b, rfl, hb, rfl⟩
  exact wp_ret (ret1 rfl rfl ⟨b, by simp [lk], hb, rfl⟩)
end Go.Proofs.YtfadgnopfjajbaaGreatDoor
namespace Go.Proofs.YtfadgnopfjajbaaGreatDoor
open Go.RowKit
/-- The options of the reference. -/
def spCells (comma comment expect : Int) (lz tr : Bool) : List Value := [.int .i32 comma, .int .i32 comment, .int .i64 expect, .bool lz, .bool tr]
noncomputable def chBody : Code := (Tryz.f15.body).getD .skip
noncomputable def ch0 : Code := part [false] chBody
noncomputable def ch1 : Code := part [true, false, false] chBody
noncomputable def ch2 : Code := part [true, false, true, false] chBody
noncomputable def ch3 : Code := part [true, true, false] chBody
set_option maxRecDepth 100000 in
theorem ch_eq : chBody = Code.seq ch0 (.seq (.seq ch1 (.cond (.tmp 5) ch2 .skip)) (.seq ch3 .ret)) := by kernel_rfl
set_option maxRecDepth 100000 in
theorem ch_p0 (w : World) (l : List (Nat × Value)) (f : Nat → Value) (comma comment expect : Int) (lz tr re : Bool) (h0 : lk l f 0 = .agg (optCells comma comment expect lz tr re).toArray) :
    ch0.wp Tryz.prog (NPost fun a w' => ∃ l', a = Fr 18 l' f ∧ lk l' f 1 = .pointer (some ⟨w.heap.size, 0, none⟩) ∧ lk l' f 2 = .pointer (some ⟨w.heap.size + 1, 0, none⟩) ∧ Below w.heap.size w w' ∧ Blk w' w.heap.size 26 (optCells comma comment expect lz tr re) ∧ Blk w' (w.heap.size + 1) 42 (spCells 0 0 0 false false)) (Fr 18 l f) w := by
  dsimp only [ch0, chBody, part, part.sub2', sub1, sub2, Tryz.f15, Option.getD]
  dsimp only [optCells] at h0
  go_wp
  refine NPost.mk ⟨_, rfl, by simp [lk], by simp [lk], ((Below.refl _ w).alloc (Nat.le_refl _) _).alloc (by simp) _, (Blk.new_arr w _ _).alloc _, ?_⟩
  have h := Blk.new_arr (w.alloc (.cells (optCells comma comment expect lz tr re).toArray 26)) 42 (spCells 0 0 0 false false).toArray
  simpa [optCells, spCells] using h
set_option maxRecDepth 100000 in
theorem ch_p1 (w : World) (l : List (Nat × Value)) (f : Nat → Value) (ob : Nat) (comma comment expect : Int) (lz tr re : Bool) (h1 : lk l f 1 = .pointer (some ⟨ob, 0, none⟩)) (hob : Blk w ob 26 (optCells comma comment expect lz tr re)) :
    ch1.wp Tryz.prog (NPost fun a w' => ∃ l', a = Fr 18 ((5, .bool (decide (comma = 0))) :: l') f ∧ VKeeps [1, 2] [] l f l' ∧ w' = w) (Fr 18 l f) w := by
  dsimp only [ch1, chBody, part, part.sub2', sub1, sub2, Tryz.f15, Option.getD]
  have hc := hob.cell
  dsimp only [optCells] at hc
  clear hob
  go_wp
  have e : (comma == 0) = decide (comma = 0) := by cases h : decide (comma = 0) <;> simp_all
  simp only [e]
  exact NPost.mk ⟨_, rfl, (by repeat first | exact VKeeps.refl _ _ _ _ | refine VKeeps.far (by decide) ?_ | refine VKeeps.set (by decide) ?_), rfl⟩
set_option maxRecDepth 100000 in
theorem ch_p2 (w : World) (l : List (Nat × Value)) (f : Nat → Value) (ob : Nat) (comma comment expect : Int) (lz tr re : Bool) (h1 : lk l f 1 = .pointer (some ⟨ob, 0, none⟩)) (hob : Blk w ob 26 (optCells comma comment expect lz tr re)) :
    ch2.wp Tryz.prog (NPost fun a w' => ∃ l', a = Fr 18 l' f ∧ VKeeps [1, 2] [] l f l' ∧ Only (fun k => k = ob) w w' ∧ Blk w' ob 26 (optCells 44 comment expect lz tr re)) (Fr 18 l f) w := by
  dsimp only [ch2, chBody, part, part.sub2', sub1, sub2, Tryz.f15, Option.getD]
  have hc := hob.cell
  have hz := hob.frozen
  have H := Lib.hid hob
  dsimp only [optCells] at hc
  clear hob
  go_wp
  exact NPost.mk ⟨_, rfl, (by repeat first | exact VKeeps.refl _ _ _ _ | refine VKeeps.far (by decide) ?_ | refine VKeeps.set (by decide) ?_), (Only.refl (fun k => k = ob) w).setCell (p := ⟨ob, 0, none⟩) (fun _ => rfl) _, H.out.set 0 _⟩
set_option maxRecDepth 100000 in
theorem ch_p3 (w : World) (l : List (Nat × Value)) (f : Nat → Value) (ob sb : Nat) (comma comment expect : Int) (lz tr re : Bool) (h1 : lk l f 1 = .pointer (some ⟨ob, 0, none⟩)) (h2 : lk l f 2 = .pointer (some ⟨sb, 0, none⟩)) (hob : Blk w ob 26 (optCells comma comment expect lz tr re)) (hsb : Blk w sb 42 (spCells 0 0 0 false false)) :
    ch3.wp Tryz.prog (NPost fun a w' => ∃ l', a = Fr 18 l' f ∧ VKeeps [1, 2] [] l f l' ∧ Only (fun k => k = sb) w w' ∧ Blk w' sb 42 (spCells comma comment expect lz tr)) (Fr 18 l f) w := by
  dsimp only [ch3, chBody, part, part.sub2', sub1, sub2, Tryz.f15, Option.getD]
  have hc := hob.cell
  have hs := hsb.cell
  have hz := hsb.frozen
  have H := Lib.hid hsb
  dsimp only [optCells] at hc
  dsimp only [spCells] at hs
  clear hob hsb
  go_wp
  refine NPost.mk ⟨_, rfl, (by repeat first | exact VKeeps.refl _ _ _ _ | refine VKeeps.far (by decide) ?_ | refine VKeeps.set (by decide) ?_), ?_, ((((H.out.set 0 _).set 1 _).set 2 _).set 3 _).set 4 _⟩
  have hO := Only.refl (fun k => k = sb) w
  exact ((((hO.setCell (p := ⟨sb, 0, none⟩) (fun _ => rfl) _).setCell (p := ⟨sb, 1, none⟩) (fun _ => rfl) _).setCell (p := ⟨sb, 2, none⟩) (fun _ => rfl) _).setCell (p := ⟨sb, 3, none⟩) (fun _ => rfl) _).setCell (p := ⟨sb, 4, none⟩) (fun _ => rfl) _
theorem load_spec (w : World) (g : Nat) (comma comment expect : Int) (lz tr : Bool) (h : Blk w g 42 (spCells comma comment expect lz tr)) : (loadVar 42 ⟨g, 0, none⟩).run Tryz.prog w = .ok (.agg (spCells comma comment expect lz tr).toArray) w := by
  have hc := h.cell
  unfold spCells at hc ⊢
  have h0 := hc 0
  have h1 := hc 1
  have h2 := hc 2
  have h3 := hc 3
  have h4 := hc 4
  simp at h0 h1 h2 h3 h4
  go_simp
/-- chosen: the options of the reference. -/
theorem chosen_any (w : World) (comma comment expect : Int) (lz tr re : Bool) : Calls Tryz.prog 15 [.agg (optCells comma comment expect lz tr re).toArray].toArray w fun e w' => e = .returned (.agg (spCells (if comma = 0 then 44 else comma) comment expect lz tr).toArray) ∧ Below w.heap.size w w' := by
  refine enter 18 Tryz.func15 rfl rfl (by simp) ?_
  show chBody.wp _ _ _ _
  rw [ch_eq]
  refine seq_part (ch_p0 w _ _ comma comment expect lz tr re rfl) ?_
  rintro x w1 ⟨l1, rfl, k1, k2, hb1, ho1, hs1⟩
  refine seq_part (R := fun a w' => ∃ l', a = Fr 18 l' (fun _ => undef) ∧ lk l' (fun _ => undef) 1 = .pointer (some ⟨w.heap.size, 0, none⟩) ∧ lk l' (fun _ => undef) 2 = .pointer (some ⟨w.heap.size + 1, 0, none⟩) ∧ Below w.heap.size w w' ∧ Blk w' w.heap.size 26 (optCells (if comma = 0 then 44 else comma) comment expect lz tr re) ∧ Blk w' (w.heap.size + 1) 42 (spCells 0 0 0 false false)) ?_ ?_
  · refine seq_part (ch_p1 w1 l1 _ _ comma comment expect lz tr re k1 ho1) ?_
    rintro x w2 ⟨l2, rfl, K2, rfl⟩
    by_cases hc : comma = 0
    · refine wp_if_true rfl (by simp [lk, hc]) (last_part (ch_p2 w2 _ _ w.heap.size comma comment expect lz tr re (by rw [lk_ne _ _ _ _ _ rfl, K2 1 rfl rfl, k1]) ho1) ?_)
      rintro x w3 ⟨l3, rfl, K3, hO3, ho3⟩
      refine NPost.mk ⟨l3, rfl, ?_, ?_, hb1.trans (hO3.below hb1.size (fun k e => by omega)), by rw [if_pos hc]; exact ho3, hs1.only hO3 (by omega)⟩
      · rw [K3 1 rfl rfl, lk_ne _ _ _ _ _ rfl, K2 1 rfl rfl, k1]
      · rw [K3 2 rfl rfl, lk_ne _ _ _ _ _ rfl, K2 2 rfl rfl, k2]
    · refine wp_if_false rfl (by simp [lk, hc]) (wp_skip (NPost.mk ⟨_, rfl, ?_, ?_, hb1, by rw [if_neg hc]; exact ho1, hs1⟩))
      · rw [lk_ne _ _ _ _ _ rfl, K2 1 rfl rfl, k1]
      · rw [lk_ne _ _ _ _ _ rfl, K2 2 rfl rfl, k2]
  rintro x w2 ⟨l2, rfl, k1, k2, hb2, ho2, hs2⟩
  refine seq_part (ch_p3 w2 l2 _ w.heap.size (w.heap.size + 1) _ comment expect lz tr re k1 k2 ho2 hs2) ?_
  rintro x w3 ⟨l3, rfl, K3, hO3, hs3⟩
  exact wp_ret (retCell rfl rfl ((K3 2 rfl rfl).trans k2) (load_spec w3 _ _ _ _ _ _ hs3) ⟨rfl, hb2.trans (hO3.below hb2.size (fun k e => by omega))⟩)
end Go.Proofs.YtfadgnopfjajbaaGreatDoor
namespace Go.Proofs.YtfadgnopfjajbaaGreatDoor
open Go.RowKit
/-- Runes in memory. -/
def RunesS (B : Nat) (w : World) (v : Value) (zs : List Int) : Prop := w.ownsRow B 21 1 v zs.length (zs.map (Value.int .i32)) ∧ ∀ z ∈ zs, Utf8.valid z = true
theorem info_i32 : (Tryz.prog.info? 21).map (fun i => (i.zero, i.size, i.bytes)) = some (some (.int .i32 0), 1, 4) := by kernel_rfl
set_option maxRecDepth 100000 in
theorem append_i32 (w : World) (B : Nat) (ty : TypeId) (v : Value) (zs : List Int) (hown : RunesS B w v zs) (b : Nat) (z : Int) (hz : Utf8.valid z = true) (hm : w.cell? ⟨b, 0, none⟩ = some (.int .i32 z)) (hlen : zs.length < 1000) (hB : B ≤ w.heap.size) :
    ∃ v' w', (Builtin.append_ #[154, 154] ty #[v, .slice (some ⟨b, 0, none⟩) 1 1]).run Tryz.prog w = .ok v' w' ∧ RunesS B w' v' (zs ++ [z]) ∧ w.grownBy w' v.ownBlock ∧ (v'.ownBlock = v.ownBlock ∨ v'.ownBlock = some w.heap.size) := by
  cases hi : Tryz.prog.info? 21 with
  | none => have := info_i32; rw [hi] at this; cases this
  | some i =>
    have h := info_i32
    rw [hi] at h
    simp only [Option.map_some, Option.some.injEq, Prod.mk.injEq] at h
    obtain ⟨hz0, hs, hb⟩ := h
    obtain ⟨v', w', h1, h2, h3, h4, h5⟩ := run_append_own_at (P := Tryz.prog) w B 154 ty 21 i _ 1 4 Tryz.underlying154 hi hz0 hs hb rfl (by omega) v zs.length (zs.map (Value.int .i32)) hown.1 ⟨b, 0, none⟩ 1 1 [.int .i32 z] (by simp)
      (fun j u hu => by
        rcases j with _ | j
        · simp at hu; subst hu; rw [Addr.add_mk]; exact hm
        · simp at hu)
      (fun u hu => by simp at hu; subst hu; rfl) (by simp only [maxLen]; omega) (by omega) hB
    refine ⟨v', w', h1, ⟨by simpa using h2, fun y hy => ?_⟩, h3, h5⟩
    rcases List.mem_append.1 hy with hy | hy
    · exact hown.2 y hy
    · rw [List.mem_singleton] at hy; subst hy; exact hz
noncomputable def rsBody : Code := (Tryz.f89.body).getD .skip
noncomputable def rs0 : Code := part [false] rsBody
noncomputable def rs1 : Code := part [true, false] rsBody
noncomputable def rs2 : Code := part [true, true, false, false] rsBody
noncomputable def rs3 : Code := part [true, true, false, true, false, false, false, false] rsBody
noncomputable def rs5 : Code := part [true, true, false, true, false, false, true, false, false] rsBody
noncomputable def rs4 : Code := part [true, true, false, true, false, false, true, true] rsBody
noncomputable def rs6 : Code := part [true, true, true, false] rsBody
set_option maxRecDepth 100000 in
theorem rs_eq : rsBody = Code.seq rs0 (.seq rs1 (.seq (.seq rs2 (.block 0 (.loop (.seq (.seq rs3 (.cond (.tmp 5) .skip (.exit 0))) (.seq (.block 1 rs5) rs4))))) (.seq rs6 .ret))) := by kernel_rfl
set_option maxRecDepth 100000 in
theorem rs_p0 (w : World) (l : List (Nat × Value)) (f : Nat → Value) : rs0.wp Tryz.prog (NPost fun a w' => a = Fr 13 ((0, .slice none 0 0) :: l) f ∧ w' = w) (Fr 13 l f) w := by
  dsimp only [rs0, rsBody, part, part.sub2', sub1, sub2, Tryz.f89, Option.getD]
  go_wp
  exact NPost.mk ⟨rfl, rfl⟩
set_option maxRecDepth 100000 in
theorem rs_p1 (w : World) (l : List (Nat × Value)) (f : Nat → Value) : rs1.wp Tryz.prog (NPost fun a w' => ∃ l' v zs, a = Fr 13 ((1, v) :: l') f ∧ Below w.heap.size w w' ∧ RunesS w.heap.size w' v zs ∧ zs.length = 10) (Fr 13 l f) w := by
  dsimp only [rs1, rsBody, part, part.sub2', sub1, sub2, Tryz.f89, Option.getD]
  go_wp
  refine NPost.mk ⟨_, _, [11, 12, 133, 160, 5760, 8232, 8233, 8239, 8287, 12288], rfl, (Below.refl _ w).alloc (Nat.le_refl _) _, ⟨⟨rfl, .inr ⟨w.heap.size, 10, _, rfl, Nat.le_refl _, heap_alloc_new w _, Nat.le_refl _, by decide, rfl, rfl⟩⟩, by decide⟩, rfl⟩
set_option maxRecDepth 100000 in
theorem rs_p2 (w : World) (l : List (Nat × Value)) (f : Nat → Value) : rs2.wp Tryz.prog (NPost fun a w' => a = Fr 13 ((2, .int .i32 8192) :: l) f ∧ w' = w) (Fr 13 l f) w := by
  dsimp only [rs2, rsBody, part, part.sub2', sub1, sub2, Tryz.f89, Option.getD]
  go_wp
  exact NPost.mk ⟨rfl, rfl⟩
set_option maxRecDepth 100000 in
theorem rs_p3 (w : World) (l : List (Nat × Value)) (f : Nat → Value) (r : Int) (h2 : lk l f 2 = .int .i32 r) : rs3.wp Tryz.prog (NPost fun a w' => ∃ l', a = Fr 13 ((5, .bool (decide (r ≤ 8202))) :: l') f ∧ VKeeps [1, 2] [] l f l' ∧ w' = w) (Fr 13 l f) w := by
  dsimp only [rs3, rsBody, part, part.sub2', sub1, sub2, Tryz.f89, Option.getD]
  go_wp
  exact NPost.mk ⟨_, rfl, (by repeat first | exact VKeeps.refl _ _ _ _ | refine VKeeps.far (by decide) ?_ | refine VKeeps.set (by decide) ?_), rfl⟩
set_option maxRecDepth 100000 in
theorem rs_p4 (w : World) (l : List (Nat × Value)) (f : Nat → Value) (r : Int) (h2 : lk l f 2 = .int .i32 r) (hr0 : 0 ≤ r) (hr : r < 10000) : rs4.wp Tryz.prog (NPost fun a w' => ∃ l', a = Fr 13 ((2, .int .i32 (r + 1)) :: l') f ∧ VKeeps [1, 2] [] l f l' ∧ w' = w) (Fr 13 l f) w := by
  dsimp only [rs4, rsBody, part, part.sub2', sub1, sub2, Tryz.f89, Option.getD]
  go_wp
  exact NPost.mk ⟨_, rfl, (by repeat first | exact VKeeps.refl _ _ _ _ | refine VKeeps.far (by decide) ?_ | refine VKeeps.set (by decide) ?_), rfl⟩
set_option maxRecDepth 100000 in
theorem rs_p5 (B : Nat) (w : World) (l : List (Nat × Value)) (f : Nat → Value) (r : Int) (v : Value) (zs : List Int) (h1 : lk l f 1 = v) (h2 : lk l f 2 = .int .i32 r) (hr : Utf8.valid r = true) (hv : RunesS B w v zs) (hlen : zs.length < 1000) (hB : B ≤ w.heap.size) :
    rs5.wp Tryz.prog (NPost fun a w' => ∃ l' v', a = Fr 13 ((1, v') :: l') f ∧ VKeeps [1, 2] [] l f l' ∧ Below B w w' ∧ RunesS B w' v' (zs ++ [r])) (Fr 13 l f) w := by
  dsimp only [rs5, rsBody, part, part.sub2', sub1, sub2, Tryz.f89, Option.getD]
  have hb1 : Below w.heap.size w (w.alloc (.cells #[.int .i32 r] 21)) := (Below.refl _ w).alloc (Nat.le_refl _) _
  have hv1 : RunesS B (w.alloc (.cells #[.int .i32 r] 21)) v zs := ⟨ownsRow_only hv.1 (Only.of_below hb1) (fun q hq s => by have := (own_lt hv.1 hq).2; omega), hv.2⟩
  obtain ⟨v', w', hrun, g1, g2, g3⟩ := append_i32 _ B 154 v zs hv1 w.heap.size r hr ((Blk.new_arr w 21 #[.int .i32 r]).cell 0) hlen (Nat.le_trans hB hb1.size)
  have hfin : Below B w w' := by
    have := ((Only.refl (fun q => v.ownBlock = some q) w).alloc (.cells #[.int .i32 r] 21)).grown g2 (fun q hq _ => hq)
    exact this.below hB (fun k hk => (own_lt hv.1 hk).1)
  have HF := Lib.hid (And.intro g1 hfin)
  clear g1 g2 g3 hb1 hv1 hv hfin
  refine region_split 3 ?_
  simp only [List.take_succ_cons, List.take_zero, List.drop_succ_cons, List.drop_zero]
  go_wp
  refine Stop.mk (wl_append _ _ _ rfl rfl (by rw [Fr_eval _ _ _ _ rfl]; simp only [lk]; rfl) (by rw [Fr_eval _ _ _ _ rfl]; simp only [lk]; rfl) hrun ?_)
  rw [Fr_put]
  clear hrun
  go_wp
  exact NPost.mk ⟨_, v', rfl, (by repeat first | exact VKeeps.refl _ _ _ _ | refine VKeeps.far (by decide) ?_ | refine VKeeps.set (by decide) ?_), HF.out.2, HF.out.1⟩
set_option maxRecDepth 100000 in
theorem rs_p6 (w : World) (l : List (Nat × Value)) (f : Nat → Value) (v : Value) (h1 : lk l f 1 = v) : rs6.wp Tryz.prog (NPost fun a w' => ∃ l', a = Fr 13 ((0, v) :: l') f ∧ w' = w) (Fr 13 l f) w := by
  dsimp only [rs6, rsBody, part, part.sub2', sub1, sub2, Tryz.f89, Option.getD]
  go_wp
  exact NPost.mk ⟨_, rfl, rfl⟩
theorem valid_range {r : Int} (h1 : 8192 ≤ r) (h2 : r ≤ 8202) : Utf8.valid r = true := by
  unfold Utf8.valid
  simp only [Bool.or_eq_true, Bool.and_eq_true, decide_eq_true_eq]
  omega
/-- rareSpaces: at most 21 runes. -/
theorem rareSpaces_any (w : World) : Calls Tryz.prog 89 #[] w fun e w' => ∃ v zs, e = .returned v ∧ Below w.heap.size w w' ∧ RunesS w.heap.size w' v zs ∧ zs.length ≤ 21 := by
  refine enter (args := []) 13 Tryz.func89 rfl rfl (by simp) ?_
  show rsBody.wp _ _ _ _
  rw [rs_eq]
  refine seq_part (rs_p0 w _ _) ?_
  rintro x w1 ⟨rfl, rfl⟩
  refine seq_part (rs_p1 w1 _ _) ?_
  rintro x w2 ⟨l2, v2, zs2, rfl, hb2, hr2, hz2⟩
  refine seq_part (R := fun a w' => ∃ l' v zs, a = Fr 13 l' (fun _ => undef) ∧ lk l' (fun _ => undef) 1 = v ∧ Below w1.heap.size w1 w' ∧ RunesS w1.heap.size w' v zs ∧ zs.length ≤ 21) ?_ ?_
  · refine seq_part (rs_p2 w2 _ _) ?_
    rintro x w3 ⟨rfl, rfl⟩
    refine wp_block ?_
    refine wp_loop_n (fun k a w' => ∃ l' v zs, a = Fr 13 l' (fun _ => undef) ∧ lk l' (fun _ => undef) 1 = v ∧ lk l' (fun _ => undef) 2 = .int .i32 (8203 - (k : Int)) ∧ k ≤ 11 ∧ Below w1.heap.size w1 w' ∧ RunesS w1.heap.size w' v zs ∧ zs.length + k ≤ 21) 11 ⟨_, v2, zs2, rfl, by simp [lk], by simp [lk], Nat.le_refl _, hb2, hr2, by omega⟩ ?_
    rintro k a w4 ⟨l4, v4, zs4, rfl, k1, k2, hk, hb4, hr4, hz4⟩
    refine wp_seq_mid (fun a w' => ∃ l', a = Fr 13 l' (fun _ => undef) ∧ lk l' (fun _ => undef) 1 = v4 ∧ lk l' (fun _ => undef) 2 = .int .i32 (8203 - (k : Int)) ∧ 0 < k ∧ w' = w4) (seq_part (rs_p3 w4 l4 _ _ k2) ?_) ?_
    · rintro x w5 ⟨l5, rfl, K5, rfl⟩
      rcases Nat.eq_zero_or_pos k with h0 | h0
      · refine wp_if_false rfl (by subst h0; simp [lk]) (wp_exit ?_)
        simp only [Exit.then, Exit.inBlock, if_true]
        exact NPost.mk ⟨_, v4, zs4, rfl, by rw [lk_ne _ _ _ _ _ rfl, K5 1 rfl rfl, k1], hb4, hr4, by omega⟩
      · have hle : (8203 - (k : Int) ≤ 8202) := by omega
        refine wp_if_true rfl (by simp [lk, hle]) (wp_skip ?_)
        simp only [Exit.then]
        exact ⟨_, rfl, by rw [lk_ne _ _ _ _ _ rfl, K5 1 rfl rfl, k1], by rw [lk_ne _ _ _ _ _ rfl, K5 2 rfl rfl, k2], h0, trivial⟩
    · rintro x w5 ⟨l5, rfl, k1, k2, h0, rfl⟩
      refine seq_part (block_part (rs_p5 w1.heap.size w5 l5 _ _ v4 zs4 k1 k2 (valid_range (by omega) (by omega)) hr4 (by omega) hb4.size)) ?_
      rintro x w6 ⟨l6, v6, rfl, K6, hb6, hr6⟩
      refine last_part (rs_p4 w6 _ _ (8203 - (k : Int)) (by rw [lk_ne _ _ _ _ _ rfl, K6 2 rfl rfl, k2]) (by omega) (by omega)) ?_
      rintro x w7 ⟨l7, rfl, K7, rfl⟩
      refine ⟨k - 1, by omega, _, v6, zs4 ++ [8203 - (k : Int)], rfl, ?_, ?_, by omega, hb4.trans hb6, hr6, by simp; omega⟩
      · rw [lk_ne _ _ _ _ _ rfl, K7 1 rfl rfl]; simp [lk]
      · simp only [lk, if_true]; congr 1; omega
  rintro x w3 ⟨l3, v3, zs3, rfl, k1, hb3, hr3, hz3⟩
  refine seq_part (rs_p6 w3 l3 _ v3 k1) ?_
  rintro x w4 ⟨l4, rfl, rfl⟩
  exact wp_ret (ret1 rfl rfl ⟨v3, zs3, by simp [lk], hb3, hr3, hz3⟩)
end Go.Proofs.YtfadgnopfjajbaaGreatDoor
namespace Go.Proofs.YtfadgnopfjajbaaGreatDoor
open Csv

/-- Each quote doubled. -/
def dbl : Bytes → Bytes
  | [] => []
  | b :: t => if b = QU then QU :: QU :: dbl t else b :: dbl t
/-- A carriage return ahead of a newline is left out. -/
def unixL : Bytes → Bytes
  | [] => []
  | b :: t => if b = CR ∧ t.head? = some NL then unixL t else b :: unixL t
def quoteL (s : Bytes) : Bytes := QU :: (dbl s ++ [QU])
/-- A row: fields, delimiters, the end of its line. -/
def rowL (c e : Bytes) : List Bytes → Bytes
  | [] => e
  | s :: t => quoteL s ++ ((match t with | [] => [] | _ => c) ++ rowL c e t)
def tableL (c e : Bytes) (rows : List (List Bytes)) : Bytes := (rows.map (rowL c e)).flatten

theorem ndv : ¬ NL = QU ∧ ¬ QU = NL ∧ ¬ QU = CR ∧ ¬ NL = CR ∧ ¬ CR = NL ∧ ¬ CR = QU := by decide
theorem dbl_app (x y : Bytes) : dbl (x ++ y) = dbl x ++ dbl y := by
  induction x with
  | nil => rfl
  | cons b t ih => simp only [List.cons_append, dbl]; split <;> simp [ih]
theorem dbl_none {x : Bytes} (h : QU ∉ x) : dbl x = x := by
  induction x with
  | nil => rfl
  | cons b t ih =>
    rw [List.mem_cons, not_or] at h
    simp only [dbl]
    rw [if_neg (fun e => h.1 e.symm), ih h.2]
theorem unixL_app {x t : Bytes} (h : NL ∉ x) (hl : t.head? = some NL → x.getLast? ≠ some CR) : unixL (x ++ t) = x ++ unixL t := by
  induction x with
  | nil => rfl
  | cons b y ih =>
    rw [List.mem_cons, not_or] at h
    simp only [List.cons_append, unixL]
    rw [if_neg, ih h.2]
    · intro ht e
      refine hl ht ?_
      cases y with
      | nil => simp at e
      | cons => simp [List.getLast?_cons_cons, e]
    · rintro ⟨rfl, e⟩
      cases y with
      | nil => exact hl e rfl
      | cons d y => simp at e; exact h.2 (by simp [e])
theorem rawLine_app {x : Bytes} (h : NL ∉ x) (t : Bytes) : rawLine (x ++ t) = (x ++ (rawLine t).1, (rawLine t).2) := by
  induction x with
  | nil => rfl
  | cons b y ih =>
    rw [List.mem_cons, not_or] at h
    simp only [List.cons_append, rawLine]
    rw [if_neg (fun e => h.1 e.symm), ih h.2]
theorem normLine_app {x r : Bytes} (h : NL ∉ x) (hl : x.getLast? ≠ some CR) : normLine (x ++ r) = x ++ normLine r := by
  rcases List.eq_nil_or_concat r with rfl | ⟨r, b, rfl⟩
  · rw [List.append_nil]
    have e : normLine [] = [] := rfl
    rw [e, List.append_nil]
    unfold normLine
    rw [if_neg, if_neg hl]
    intro e
    exact h (List.mem_of_getLast? e)
  · unfold normLine
    rw [List.concat_eq_append, ← List.append_assoc, List.getLast?_concat, List.getLast?_concat, List.dropLast_concat, List.dropLast_concat]
    by_cases hb : b = NL
    · subst hb
      simp only [if_true]
      rcases List.eq_nil_or_concat r with rfl | ⟨r, d, rfl⟩
      · rw [List.append_nil, if_neg hl, if_neg (by simp)]; rfl
      · rw [List.concat_eq_append, ← List.append_assoc, List.getLast?_concat, List.getLast?_concat, List.dropLast_concat, List.dropLast_concat]
        split <;> simp
    · have hb' : ¬ some b = some NL := by simpa using hb
      rw [if_neg hb', if_neg hb']
      split <;> simp
theorem indexByte_at {b : UInt8} {l : Bytes} (h : b ∉ l) (t : Bytes) : indexByte b (l ++ b :: t) = some l.length := by
  induction l with
  | nil => simp [indexByte]
  | cons c u ih =>
    rw [List.mem_cons, not_or] at h
    simp only [List.cons_append, indexByte]
    rw [if_neg (fun e => h.1 e.symm), ih h.2]; rfl
theorem cut_at (s : Bytes) : (NL ∉ s ∧ QU ∉ s) ∨ ∃ x b t, s = x ++ b :: t ∧ NL ∉ x ∧ QU ∉ x ∧ (b = NL ∨ b = QU) := by
  induction s with
  | nil => exact .inl ⟨by simp, by simp⟩
  | cons c s ih =>
    by_cases h1 : c = NL
    · exact .inr ⟨[], c, s, rfl, by simp, by simp, .inl h1⟩
    by_cases h2 : c = QU
    · exact .inr ⟨[], c, s, rfl, by simp, by simp, .inr h2⟩
    rcases ih with ⟨a, b⟩ | ⟨x, b, t, rfl, a, d, e⟩
    · exact .inl ⟨by simp only [List.mem_cons, not_or]; exact ⟨fun e => h1 e.symm, a⟩, by simp only [List.mem_cons, not_or]; exact ⟨fun e => h2 e.symm, b⟩⟩
    · exact .inr ⟨c :: x, b, t, rfl, by simp only [List.mem_cons, not_or]; exact ⟨fun e => h1 e.symm, a⟩, by simp only [List.mem_cons, not_or]; exact ⟨fun e => h2 e.symm, d⟩, e⟩
/-- What the reader hands on of a line is the line, its carriage return left out. -/
theorem normLine_unix {x : Bytes} (h : NL ∉ x) (t : Bytes) : unixL (x ++ NL :: t) = normLine (x ++ [NL]) ++ unixL t := by
  have hn : unixL (NL :: t) = NL :: unixL t := by rw [unixL, if_neg (fun e => absurd e.1 (by decide))]
  rcases List.eq_nil_or_concat x with rfl | ⟨y, d, rfl⟩
  · rw [List.nil_append, hn]; rfl
  · rw [List.concat_eq_append] at h ⊢
    have hy : NL ∉ y := fun e => h (by simp [e])
    by_cases hd : d = CR
    · subst hd
      rw [List.append_assoc, unixL_app (t := [CR] ++ NL :: t) hy (fun e => absurd (Option.some.inj (show some CR = some NL from e)) (by decide))]
      have : unixL ([CR] ++ NL :: t) = NL :: unixL t := by
        show (if CR = CR ∧ (NL :: t).head? = some NL then unixL (NL :: t) else CR :: unixL (NL :: t)) = _
        rw [if_pos ⟨rfl, rfl⟩, hn]
      rw [this]
      unfold normLine
      rw [List.getLast?_concat, if_pos rfl, List.dropLast_concat, List.getLast?_concat, if_pos rfl, List.dropLast_concat]
      simp
    · rw [unixL_app h (by simpa using hd), hn, normLine_app h (by simpa using hd)]
      rw [List.append_assoc (y ++ [d])]; rfl
theorem indexByte_not {b : UInt8} {l : Bytes} (h : b ∉ l) : indexByte b l = none := indexByte_none.2 h
theorem normLine_noQ {l : Bytes} (h : QU ∉ l) : QU ∉ normLine l := by
  have hd : ∀ {m : Bytes}, QU ∉ m → QU ∉ m.dropLast := fun hm e => hm (List.dropLast_subset _ e)
  unfold normLine
  split
  · split
    · intro e
      rcases List.mem_append.1 e with e | e
      · exact hd (hd h) e
      · simp only [List.mem_singleton] at e; exact absurd e (by decide)
    · exact h
  · split
    · exact hd h
    · exact h
end Go.Proofs.YtfadgnopfjajbaaGreatDoor
namespace Go.Proofs.YtfadgnopfjajbaaGreatDoor
open Csv Go.Lib
section
variable {old new : Bytes}
theorem rep_eq (hne : old ≠ new) (s : Bytes) : replaceAll s old new = replaceK old new (count s old) s := by
  unfold replaceAll replace replaceNum
  rw [if_neg (by simpa using hne), if_pos (.inl (by decide))]
theorem rep_miss (hne : old ≠ new) {s : Bytes} (h : index s old = -1) : replaceAll s old new = s := by
  rw [rep_eq hne, count_miss h]; rfl
theorem rep_at (hne : old ≠ new) (h0 : 1 ≤ old.length) {s : Bytes} {i : Nat} (h : index s old = i) : replaceAll s old new = s.take i ++ new ++ replaceAll (s.drop (i + old.length)) old new := by
  rw [rep_eq hne, rep_eq hne, count_hit (List.length_pos_iff.1 h0) h, Nat.add_comm 1, replaceK_hit old new _ s i h]
theorem rep_hit (hne : old ≠ new) (h0 : 1 ≤ old.length) (t : Bytes) : replaceAll (old ++ t) old new = new ++ replaceAll t old new := by
  have hi : index (old ++ t) old = ((0 : Nat) : Int) := by
    cases old with
    | nil => simp at h0
    | cons b o =>
      show index (b :: (o ++ t)) (b :: o) = _
      unfold index
      rw [if_pos (by rw [List.isPrefixOf_iff_prefix]; exact List.prefix_append (b :: o) t)]
      rfl
  rw [rep_at hne h0 hi]
  simp
theorem rep_skip (hne : old ≠ new) (h0 : 1 ≤ old.length) {b : UInt8} {t : Bytes} (h : old.isPrefixOf (b :: t) = false) : replaceAll (b :: t) old new = b :: replaceAll t old new := by
  have hi : index (b :: t) old = if index t old == -1 then -1 else index t old + 1 := by
    show (if old.isPrefixOf (b :: t) = true then 0 else _) = _
    rw [if_neg (by rw [h]; simp)]
  by_cases hm : index t old = -1
  · rw [rep_miss hne hm, rep_miss hne (by rw [hi, hm]; rfl)]
  · have hge := index_ge t old
    obtain ⟨i, hii⟩ : ∃ i : Nat, index t old = i := ⟨(index t old).toNat, by omega⟩
    have hi1 : index (b :: t) old = ((i + 1 : Nat) : Int) := by
      rw [hi, if_neg (by simpa using hm), hii]; rfl
    rw [rep_at hne h0 hi1, rep_at hne h0 hii]
    simp [Nat.add_right_comm]
theorem rep_nil (hne : old ≠ new) (h0 : 1 ≤ old.length) : replaceAll [] old new = [] := rep_miss hne (by
  cases old with
  | nil => simp at h0
  | cons b o => rfl)
end
theorem rep_dbl (s : Bytes) : replaceAll s [34] [34, 34] = dbl s := by
  induction s with
  | nil => exact rep_nil (by decide) (by decide)
  | cons b t ih =>
    by_cases hb : b = QU
    · subst hb
      have := rep_hit (old := [34]) (new := [34, 34]) (by decide) (by decide) t
      rw [show (QU :: t) = [34] ++ t from rfl, this, ih]
      show _ = (if QU = QU then QU :: QU :: dbl t else _)
      rw [if_pos rfl]; rfl
    · rw [rep_skip (by decide) (by decide) (by simp [List.isPrefixOf]; exact fun e => hb e.symm), ih]
      show _ = (if b = QU then _ else b :: dbl t)
      rw [if_neg hb]
theorem rep_unix : ∀ (n : Nat) (s : Bytes), s.length ≤ n → replaceAll s [13, 10] [10] = unixL s := by
  intro n
  induction n with
  | zero =>
    intro s hs
    obtain rfl : s = [] := by cases s; rfl; simp at hs
    exact rep_nil (by decide) (by decide)
  | succ n ih =>
    intro s hs
    cases s with
    | nil => exact rep_nil (by decide) (by decide)
    | cons b t =>
      by_cases h : b = CR ∧ t.head? = some NL
      · obtain ⟨rfl, ht⟩ := h
        cases t with
        | nil => cases ht
        | cons d t =>
          simp at ht
          subst ht
          have := rep_hit (old := [13, 10]) (new := [10]) (by decide) (by decide) t
          rw [show (CR :: NL :: t) = [13, 10] ++ t from rfl, this, ih t (by simp at hs; omega)]
          show _ = (if CR = CR ∧ (NL :: t).head? = some NL then unixL (NL :: t) else _)
          rw [if_pos ⟨rfl, rfl⟩]
          show _ = (if NL = CR ∧ t.head? = some NL then unixL t else NL :: unixL t)
          rw [if_neg (fun e => absurd e.1 (by decide))]; rfl
      · have hp : [13, 10].isPrefixOf (b :: t) = false := by
          cases t with
          | nil => simp [List.isPrefixOf]
          | cons d t =>
            simp only [List.isPrefixOf, Bool.and_true, Bool.and_eq_false_iff, beq_eq_false_iff_ne, ne_eq]
            simp only [List.head?_cons, Option.some.injEq, not_and] at h
            by_cases hb : b = 13
            · exact .inr (fun e => h hb e.symm)
            · exact .inl (fun e => hb e.symm)
        rw [rep_skip (by decide) (by decide) hp, ih t (by simp at hs; omega)]
        show _ = (if b = CR ∧ t.head? = some NL then unixL t else b :: unixL t)
        rw [if_neg h]
theorem replace_unix (s : Bytes) : replaceAll s [13, 10] [10] = unixL s := rep_unix s.length s (Nat.le_refl _)
end Go.Proofs.YtfadgnopfjajbaaGreatDoor
namespace Go.Proofs
open Go.Shelf
theorem Tryz.extraReplace : Builder.Extra Tryz.prog Tryz.laysReplaceAll_ren := {
  sizeBuilder := by kernel_rfl
  liesBuilder := by kernel_rfl
  t5 := Tryz.underlying5
  a5 := Tryz.isAgg5
  z5 := Tryz.sizeOf5
  v5 := Tryz.zeroValue5
  infoByte := by kernel_rfl
  cellsByte := by kernel_rfl
  sizeByte := by kernel_rfl
  neB5 := by decide }
end Go.Proofs
namespace Go.Proofs.YtfadgnopfjajbaaGreatDoor
open Go.RowKit
/-- internal/bytealg.MaxLen holds some int. -/
def MaxAt (w : World) : Prop := ∃ m, w.cell? ⟨4, 0, none⟩ = some (.int .i64 m) ∧ 4 < w.heap.size
theorem MaxAt.next {w w' : World} (h : MaxAt w) (hb : Below w.heap.size w w') : MaxAt w' := by
  obtain ⟨m, h1, h2⟩ := h
  exact ⟨m, (hb.cell (p := ⟨4, 0, none⟩) h2).trans h1, Nat.lt_of_lt_of_le h2 hb.size⟩
theorem Laid.maxAt {w : World} {G : Glob} {m : Int} (h : Laid w G m) : MaxAt w := ⟨m, h.max, h.maxB⟩
theorem Contains_any (w : World) (s sub : ByteArray) (h : MaxAt w) (hs : s.size < 4294967281) : Calls Tryz.prog 11 #[.string s, .string sub] w fun e w' => e = .returned (.bool (Lib.contains s.data.toList sub.data.toList)) ∧ w' = w := by
  obtain ⟨m, hm, _⟩ := h
  exact Any.strings_Contains Tryz.laysContains s sub m w hs hm
theorem HasSuffix_any (w : World) (s p : ByteArray) (hs : s.size < 4294967281) : Calls Tryz.prog 61 #[.string s, .string p] w fun e w' => e = .returned (.bool (Lib.hasSuffix s.data.toList p.data.toList)) ∧ w' = w :=
  Any.strings_HasSuffix Tryz.laysHasSuffix s p w (by omega)
theorem HasPrefix_any (w : World) (s p : ByteArray) : Calls Tryz.prog 20 #[.string s, .string p] w fun e w' => e = .returned (.bool (Lib.hasPrefix s.data.toList p.data.toList)) ∧ w' = w :=
  Any.strings_HasPrefix Tryz.laysHasPrefix s p w
theorem ReplaceAll_any (w : World) (s old new : ByteArray) (h : MaxAt w) (hs : s.size < 4294967281) (h1 : 1 ≤ old.size) (h2 : new.size ≤ 2) : Calls Tryz.prog 42 #[.string s, .string old, .string new] w fun e w' => e = .returned (.string ⟨(Lib.replaceAll s.data.toList old.data.toList new.data.toList).toArray⟩) ∧ Below w.heap.size w w' := by
  obtain ⟨m, hm, _⟩ := h
  refine Any.strings_ReplaceAll Tryz.laysReplaceAll Tryz.extraReplace s old new m w hs hm h1 ?_
  have hc := Lib.countB_le old h1 s.size s (Nat.le_refl _)
  have : Lib.countB s old * new.size ≤ s.size * 2 := Nat.mul_le_mul hc h2
  omega
noncomputable def hrBody : Code := (Tryz.f62.body).getD .skip
noncomputable def hr0 : Code := part [false] hrBody
noncomputable def hr1 : Code := part [true, false, false] hrBody
noncomputable def hr2 : Code := part [true, false, true, false, false, false] hrBody
noncomputable def hr3 : Code := part [true, false, true, false, false, true, true, false, false, false] hrBody
noncomputable def hr4 : Code := part [true, false, true, false, false, true, true, false, false, true, false] hrBody
noncomputable def hr5 : Code := part [true, false, true, false, false, true, true, false, false, true, true, false, false] hrBody
noncomputable def hr6 : Code := part [true, false, true, false, false, true, true, true] hrBody
noncomputable def hr7 : Code := part [true, true, false] hrBody
set_option maxRecDepth 100000 in
theorem hr_eq : hrBody = Code.seq hr0 (.seq (.seq hr1 (.block 0 (.loop (.seq hr2 (.seq (.cond (.tmp 8) .skip (.exit 0)) (.seq (.block 1 (.seq hr3 (.seq hr4 (.cond (.tmp 14) (.seq hr5 .ret) .skip)))) hr6)))))) (.seq hr7 .ret)) := by kernel_rfl
abbrev hV : List Nat := [0, 4, 5, 6, 7]
set_option maxRecDepth 100000 in
theorem hr_p0 (w : World) (l : List (Nat × Value)) (f : Nat → Value) : hr0.wp Tryz.prog (NPost fun a w' => a = Fr 19 ((2, .bool false) :: l) f ∧ w' = w) (Fr 19 l f) w := by
  dsimp only [hr0, hrBody, part, part.sub2', sub1, sub2, Tryz.f62, Option.getD]
  go_wp
  exact NPost.mk ⟨rfl, rfl⟩
set_option maxRecDepth 100000 in
theorem hr_p1 (w : World) (l : List (Nat × Value)) (f : Nat → Value) : hr1.wp Tryz.prog (NPost fun a w' => ∃ l' A zs c, a = Fr 19 l' f ∧ VKeeps hV [5, 6, 7] l f l' ∧ lk l' f 5 = .slice A zs.length c ∧ lk l' f 6 = .int .i64 (zs.length : Int) ∧ lk l' f 7 = .int .i64 ((0 : Nat) : Int) ∧ Below w.heap.size w w' ∧ RunesS w.heap.size w' (.slice A zs.length c) zs ∧ zs.length ≤ 21) (Fr 19 l f) w := by
  dsimp only [hr1, hrBody, part, part.sub2', sub1, sub2, Tryz.f62, Option.getD]
  go_wp
  refine (rareSpaces_any w).mono ?_
  rintro e w1 ⟨v, zs, rfl, hb, hr, hz⟩
  obtain ⟨A, c, hv, _⟩ := ownsRow_form hr.1
  have hv' : v = .slice A zs.length c := by rw [hv]
  have H := Lib.hid (And.intro hb (And.intro hr hz))
  rw [hv'] at H ⊢
  clear hb hr hz hv hv'
  dsimp only
  go_wp
  exact NPost.mk ⟨_, A, zs, c, rfl, (by repeat first | exact VKeeps.refl _ _ _ _ | refine VKeeps.far (by decide) ?_ | refine VKeeps.set (by decide) ?_), by simp [lk], by simp [lk], by simp [lk], H.out.1, H.out.2.1, H.out.2.2⟩
set_option maxRecDepth 100000 in
theorem hr_p2 (w : World) (l : List (Nat × Value)) (f : Nat → Value) (i n : Nat) (h7 : lk l f 7 = .int .i64 (i : Int)) (h6 : lk l f 6 = .int .i64 (n : Int)) : hr2.wp Tryz.prog (NPost fun a w' => ∃ l', a = Fr 19 ((8, .bool (decide (i < n))) :: l') f ∧ VKeeps hV [] l f l' ∧ w' = w) (Fr 19 l f) w := by
  dsimp only [hr2, hrBody, part, part.sub2', sub1, sub2, Tryz.f62, Option.getD]
  go_wp
  exact NPost.mk ⟨_, rfl, (by repeat first | exact VKeeps.refl _ _ _ _ | refine VKeeps.far (by decide) ?_ | refine VKeeps.set (by decide) ?_), rfl⟩
set_option maxRecDepth 100000 in
theorem hr_p3 (w : World) (l : List (Nat × Value)) (f : Nat → Value) (b i n c : Nat) (z : Int) (h7 : lk l f 7 = .int .i64 (i : Int)) (h5 : lk l f 5 = .slice (some ⟨b, 0, none⟩) n c) (hi : i < n) (hc : w.cell? ⟨b, i, none⟩ = some (.int .i32 z)) : hr3.wp Tryz.prog (NPost fun a w' => ∃ l', a = Fr 19 ((4, .int .i32 z) :: l') f ∧ VKeeps hV [] l f l' ∧ w' = w) (Fr 19 l f) w := by
  dsimp only [hr3, hrBody, part, part.sub2', sub1, sub2, Tryz.f62, Option.getD]
  go_wp
  exact NPost.mk ⟨_, rfl, (by repeat first | exact VKeeps.refl _ _ _ _ | refine VKeeps.far (by decide) ?_ | refine VKeeps.set (by decide) ?_), rfl⟩
set_option maxRecDepth 100000 in
theorem hr_p4 (w : World) (l : List (Nat × Value)) (f : Nat → Value) (z : Int) (s : ByteArray) (h0 : lk l f 0 = .string s) (h4 : lk l f 4 = .int .i32 z) (hz : Utf8.valid z = true) (hm : MaxAt w) (hs : s.size < 4294967281) : hr4.wp Tryz.prog (NPost fun a w' => ∃ l' b, a = Fr 19 ((14, .bool b) :: l') f ∧ VKeeps hV [] l f l' ∧ Below w.heap.size w w') (Fr 19 l f) w := by
  dsimp only [hr4, hrBody, part, part.sub2', sub1, sub2, Tryz.f62, Option.getD]
  have HE := Lib.hid (Encoded_any w z hz)
  have HM := Lib.hid hm
  clear hm hz
  go_wp
  refine HE.out.mono ?_
  rintro e w1 ⟨rfl, hb⟩
  have HC := Lib.hid (Contains_any w1 s ⟨(Csv.enc z).toArray⟩ (HM.out.next hb) hs)
  have HB := Lib.hid hb
  clear hb HE HM
  dsimp only
  go_wp
  refine HC.out.mono ?_
  rintro e w2 ⟨rfl, rfl⟩
  clear HC
  dsimp only
  generalize Lib.contains _ _ = b
  go_wp
  exact NPost.mk ⟨_, b, rfl, (by repeat first | exact VKeeps.refl _ _ _ _ | refine VKeeps.far (by decide) ?_ | refine VKeeps.set (by decide) ?_), HB.out⟩
set_option maxRecDepth 100000 in
theorem hr_p5 (w : World) (l : List (Nat × Value)) (f : Nat → Value) : hr5.wp Tryz.prog (NPost fun a w' => a = Fr 19 ((2, .bool true) :: l) f ∧ w' = w) (Fr 19 l f) w := by
  dsimp only [hr5, hrBody, part, part.sub2', sub1, sub2, Tryz.f62, Option.getD]
  go_wp
  exact NPost.mk ⟨rfl, rfl⟩
set_option maxRecDepth 100000 in
theorem hr_p6 (w : World) (l : List (Nat × Value)) (f : Nat → Value) (i : Nat) (h7 : lk l f 7 = .int .i64 (i : Int)) (hi : i < 9223372036854775807) : hr6.wp Tryz.prog (NPost fun a w' => ∃ l', a = Fr 19 ((7, .int .i64 ((i + 1 : Nat) : Int)) :: l') f ∧ VKeeps hV [] l f l' ∧ w' = w) (Fr 19 l f) w := by
  dsimp only [hr6, hrBody, part, part.sub2', sub1, sub2, Tryz.f62, Option.getD]
  go_wp
  exact NPost.mk ⟨_, rfl, (by repeat first | exact VKeeps.refl _ _ _ _ | refine VKeeps.far (by decide) ?_ | refine VKeeps.set (by decide) ?_), rfl⟩
theorem unixL_len (s : Csv.Bytes) : (unixL s).length ≤ s.length := by
  induction s with
  | nil => exact Nat.le_refl _
  | cons b t ih =>
    show (if b = Csv.CR ∧ t.head? = some Csv.NL then unixL t else b :: unixL t).length ≤ _
    split <;> simp <;> omega
set_option maxRecDepth 100000 in
theorem hr_p7 (w : World) (l : List (Nat × Value)) (f : Nat → Value) (s : ByteArray) (h0 : lk l f 0 = .string s) (hm : MaxAt w) (hs : s.size < 4294967281) : hr7.wp Tryz.prog (NPost fun a w' => ∃ l' b, a = Fr 19 ((2, .bool b) :: l') f ∧ Below w.heap.size w w') (Fr 19 l f) w := by
  dsimp only [hr7, hrBody, part, part.sub2', sub1, sub2, Tryz.f62, Option.getD]
  have HE := Lib.hid (ReplaceAll_any w s ⟨#[13, 10]⟩ ⟨#[10]⟩ hm hs (by decide) (by decide))
  have HM := Lib.hid hm
  clear hm
  go_wp
  refine HE.out.mono ?_
  rintro e w1 ⟨rfl, hb⟩
  have hr : Lib.replaceAll s.data.toList [13, 10] [10] = unixL s.data.toList := replace_unix _
  dsimp only
  rw [hr]
  have hsz : (⟨(unixL s.data.toList).toArray⟩ : ByteArray).size < 4294967281 := by
    have := unixL_len s.data.toList
    show (unixL s.data.toList).toArray.size < _
    have h2 : s.data.toList.length = s.size := rfl
    simp only [List.size_toArray]
    omega
  have HC := Lib.hid (Contains_any w1 ⟨(unixL s.data.toList).toArray⟩ ⟨#[13]⟩ (HM.out.next hb) hsz)
  have HB := Lib.hid hb
  clear hb HE HM hr hsz
  generalize (⟨(unixL s.data.toList).toArray⟩ : ByteArray) = s' at HC ⊢
  go_wp
  refine HC.out.mono ?_
  rintro e w2 ⟨rfl, rfl⟩
  clear HC
  dsimp only
  generalize Lib.contains _ _ = b
  go_wp
  exact NPost.mk ⟨_, b, rfl, HB.out⟩
end Go.Proofs.YtfadgnopfjajbaaGreatDoor
namespace Go.Proofs.YtfadgnopfjajbaaGreatDoor
open Go.RowKit
/-- hasRare hands back something. -/
theorem hasRare_any (w : World) (s : ByteArray) (hm : MaxAt w) (hs : s.size < 4294967281) : Calls Tryz.prog 62 [.string s].toArray w fun e w' => ∃ b, e = .returned (.bool b) ∧ Below w.heap.size w w' := by
  refine enter 19 Tryz.func62 rfl rfl (by simp) ?_
  show hrBody.wp _ _ _ _
  rw [hr_eq]
  refine seq_part (hr_p0 w _ _) ?_
  rintro x w1 ⟨rfl, rfl⟩
  refine wp_seq_mid (fun a w' => ∃ l', a = Fr 19 l' (fun _ => undef) ∧ lk l' (fun _ => undef) 0 = .string s ∧ Below w1.heap.size w1 w') ?_ ?_
  · refine seq_part (hr_p1 w1 _ _) ?_
    rintro x w2 ⟨l2, A, zs, c, rfl, K2, k5, k6, k7, hb2, hr2, hz2⟩
    have k0 : lk l2 (fun _ => undef) 0 = .string s := (K2 0 rfl rfl).trans (by simp [lk])
    refine wp_block ?_
    refine wp_loop_n (fun k a w' => ∃ l', a = Fr 19 l' (fun _ => undef) ∧ lk l' (fun _ => undef) 0 = .string s ∧ lk l' (fun _ => undef) 5 = .slice A zs.length c ∧ lk l' (fun _ => undef) 6 = .int .i64 (zs.length : Int) ∧ lk l' (fun _ => undef) 7 = .int .i64 ((zs.length - k : Nat) : Int) ∧ k ≤ zs.length ∧ Below w1.heap.size w1 w' ∧ Below w2.heap.size w2 w') zs.length ⟨l2, rfl, k0, k5, k6, by rw [Nat.sub_self]; exact k7, Nat.le_refl _, hb2, Below.refl _ _⟩ ?_
    rintro k a w3 ⟨l3, rfl, k0, k5, k6, k7, hk, hb3, hbb3⟩
    refine seq_part (hr_p2 w3 l3 _ (zs.length - k) zs.length k7 k6) ?_
    rintro x w4 ⟨l4, rfl, K4, rfl⟩
    have q0 : lk ((8, .bool (decide (zs.length - k < zs.length))) :: l4) (fun _ => undef) 0 = .string s := by rw [lk_ne _ _ _ _ _ rfl, K4 0 rfl rfl, k0]
    have q5 : lk ((8, .bool (decide (zs.length - k < zs.length))) :: l4) (fun _ => undef) 5 = .slice A zs.length c := by rw [lk_ne _ _ _ _ _ rfl, K4 5 rfl rfl, k5]
    have q6 : lk ((8, .bool (decide (zs.length - k < zs.length))) :: l4) (fun _ => undef) 6 = .int .i64 (zs.length : Int) := by rw [lk_ne _ _ _ _ _ rfl, K4 6 rfl rfl, k6]
    have q7 : lk ((8, .bool (decide (zs.length - k < zs.length))) :: l4) (fun _ => undef) 7 = .int .i64 ((zs.length - k : Nat) : Int) := by rw [lk_ne _ _ _ _ _ rfl, K4 7 rfl rfl, k7]
    have q8 : lk ((8, .bool (decide (zs.length - k < zs.length))) :: l4) (fun _ => undef) 8 = .bool (decide (zs.length - k < zs.length)) := by simp [lk]
    revert q0 q5 q6 q7 q8
    generalize (8, Value.bool (decide (zs.length - k < zs.length))) :: l4 = l5
    intro q0 q5 q6 q7 q8
    by_cases hlt : zs.length - k < zs.length
    · rw [decide_eq_true hlt] at q8
      refine seq_part (R := fun a w => a = Fr 19 l5 (fun _ => undef) ∧ w = w4) (wp_if_true rfl q8 (wp_skip (NPost.mk ⟨rfl, rfl⟩))) ?_
      rintro a w5 ⟨rfl, rfl⟩
      have hr5 : RunesS w1.heap.size w5 (.slice A zs.length c) zs := ⟨ownsRow_only hr2.1 (Only.of_below hbb3) (fun q hq e => by have := (own_lt hr2.1 hq).2; omega), hr2.2⟩
      obtain ⟨A', c', hv', _, _, z', s'⟩ := ownsRow_form hr5.1
      have hA : ∃ b, A = some ⟨b, 0, none⟩ := by
        injection hv' with e1 _ e2
        subst e1
        cases hA : A with
        | none => have := (z' hA).1; omega
        | some a => obtain ⟨g, e, _⟩ := s' a hA; exact ⟨g, by rw [e]⟩
      obtain ⟨b, rfl⟩ := hA
      have hzi : zs[zs.length - k]? = some zs[zs.length - k] := List.getElem?_eq_getElem hlt
      have hcell : w5.cell? ⟨b, zs.length - k, none⟩ = some (.int .i32 zs[zs.length - k]) := by
        have := World.ownsRow.cells hr5.1 (g := b) rfl (zs.length - k) _ (by rw [List.getElem?_map, hzi]; rfl)
        rw [Addr.add_mk] at this
        simpa using this
      refine wp_seq_mid (fun a w' => ∃ l', a = Fr 19 l' (fun _ => undef) ∧ lk l' (fun _ => undef) 0 = .string s ∧ lk l' (fun _ => undef) 5 = .slice (some ⟨b, 0, none⟩) zs.length c ∧ lk l' (fun _ => undef) 6 = .int .i64 (zs.length : Int) ∧ lk l' (fun _ => undef) 7 = .int .i64 ((zs.length - k : Nat) : Int) ∧ Below w5.heap.size w5 w') (wp_block (seq_part (hr_p3 w5 l5 _ b (zs.length - k) zs.length c _ q7 q5 hlt hcell) ?_)) ?_
      · rintro x w6 ⟨l6, rfl, K6, rfl⟩
        refine seq_part (hr_p4 w6 _ _ _ s (by rw [lk_ne _ _ _ _ _ rfl, K6 0 rfl rfl, q0]) (by simp [lk]) (hr2.2 _ (List.mem_of_getElem? hzi)) (hm.next hb3) hs) ?_
        rintro x w7 ⟨l7, b7, rfl, K7, hb7⟩
        have r0 : lk ((14, .bool b7) :: l7) (fun _ => undef) 0 = .string s := by rw [lk_ne _ _ _ _ _ rfl, K7 0 rfl rfl, lk_ne _ _ _ _ _ rfl, K6 0 rfl rfl, q0]
        cases b7
        · refine wp_if_false rfl (by simp [lk]) (wp_skip ?_)
          simp only [Exit.then, Exit.inBlock]
          refine ⟨_, rfl, r0, ?_, ?_, ?_, hb7⟩
          · rw [lk_ne _ _ _ _ _ rfl, K7 5 rfl rfl, lk_ne _ _ _ _ _ rfl, K6 5 rfl rfl, q5]
          · rw [lk_ne _ _ _ _ _ rfl, K7 6 rfl rfl, lk_ne _ _ _ _ _ rfl, K6 6 rfl rfl, q6]
          · rw [lk_ne _ _ _ _ _ rfl, K7 7 rfl rfl, lk_ne _ _ _ _ _ rfl, K6 7 rfl rfl, q7]
        · refine wp_if_true rfl (by simp [lk]) (seq_part (hr_p5 w7 _ _) ?_)
          rintro x w8 ⟨rfl, rfl⟩
          refine wp_ret ?_
          simp only [Exit.then, Exit.inBlock]
          exact ret1 rfl rfl ⟨true, by simp [lk], hb3.trans (hb7.mono hb3.size)⟩
      · rintro x w6 ⟨l6, rfl, r0, r5, r6, r7, hb6⟩
        refine last_part (hr_p6 w6 l6 _ (zs.length - k) r7 (by omega)) ?_
        rintro x w7 ⟨l7, rfl, K7, rfl⟩
        refine ⟨k - 1, by omega, _, rfl, ?_, ?_, ?_, ?_, by omega, hb3.trans (hb6.mono hb3.size), hbb3.trans (hb6.mono hbb3.size)⟩
        · rw [lk_ne _ _ _ _ _ rfl, K7 0 rfl rfl, r0]
        · rw [lk_ne _ _ _ _ _ rfl, K7 5 rfl rfl, r5]
        · rw [lk_ne _ _ _ _ _ rfl, K7 6 rfl rfl, r6]
        · simp only [lk, if_true]; congr 2; omega
    · rw [decide_eq_false hlt] at q8
      refine wp_seq (wp_if_false rfl q8 (wp_exit ?_))
      simp only [Exit.then, Exit.inBlock, if_true]
      exact ⟨l5, rfl, q0, hb3⟩
  rintro x w2 ⟨l2, rfl, k0, hb2⟩
  refine seq_part (hr_p7 w2 l2 _ s k0 (hm.next hb2) hs) ?_
  rintro x w3 ⟨l3, b, rfl, hb3⟩
  exact wp_ret (ret1 rfl rfl ⟨b, by simp [lk], hb2.trans (hb3.mono hb2.size)⟩)
end Go.Proofs.YtfadgnopfjajbaaGreatDoor
