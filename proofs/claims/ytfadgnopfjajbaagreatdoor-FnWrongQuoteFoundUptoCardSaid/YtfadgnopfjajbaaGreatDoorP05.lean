/- A part of the proof: Runes: the shelf's contracts laid here; nextRune, lengthNL, validDelim; a rune at the head and its bytes. bytes.IndexRune at an ASCII rune; bytes.IndexFunc at readRecord's 'no white space'. What reading a record rests on: the reader's rows, and how they grow. readRecord, its first part: the delimiters are looked at. -/
import Derived.Test.YtfadgnopfjajbaaGreatDoorP04
import Derived.Ground.Names7Prog
import Derived.Ground.NamesProg
import Derived.Shelf.Spec.DecodeRune
import Derived.Shelf.Small.Utf8
import Derived.Shelf.Unicode.IsSpaceAnyD
import Derived.Lib.MapLaws
import Derived.Shelf.Spec.BytesIndexFunc
import Derived.Scope
namespace Go.Proofs.YtfadgnopfjajbaaGreatDoor
open Go.RowKit
theorem enc_eq (r : Int) : Csv.enc r = Lib.encodeRune r := by
  unfold Csv.enc Utf8.encode Lib.encodeRune Utf8.valid Utf8.runeError
  by_cases hv : (0 ≤ r ∧ r < 55296) ∨ (57344 ≤ r ∧ r ≤ 1114111)
  · obtain ⟨c, rfl⟩ := Int.eq_ofNat_of_zero_le (show 0 ≤ r by omega)
    have e : (decide (0 ≤ (c : Int)) && decide ((c : Int) < 55296) || decide (57344 ≤ (c : Int)) && decide ((c : Int) ≤ 1114111)) = true := by
      simp only [Bool.or_eq_true, Bool.and_eq_true, decide_eq_true_eq]; exact hv
    simp only [e, if_true, Int.toNat_natCast]
    by_cases h1 : c < 128
    · rw [if_pos h1, Lib.encodeRuneZ_one (by omega) (by omega)]
      simp
    by_cases h2 : c < 2048
    · rw [if_neg h1, if_pos h2, Lib.encodeRuneZ_two (by omega) (by omega)]
      simp only [List.map_cons, List.map_nil]
      have e1 : (192 + (c : Int) / 64).toNat = 192 + c / 64 := by omega
      have e2 : (128 + (c : Int) % 64).toNat = 128 + c % 64 := by omega
      rw [e1, e2]
    by_cases h3 : c < 65536
    · rw [if_neg h1, if_neg h2, if_pos h3, Lib.encodeRuneZ_three (by omega)]
      simp only [List.map_cons, List.map_nil]
      have e1 : (224 + (c : Int) / 4096).toNat = 224 + c / 4096 := by omega
      have e2 : (128 + (c : Int) / 64 % 64).toNat = 128 + c / 64 % 64 := by omega
      have e3 : (128 + (c : Int) % 64).toNat = 128 + c % 64 := by omega
      rw [e1, e2, e3]
    · rw [if_neg h1, if_neg h2, if_neg h3, Lib.encodeRuneZ_four (by omega) (by omega)]
      simp only [List.map_cons, List.map_nil]
      have e1 : (240 + (c : Int) / 262144).toNat = 240 + c / 262144 := by omega
      have e4 : (128 + (c : Int) / 4096 % 64).toNat = 128 + c / 4096 % 64 := by omega
      have e2 : (128 + (c : Int) / 64 % 64).toNat = 128 + c / 64 % 64 := by omega
      have e3 : (128 + (c : Int) % 64).toNat = 128 + c % 64 := by omega
      rw [e1, e2, e3, e4]
  · have e : (decide (0 ≤ r) && decide (r < 55296) || decide (57344 ≤ r) && decide (r ≤ 1114111)) = false := by
      rw [Bool.eq_false_iff]
      simp only [ne_eq, Bool.or_eq_true, Bool.and_eq_true, decide_eq_true_eq]; exact hv
    rw [Lib.encodeRuneZ_bad (by omega)]
    simp only [e, Bool.false_eq_true, if_false]
    rfl

theorem u8n (n : Nat) (h : n < 256) : (UInt8.ofNat n).toNat = n := by simp; omega
theorem dec2 (n b0 b1 b2 b3 : Nat) (h0 : b0 / 32 = 6) (hn : 1 < n) (h1 : b1 / 64 = 2) (hr : 128 ≤ b0 % 32 * 64 + b1 % 64) : (Lib.decodeN n b0 b1 b2 b3).1 = b0 % 32 * 64 + b1 % 64 := by
  unfold Lib.decodeN
  rw [if_neg (by omega), if_pos ⟨h0, hn, h1⟩, if_pos hr]
theorem dec3 (n b0 b1 b2 b3 : Nat) (h0 : b0 / 16 = 14) (hn : 2 < n) (h1 : b1 / 64 = 2) (h2 : b2 / 64 = 2) (hr : 2048 ≤ b0 % 16 * 4096 + b1 % 64 * 64 + b2 % 64) (hv : b0 % 16 * 4096 + b1 % 64 * 64 + b2 % 64 < 55296 ∨ 57344 ≤ b0 % 16 * 4096 + b1 % 64 * 64 + b2 % 64) : (Lib.decodeN n b0 b1 b2 b3).1 = b0 % 16 * 4096 + b1 % 64 * 64 + b2 % 64 := by
  unfold Lib.decodeN
  rw [if_neg (by omega), if_neg (by omega), if_pos ⟨h0, ⟨by omega, h1⟩, hn, h2⟩, if_pos ⟨hr, by omega⟩]
theorem dec4 (n b0 b1 b2 b3 : Nat) (h0 : b0 / 8 = 30) (hn : 3 < n) (h1 : b1 / 64 = 2) (h2 : b2 / 64 = 2) (h3 : b3 / 64 = 2) (hr : 65536 ≤ b0 % 8 * 262144 + b1 % 64 * 4096 + b2 % 64 * 64 + b3 % 64) (hv : b0 % 8 * 262144 + b1 % 64 * 4096 + b2 % 64 * 64 + b3 % 64 ≤ 1114111) : (Lib.decodeN n b0 b1 b2 b3).1 = b0 % 8 * 262144 + b1 % 64 * 4096 + b2 % 64 * 64 + b3 % 64 := by
  unfold Lib.decodeN
  rw [if_neg (by omega), if_neg (by omega), if_neg (by omega), if_pos ⟨h0, ⟨by omega, h1⟩, ⟨by omega, h2⟩, hn, h3⟩, if_pos ⟨hr, by omega⟩]
theorem enc1 (c : Nat) (h : c < 128) : Lib.encodeRune (c : Int) = [UInt8.ofNat c] := by
  unfold Lib.encodeRune
  rw [Lib.encodeRuneZ_one (by omega) (by omega)]
  simp
theorem enc2 (c : Nat) (h1 : 128 ≤ c) (h2 : c < 2048) : Lib.encodeRune (c : Int) = [UInt8.ofNat (192 + c / 64), UInt8.ofNat (128 + c % 64)] := by
  unfold Lib.encodeRune
  rw [Lib.encodeRuneZ_two (by omega) (by omega)]
  simp only [List.map_cons, List.map_nil]
  have e1 : (192 + (c : Int) / 64).toNat = 192 + c / 64 := by omega
  have e2 : (128 + (c : Int) % 64).toNat = 128 + c % 64 := by omega
  rw [e1, e2]
theorem enc3 (c : Nat) (h1 : 2048 ≤ c) (h2 : c < 65536) (h3 : c < 55296 ∨ 57343 < c) : Lib.encodeRune (c : Int) = [UInt8.ofNat (224 + c / 4096), UInt8.ofNat (128 + c / 64 % 64), UInt8.ofNat (128 + c % 64)] := by
  unfold Lib.encodeRune
  rw [Lib.encodeRuneZ_three (by omega)]
  simp only [List.map_cons, List.map_nil]
  have e1 : (224 + (c : Int) / 4096).toNat = 224 + c / 4096 := by omega
  have e2 : (128 + (c : Int) / 64 % 64).toNat = 128 + c / 64 % 64 := by omega
  have e3 : (128 + (c : Int) % 64).toNat = 128 + c % 64 := by omega
  rw [e1, e2, e3]
theorem enc4 (c : Nat) (h1 : 65536 ≤ c) (h2 : c ≤ 1114111) : Lib.encodeRune (c : Int) = [UInt8.ofNat (240 + c / 262144), UInt8.ofNat (128 + c / 4096 % 64), UInt8.ofNat (128 + c / 64 % 64), UInt8.ofNat (128 + c % 64)] := by
  unfold Lib.encodeRune
  rw [Lib.encodeRuneZ_four (by omega) (by omega)]
  simp only [List.map_cons, List.map_nil]
  have e1 : (240 + (c : Int) / 262144).toNat = 240 + c / 262144 := by omega
  have e4 : (128 + (c : Int) / 4096 % 64).toNat = 128 + c / 4096 % 64 := by omega
  have e2 : (128 + (c : Int) / 64 % 64).toNat = 128 + c / 64 % 64 := by omega
  have e3 : (128 + (c : Int) % 64).toNat = 128 + c % 64 := by omega
  rw [e1, e2, e3, e4]
/-- A rune's bytes at the head are read as that rune. -/
theorem decode_enc (r : Int) (hv : Utf8.valid r = true) (t : List UInt8) : ((Lib.decodeL (Csv.enc r ++ t)).1 : Int) = r := by
  unfold Utf8.valid at hv
  simp only [Bool.or_eq_true, Bool.and_eq_true, decide_eq_true_eq] at hv
  obtain ⟨c, rfl⟩ := Int.eq_ofNat_of_zero_le (show 0 ≤ r by omega)
  rw [Lib.decodeL_N, enc_eq]
  by_cases h1 : c < 128
  · rw [enc1 c h1]
    simp only [List.cons_append, List.nil_append, List.getD_cons_zero, u8n c (by omega)]
    rw [Lib.decodeN_ascii _ _ _ _ _ h1]
  by_cases h2 : c < 2048
  · rw [enc2 c (by omega) h2]
    simp only [List.cons_append, List.nil_append, List.getD_cons_zero, List.getD_cons_succ, u8n (192 + c / 64) (by omega), u8n (128 + c % 64) (by omega), List.length_cons]
    rw [dec2 _ _ _ _ _ (by omega) (by omega) (by omega) (by omega)]
    omega
  by_cases h3 : c < 65536
  · rw [enc3 c (by omega) h3 (by omega)]
    simp only [List.cons_append, List.nil_append, List.getD_cons_zero, List.getD_cons_succ, u8n (224 + c / 4096) (by omega), u8n (128 + c / 64 % 64) (by omega), u8n (128 + c % 64) (by omega), List.length_cons]
    rw [dec3 _ _ _ _ _ (by omega) (by omega) (by omega) (by omega) (by omega) (by omega)]
    omega
  · rw [enc4 c (by omega) (by omega)]
    simp only [List.cons_append, List.nil_append, List.getD_cons_zero, List.getD_cons_succ, u8n (240 + c / 262144) (by omega), u8n (128 + c / 4096 % 64) (by omega), u8n (128 + c / 64 % 64) (by omega), u8n (128 + c % 64) (by omega), List.length_cons]
    rw [dec4 _ _ _ _ _ (by omega) (by omega) (by omega) (by omega) (by omega) (by omega) (by omega)]
    omega
/-- What nextRune gives. -/
def nextR (l : List UInt8) : Int := (Lib.decodeGo ⟨l.toArray⟩).1
theorem nextR_nil : nextR [] = 65533 := rfl
theorem nextR_ne {l : List UInt8} (h : l ≠ []) : nextR l = ((Lib.decodeL l).1 : Int) := by
  unfold nextR Lib.decodeGo Lib.decodeL
  rw [if_neg]
  cases l with
  | nil => exact absurd rfl h
  | cons => simp [ByteArray.size]
theorem enc_ne (r : Int) : Csv.enc r ≠ [] := by
  rw [enc_eq]
  intro h
  have := (Lib.encodeRuneZ_length r).1
  unfold Lib.encodeRune at h
  simp at h
  rw [h] at this
  simp at this
/-- The next rune is r just where r's bytes come next. -/
theorem nextR_iff (r : Int) (hv : Csv.validDelim r = true ∨ r = 34) (l : List UInt8) : nextR l = r ↔ Csv.enc r <+: l := by
  have h1 : Utf8.valid r = true ∧ r ≠ 65533 := by
    rcases hv with hv | rfl
    · unfold Csv.validDelim at hv
      simp only [Bool.and_eq_true, bne_iff_ne, ne_eq] at hv
      exact ⟨hv.1.2, hv.2⟩
    · exact ⟨rfl, by decide⟩
  constructor
  · intro h
    have hne : l ≠ [] := fun e => h1.2 (by rw [← h, e]; rfl)
    rw [nextR_ne hne] at h
    have h2 := Lib.encode_decode l hne (fun h3 => h1.2 (by rw [← h, h3.1]; rfl))
    rw [h, ← enc_eq] at h2
    rw [h2]
    exact List.take_prefix _ _
  · rintro ⟨t, rfl⟩
    rw [nextR_ne (by simp [enc_ne]), decode_enc r h1.1]

theorem ba_get (l : List UInt8) (j : Nat) (x : UInt8) (h : l[j]? = some x) : (ByteArray.mk l.toArray).get! j = x := by
  have hj : j < l.length := by
    rcases Nat.lt_or_ge j l.length with h1 | h1
    · exact h1
    · rw [List.getElem?_eq_none h1] at h; cases h
  rw [List.getElem?_eq_getElem hj] at h
  injection h with h
  show l.toArray[j]! = x
  rw [getElem!_pos l.toArray j (by simpa using hj)]
  simpa using h
theorem BytesAt.bytes {w : World} {b o : Nat} {l : List UInt8} (h : BytesAt w b o l) : ∀ j, j < (ByteArray.mk l.toArray).size → w.cell? ⟨b, o + j, none⟩ = some (.int .u8 ((ByteArray.mk l.toArray).get! j).toNat) := by
  intro j hj
  have hj : j < l.length := by simpa [ByteArray.size] using hj
  have h1 := h j l[j] (List.getElem?_eq_getElem hj)
  rw [ba_get l j l[j] (List.getElem?_eq_getElem hj)]
  exact h1
theorem ba_size (l : List UInt8) : (ByteArray.mk l.toArray).size = l.length := by simp [ByteArray.size]
theorem DecodeRune_any (B : Nat) (w : World) (b o cap : Nat) (l : List UInt8) (hT : Tabs B w) (hl : BytesAt w b o l) :
    Calls Tryz.prog 100 [.slice (some ⟨b, o, none⟩) l.length cap].toArray w (fun e w' => ∃ k : Nat, e = .returned (.tuple #[.int .i32 (nextR l), .int .i64 k]) ∧ Below w.heap.size w w') := by
  have h := Any7.utf8_DecodeRune Tryz.laysDecode ⟨l.toArray⟩ b o cap w hT.u8 hl.bytes
  rw [ba_size] at h
  exact Calls.mono h (fun e w' ⟨h1, h2⟩ => ⟨_, h1, h2⟩)
theorem nextRune_any (B : Nat) (w : World) (b o cap : Nat) (l : List UInt8) (hT : Tabs B w) (hl : BytesAt w b o l) :
    Calls Tryz.prog 71 [.slice (some ⟨b, o, none⟩) l.length cap].toArray w (fun e w' => e = .returned (.int .i32 (nextR l)) ∧ Below w.heap.size w w') := by
  refine enter 11 Tryz.func71 rfl rfl (by simp) ?_
  go_wp
  refine (DecodeRune_any B w b o cap l hT hl).mono ?_
  rintro e w1 ⟨k, rfl, h1⟩
  dsimp only
  go_wp
  exact ret1 rfl rfl ⟨rfl, h1⟩
theorem lengthNL_any (w : World) (b o cap : Nat) (l : List UInt8) (hl : BytesAt w b o l) (hc : l.length ≤ cap) (hcap : cap ≤ 9223372036854775807) :
    Calls Tryz.prog 72 [.slice (some ⟨b, o, none⟩) l.length cap].toArray w (fun e w' => e = .returned (.int .i64 (Csv.nlLen l)) ∧ w' = w) := by
  refine enter 15 Tryz.func72 rfl rfl (by simp) ?_
  rcases List.eq_nil_or_concat l with rfl | ⟨l0, x, hl0⟩
  · simp only [List.length_nil]
    go_wp
    refine wp_if_false rfl (by simp [lk]) ?_
    go_wp
    exact ret1 rfl rfl ⟨rfl, rfl⟩
  · have hx : w.cell? ⟨b, o + l0.length, none⟩ = some (b8 x) := hl l0.length x (by rw [hl0]; simp)
    obtain ⟨n, hn⟩ : ∃ n, n = l0.length := ⟨_, rfl⟩
    have hln : l.length = n + 1 := by rw [hl0, hn]; simp
    rw [← hn] at hx
    unfold b8 at hx
    have i1 : (l.length : Int) - 1 = (n : Int) := by omega
    have i2 : n < l.length := by omega
    have i3 : (0 : Int) < (l.length : Int) := by omega
    have hnl : Csv.nlLen l = if x = 10 then 1 else 0 := by
      unfold Csv.nlLen Csv.NL
      rw [hl0]
      simp
    rw [hnl]
    have HL := Lib.hid (And.intro hl0 (And.intro hn hln))
    clear hl0 hn hln hnl hl
    by_cases h : x = 10
    · have hc10 : (((x.toNat : Nat) : Int) == 10) = true := by rw [h]; rfl
      rw [if_pos h]
      clear h
      go_wp
      refine wp_if_true rfl (by simp [lk]) ?_
      go_wp
      exact ret1 rfl rfl ⟨rfl, rfl⟩
    · have hc10 : (((x.toNat : Nat) : Int) == 10) = false := by
        rw [beq_eq_false_iff_ne]
        intro e
        apply h
        have e : x.toNat = 10 := by exact_mod_cast e
        exact UInt8.toNat_inj.1 e
      rw [if_neg h]
      clear h
      go_wp
      refine wp_if_false rfl (by simp [lk]) ?_
      go_wp
      exact ret1 rfl rfl ⟨rfl, rfl⟩
theorem validRune_eq (r : Int) : Lib.validRune r = Utf8.valid r := by
  unfold Lib.validRune Utf8.valid
  rw [Bool.eq_iff_iff]
  simp only [Bool.or_eq_true, Bool.and_eq_true, decide_eq_true_eq]
  omega
theorem validDelim_any (w : World) (r : Int) :
    Calls Tryz.prog 69 [.int .i32 r].toArray w (fun e w' => e = .returned (.bool (Csv.validDelim r)) ∧ w' = w) := by
  refine enter 25 Tryz.func69 rfl rfl (by simp) ?_
  by_cases h0 : r = 0
  · subst h0
    go_wp
    exact ret1 rfl rfl ⟨rfl, rfl⟩
  by_cases h1 : r = 34
  · subst h1
    go_wp
    exact ret1 rfl rfl ⟨rfl, rfl⟩
  by_cases h2 : r = 13
  · subst h2
    go_wp
    exact ret1 rfl rfl ⟨rfl, rfl⟩
  by_cases h3 : r = 10
  · subst h3
    go_wp
    exact ret1 rfl rfl ⟨rfl, rfl⟩
  have hv : Csv.validDelim r = (Lib.validRune r && r != 65533) := by
    unfold Csv.validDelim
    rw [validRune_eq]
    have e : ∀ k : Int, r ≠ k → (r != k) = true := fun k h => by simp [h]
    rw [e 0 h0, e 34 h1, e 13 h2, e 10 h3]
    simp
  rw [hv]
  have cV := Any.utf8_ValidRune Tryz.laysValid r w
  cases hvr : Lib.validRune r
  · rw [hvr] at cV
    clear hv hvr
    go_wp
    refine Calls.mono cV ?_
    rintro e w1 ⟨rfl, rfl⟩
    dsimp only
    go_wp
    exact ret1 rfl rfl ⟨rfl, rfl⟩
  · rw [hvr] at cV
    clear hv hvr
    by_cases h5 : r = 65533
    · subst h5
      go_wp
      refine Calls.mono cV ?_
      rintro e w1 ⟨rfl, rfl⟩
      dsimp only
      go_wp
      exact ret1 rfl rfl ⟨rfl, rfl⟩
    · have e5 : (r != 65533) = true := by simp [h5]
      go_wp
      refine Calls.mono cV ?_
      rintro e w1 ⟨rfl, rfl⟩
      dsimp only
      go_wp
      refine ret1 rfl rfl ⟨?_, rfl⟩
      have k : ∀ k : Int, ¬ r = k → (r != k) = true := fun k h => by simp [h]
      simp only [lk, k 0 h0, k 34 h1, k 13 h2, k 10 h3, k 65533 h5]
      rfl
end Go.Proofs.YtfadgnopfjajbaaGreatDoor
namespace Go.Proofs.YtfadgnopfjajbaaGreatDoor
open Go.RowKit
set_option maxRecDepth 100000 in
theorem IndexRune_ascii (b o cap : Nat) (l : List UInt8) (r : Nat) (hr : r < 128) (w : World) (hl : BytesAt w b o l) :
    Calls Tryz.prog 77 [.slice (some ⟨b, o, none⟩) l.length cap, .int .i32 (r : Int)].toArray w (fun e w' => e = .returned (.int .i64 (goIdx (Csv.indexByte (UInt8.ofNat r) l))) ∧ w' = w) := by
  have h1 : (0 : Int) ≤ (r : Int) := by omega
  have h2 : (r : Int) < 128 := by omega
  have h3 : IntKind.u8.wrap (r : Int) = (r : Int) := by
    simp only [IntKind.wrap, IntKind.bits, IntKind.signed, Bool.false_and, Bool.false_eq_true, if_false]
    omega
  refine enter 200 Tryz.func77 rfl rfl (by simp) ?_
  go_wp
  refine wp_if_true rfl (by simp [lk]) ?_
  go_wp
  refine (bIndexByte_any b o cap l r w hl).mono ?_
  rintro e w1 ⟨rfl, rfl⟩
  dsimp only
  go_wp
  exact ret1 rfl rfl ⟨rfl, rfl⟩
theorem isSpace_eq (r : Nat) : Csv.isSpace r = Lib.isSpaceR r := rfl
theorem spaceEnd_idx (l : List UInt8) : ∀ (f pos : Nat), pos ≤ l.length → l.length ≤ pos + f →
    Lib.idxFuncFrom (fun x => !Csv.isSpace x) true ⟨l.toArray⟩ f pos = match Csv.spaceEnd f (l.drop pos) with | some i => ((pos + i : Nat) : Int) | none => -1
  | 0, pos, h1, h2 => by
    have : pos = l.length := by omega
    simp [Lib.idxFuncFrom, Csv.spaceEnd]
  | f + 1, pos, h1, h2 => by
    rcases Nat.lt_or_ge pos l.length with h | h
    · have hd : l.drop pos ≠ [] := by simp; omega
      obtain ⟨c, t, hct⟩ := List.exists_cons_of_ne_nil hd
      have hdec : Utf8.decode ⟨(c :: t).toArray⟩ 0 = Utf8.decode ⟨l.toArray⟩ pos := by
        have := Lib.decodeL_drop ⟨l.toArray⟩ pos
        unfold Lib.decodeL at this
        rw [← hct]
        exact this
      have hw := Lib.width_pos ⟨l.toArray⟩ pos
      have hle : (Utf8.decode ⟨l.toArray⟩ pos).2 ≤ l.length - pos := by
        rw [← hdec]
        have := Lib.decodeL_le (c :: t) (by simp)
        unfold Lib.decodeL at this
        rw [← hct] at this ⊢
        simpa using this
      unfold Lib.idxFuncFrom
      rw [if_pos (by rw [ba_size]; exact h), hct]
      simp only [Csv.spaceEnd]
      rw [hdec]
      by_cases hs : Csv.isSpace (Utf8.decode ⟨l.toArray⟩ pos).1 = true
      · rw [if_neg (by rw [hs]; simp), if_pos hs, spaceEnd_idx l f _ (by omega) (by omega), ← List.drop_drop, hct]
        cases Csv.spaceEnd f (List.drop (Utf8.decode ⟨l.toArray⟩ pos).2 (c :: t)) with
        | none => rfl
        | some i => simp only [Option.map_some]; congr 1; omega
      · rw [if_pos (by simp [hs]), if_neg hs]
        simp
    · have hd : l.drop pos = [] := by simp; omega
      rw [Lib.idxFuncFrom_end _ _ _ _ _ (by rw [ba_size]; omega), hd]
      rfl
theorem spaceEnd_go (l : List UInt8) : Lib.idxFunc (fun x => !Csv.isSpace x) true ⟨l.toArray⟩ = goIdx (Csv.spaceEnd l.length l) := by
  unfold Lib.idxFunc
  rw [ba_size, spaceEnd_idx l l.length 0 (by omega) (by omega), List.drop_zero]
  cases Csv.spaceEnd l.length l with
  | none => rfl
  | some i => simp [goIdx]
theorem notSpace_any (B : Nat) (w : World) (hT : Tabs B w) (r : Nat) (hr : r ≤ 1114111) :
    Calls Tryz.prog 75 [.int .i32 (r : Int)].toArray w (fun e w' => e = .returned (.bool (!Csv.isSpace r)) ∧ Below w.heap.size w w') := by
  have cS := Any.unicode_IsSpace_any_d Tryz.laysSpace (r : Int) w (by omega) (by omega) hT.white
  rw [Lib.isSpaceZ_nat, ← isSpace_eq] at cS
  refine enter 6 Tryz.func75 rfl rfl (by simp) ?_
  go_wp
  refine Calls.mono cS ?_
  rintro e w1 ⟨rfl, q, hq⟩
  dsimp only
  go_wp
  refine ret1 rfl rfl ⟨rfl, ?_⟩
  exact ⟨rfl, rfl, rfl, Nat.le_refl _, fun _ _ => rfl⟩
theorem notSpace_grows (B : Nat) (w : World) (hT : Tabs B w) : PredGrows Tryz.prog 75 #[] (fun x => !Csv.isSpace x) w := by
  intro W x hx hb
  have hB : B ≤ w.heap.size := by
    obtain ⟨w0, rfl, h, _⟩ := hT
    exact h.size
  exact notSpace_any B W (hT.keep (hb.mono hB)) x hx
theorem IndexFunc_any (B : Nat) (b o cap : Nat) (l : List UInt8) (w : World) (hl : BytesAt w b o l) (hc : l.length ≤ cap) (hcap : cap ≤ 9223372036854775807) (hT : Tabs B w) :
    Calls Tryz.prog 74 [.slice (some ⟨b, o, none⟩) l.length cap, .func (.func 75) #[] #[]].toArray w (fun e w' => e = .returned (.int .i64 (goIdx (Csv.spaceEnd l.length l))) ∧ Below w.heap.size w w') := by
  have cI := Any7.bytes_indexFunc Tryz.laysIdxFunc 75 #[] (enters_of Tryz.func75 (by kernel_rfl) rfl) (fun x => !Csv.isSpace x) true ⟨l.toArray⟩ b o cap w (by rw [ba_size]; exact hc) (by rw [ba_size]; omega) hl.bytes hT.u8 (notSpace_grows B w hT)
  rw [ba_size, spaceEnd_go] at cI
  refine enter 8 Tryz.func74 rfl rfl (by simp) ?_
  go_wp
  refine Calls.mono cI ?_
  rintro e w1 ⟨rfl, hb⟩
  dsimp only
  go_wp
  exact ret1 rfl rfl ⟨rfl, hb⟩
end Go.Proofs.YtfadgnopfjajbaaGreatDoor
namespace Go.Proofs.YtfadgnopfjajbaaGreatDoor
open Go.RowKit

def i64v (n : Nat) : Value := .int .i64 (n : Int)
def posCells (p : Nat × Nat) : List Value := [i64v p.1, i64v p.2]

/-- What the reader's rows hold: the record's bytes, where its fields end, where they start in the text. -/
structure RSt where
  buf : List UInt8
  idx : List Nat
  pos : List (Nat × Nat)

structure RInv (B : Nat) (G : Glob) (w : World) (c : CSt) (r : RSt) : Prop where
  l : LInv B G w c
  rbuf : w.ownsRow B 5 1 c.rbuf r.buf.length (r.buf.map b8)
  idx : w.ownsRow B 3 1 c.idx r.idx.length (r.idx.map i64v)
  pos : w.ownsRow B 128 2 c.pos r.pos.length (r.pos.flatMap posCells)
  nraw : ∀ k, c.rbuf.ownBlock = some k → c.raw.ownBlock ≠ some k
  nbuf : c.rbuf.ownBlock ≠ some c.b.buf

def CSt.rown (c : CSt) (k : Nat) : Prop := c.lown k ∨ c.rbuf.ownBlock = some k ∨ c.idx.ownBlock = some k ∨ c.pos.ownBlock = some k

theorem rows_ne {w : World} {B B' : Nat} {e e' : TypeId} {s s' n n' k : Nat} {v v' : Value} {xs xs' : List Value} (h : w.ownsRow B e s v n xs) (h' : w.ownsRow B' e' s' v' n' xs') (hne : e ≠ e') (hk : v.ownBlock = some k) : v'.ownBlock ≠ some k := by
  rcases h.2 with ⟨rfl, _⟩ | ⟨g, cap, cur, rfl, _, hh, _⟩
  · cases hk
  · rcases h'.2 with ⟨rfl, _⟩ | ⟨g', cap', cur', rfl, _, hh', _⟩
    · intro e; cases e
    · intro e
      have e1 : some g = some k := hk
      have e2 : some g' = some k := e
      injection e1 with e1
      injection e2 with e2
      subst e1 e2
      rw [hh] at hh'
      injection hh' with hh'
      injection hh' with _ hh'
      exact hne hh'
section
variable {B : Nat} {G : Glob} {w w' : World} {c : CSt} {r : RSt} {S : Nat → Prop}
theorem LInv.only (h : LInv B G w c) (hO : Only S w w') (hS : ∀ k, S k → B ≤ k ∧ ¬ c.lown k) : LInv B G w' c := by
  obtain ⟨l, hl⟩ := h.raw
  exact ⟨h.b.only hO (fun k s => ⟨fun o => (hS k s).2 (.inr (.inl o)), (hS k s).1⟩), h.cr.only hO (fun s => (hS _ s).2 (.inl rfl)), h.Bcr, ⟨l, ownsRow_only hl hO (fun k hk s => (hS k s).2 (.inr (.inr hk)))⟩, h.rawbuf, h.glob.keep (hO.below h.size (fun k s => (hS k s).1)), h.small, h.osmall⟩
/-- A field of the reader takes a row that has grown. -/
theorem LInv.row (h : LInv B G w c) {row : Option Nat} (hg : w.grownBy w' row) (hrow : ∀ k, row = some k → B ≤ k ∧ ¬ c.lown k) (j : Nat) (v' : Value) (c' : CSt) (hc' : crCells c' = (crCells c).set j v')
    (e1 : c'.cr = c.cr) (e2 : c'.b = c.b) (e3 : c'.raw = c.raw) (e4 : c'.numLine = c.numLine) (e5 : c'.offset = c.offset) :
    LInv B G (w'.setCell ⟨c.cr, j, none⟩ v') c' ∧ Only (fun k => k = c.cr ∨ row = some k) w (w'.setCell ⟨c.cr, j, none⟩ v') := by
  have hO1 : Only (fun k => k = c.cr ∨ row = some k) w w' := (Only.refl (fun k => k = c.cr ∨ row = some k) w).grown hg (fun k hk _ => .inr hk)
  have hO : Only (fun k => k = c.cr ∨ row = some k) w (w'.setCell ⟨c.cr, j, none⟩ v') := hO1.setCell (p := ⟨c.cr, j, none⟩) (fun _ => .inl rfl) v'
  have hcr1 : Blk w' c.cr 66 (crCells c) := h.cr.grown hg (fun e => (hrow c.cr e.symm).2 (.inl rfl))
  obtain ⟨l, hl⟩ := h.raw
  have hB : ∀ k, (k = c.cr ∨ row = some k) → B ≤ k := fun k hk => hk.elim (fun e => e ▸ h.Bcr) (fun e => (hrow k e).1)
  refine ⟨⟨?_, ?_, by rw [e1]; exact h.Bcr, ⟨l, ?_⟩, by rw [e2, e3]; exact h.rawbuf, h.glob.keep (hO.below h.size hB), by rw [e2, e4]; exact h.small, by rw [e2, e5]; exact h.osmall⟩, hO⟩
  · rw [e2]
    refine h.b.only hO (fun k hk => ⟨fun o => ?_, hB k hk⟩)
    rcases hk with rfl | hk
    · exact h.cr_ne o
    · exact (hrow k hk).2 (.inr (.inl o))
  · rw [e1, hc']
    exact hcr1.set j v'
  · rw [e3]
    refine ownsRow_only hl hO (fun k hk s => ?_)
    rcases s with rfl | s
    · exact (h.raw_ne _ hk).2 rfl
    · exact (hrow k s).2 (.inr (.inr hk))
theorem RInv.only (h : RInv B G w c r) (hO : Only S w w') (hS : ∀ k, S k → B ≤ k ∧ ¬ c.rown k) : RInv B G w' c r :=
  ⟨h.l.only hO (fun k s => ⟨(hS k s).1, fun o => (hS k s).2 (.inl o)⟩), ownsRow_only h.rbuf hO (fun k hk s => (hS k s).2 (.inr (.inl hk))), ownsRow_only h.idx hO (fun k hk s => (hS k s).2 (.inr (.inr (.inl hk)))),
    ownsRow_only h.pos hO (fun k hk s => (hS k s).2 (.inr (.inr (.inr hk)))), h.nraw, h.nbuf⟩
theorem RInv.below (h : RInv B G w c r) (hb : Below w.heap.size w w') : RInv B G w' c r := by
  have hown : ∀ k, c.rown k → k < w.heap.size := by
    rintro k ((rfl | (rfl | rfl | rfl) | hk) | hk | hk | hk)
    · exact h.l.cr.lt
    · exact h.l.b.rb.lt
    · exact h.l.b.buf.lt
    · exact h.l.b.src.lt
    · obtain ⟨l, hl⟩ := h.l.raw; exact (own_lt hl hk).2
    · exact (own_lt h.rbuf hk).2
    · exact (own_lt h.idx hk).2
    · exact (own_lt h.pos hk).2
  exact h.only (Only.of_below hb) (fun k hk => ⟨Nat.le_trans h.l.size hk, fun o => by have := hown k o; omega⟩)
theorem RInv.rbuf_far (h : RInv B G w c r) (k : Nat) (hk : c.rbuf.ownBlock = some k) : B ≤ k ∧ ¬ c.lown k := by
  refine ⟨(own_lt h.rbuf hk).1, ?_⟩
  rintro (rfl | (rfl | rfl | rfl) | hk')
  · exact own_ne h.rbuf h.l.cr (by decide) hk
  · exact own_ne h.rbuf h.l.b.rb (by decide) hk
  · exact h.nbuf hk
  · exact own_ne h.rbuf h.l.b.src (by decide) hk
  · exact h.nraw k hk hk'
theorem RInv.idx_far (h : RInv B G w c r) (k : Nat) (hk : c.idx.ownBlock = some k) : B ≤ k ∧ ¬ c.lown k := by
  refine ⟨(own_lt h.idx hk).1, ?_⟩
  obtain ⟨l, hl⟩ := h.l.raw
  rintro (rfl | (rfl | rfl | rfl) | hk')
  · exact own_ne h.idx h.l.cr (by decide) hk
  · exact own_ne h.idx h.l.b.rb (by decide) hk
  · exact own_ne h.idx h.l.b.buf (by decide) hk
  · exact own_ne h.idx h.l.b.src (by decide) hk
  · exact rows_ne h.idx hl (by decide) hk hk'
theorem RInv.pos_far (h : RInv B G w c r) (k : Nat) (hk : c.pos.ownBlock = some k) : B ≤ k ∧ ¬ c.lown k := by
  refine ⟨(own_lt h.pos hk).1, ?_⟩
  obtain ⟨l, hl⟩ := h.l.raw
  rintro (rfl | (rfl | rfl | rfl) | hk')
  · exact own_ne h.pos h.l.cr (by decide) hk
  · exact own_ne h.pos h.l.b.rb (by decide) hk
  · exact own_ne h.pos h.l.b.buf (by decide) hk
  · exact own_ne h.pos h.l.b.src (by decide) hk
  · exact rows_ne h.pos hl (by decide) hk hk'
/-- The record's bytes grow. -/
theorem RInv.appBuf (h : RInv B G w c r) {v' : Value} {l : List UInt8} (h1 : w'.ownsRow B 5 1 v' l.length (l.map b8)) (hg : w.grownBy w' c.rbuf.ownBlock) (hat : v'.ownBlock = c.rbuf.ownBlock ∨ v'.ownBlock = some w.heap.size) :
    RInv B G (w'.setCell ⟨c.cr, 11, none⟩ v') { c with rbuf := v' } { r with buf := l } ∧ Only (fun k => k = c.cr ∨ c.rbuf.ownBlock = some k) w (w'.setCell ⟨c.cr, 11, none⟩ v') := by
  obtain ⟨hL, hO⟩ := h.l.row hg h.rbuf_far 11 v' { c with rbuf := v' } rfl rfl rfl rfl rfl rfl
  have hvn : ∀ k, v'.ownBlock = some k → k ≠ c.cr ∧ k ≠ c.b.buf ∧ c.raw.ownBlock ≠ some k := by
    intro k hk
    rcases hat with e | e
    · rw [e] at hk
      have := (h.rbuf_far k hk).2
      exact ⟨fun e => this (.inl e), fun e => this (.inr (.inl (.inr (.inl e)))), fun e => this (.inr (.inr e))⟩
    · rw [e] at hk
      injection hk with hk
      have := h.l.cr.lt; have := h.l.b.buf.lt
      exact ⟨by omega, by omega, fun e => by obtain ⟨l, hl⟩ := h.l.raw; have := (own_lt hl e).2; omega⟩
  refine ⟨⟨hL, ?_, ?_, ?_, fun k hk => (hvn k hk).2.2, fun e => (hvn _ e).2.1 rfl⟩, hO⟩
  · exact ownsRow_only h1 ((Only.refl (fun k => k = c.cr) w').setCell (p := ⟨c.cr, 11, none⟩) (fun _ => rfl) v') (fun k hk => (hvn k hk).1)
  · exact ownsRow_only h.idx hO (fun k hk s => s.elim (fun e => (h.idx_far k hk).2 (.inl e)) (fun e => rows_ne h.idx h.rbuf (by decide) hk e))
  · exact ownsRow_only h.pos hO (fun k hk s => s.elim (fun e => (h.pos_far k hk).2 (.inl e)) (fun e => rows_ne h.pos h.rbuf (by decide) hk e))
/-- The ends of fields grow. -/
theorem RInv.appIdx (h : RInv B G w c r) {v' : Value} {l : List Nat} (h1 : w'.ownsRow B 3 1 v' l.length (l.map i64v)) (hg : w.grownBy w' c.idx.ownBlock) (hat : v'.ownBlock = c.idx.ownBlock ∨ v'.ownBlock = some w.heap.size) :
    RInv B G (w'.setCell ⟨c.cr, 12, none⟩ v') { c with idx := v' } { r with idx := l } ∧ Only (fun k => k = c.cr ∨ c.idx.ownBlock = some k) w (w'.setCell ⟨c.cr, 12, none⟩ v') := by
  obtain ⟨hL, hO⟩ := h.l.row hg h.idx_far 12 v' { c with idx := v' } rfl rfl rfl rfl rfl rfl
  have hvn : ∀ k, v'.ownBlock = some k → k ≠ c.cr := by
    intro k hk
    rcases hat with e | e
    · rw [e] at hk
      have := (h.idx_far k hk).2
      exact fun e => this (.inl e)
    · rw [e] at hk
      injection hk with hk
      have := h.l.cr.lt
      omega
  refine ⟨⟨hL, ?_, ?_, ?_, h.nraw, h.nbuf⟩, hO⟩
  · exact ownsRow_only h.rbuf hO (fun k hk s => s.elim (fun e => (h.rbuf_far k hk).2 (.inl e)) (fun e => rows_ne h.rbuf h.idx (by decide) hk e))
  · exact ownsRow_only h1 ((Only.refl (fun k => k = c.cr) w').setCell (p := ⟨c.cr, 12, none⟩) (fun _ => rfl) v') hvn
  · exact ownsRow_only h.pos hO (fun k hk s => s.elim (fun e => (h.pos_far k hk).2 (.inl e)) (fun e => rows_ne h.pos h.idx (by decide) hk e))
/-- The places of fields grow. -/
theorem RInv.appPos (h : RInv B G w c r) {v' : Value} {l : List (Nat × Nat)} (h1 : w'.ownsRow B 128 2 v' l.length (l.flatMap posCells)) (hg : w.grownBy w' c.pos.ownBlock) (hat : v'.ownBlock = c.pos.ownBlock ∨ v'.ownBlock = some w.heap.size) :
    RInv B G (w'.setCell ⟨c.cr, 13, none⟩ v') { c with pos := v' } { r with pos := l } ∧ Only (fun k => k = c.cr ∨ c.pos.ownBlock = some k) w (w'.setCell ⟨c.cr, 13, none⟩ v') := by
  obtain ⟨hL, hO⟩ := h.l.row hg h.pos_far 13 v' { c with pos := v' } rfl rfl rfl rfl rfl rfl
  have hvn : ∀ k, v'.ownBlock = some k → k ≠ c.cr := by
    intro k hk
    rcases hat with e | e
    · rw [e] at hk
      have := (h.pos_far k hk).2
      exact fun e => this (.inl e)
    · rw [e] at hk
      injection hk with hk
      have := h.l.cr.lt
      omega
  refine ⟨⟨hL, ?_, ?_, ?_, h.nraw, h.nbuf⟩, hO⟩
  · exact ownsRow_only h.rbuf hO (fun k hk s => s.elim (fun e => (h.rbuf_far k hk).2 (.inl e)) (fun e => rows_ne h.rbuf h.pos (by decide) hk e))
  · exact ownsRow_only h.idx hO (fun k hk s => s.elim (fun e => (h.idx_far k hk).2 (.inl e)) (fun e => rows_ne h.idx h.pos (by decide) hk e))
  · exact ownsRow_only h1 ((Only.refl (fun k => k = c.cr) w').setCell (p := ⟨c.cr, 13, none⟩) (fun _ => rfl) v') hvn
/-- Behind readLine. -/
theorem RInv.line (h : RInv B G w c r) {c' : CSt} (hL : LInv B G w' c') (hc : c' = { c with b := c'.b, raw := c'.raw, numLine := c'.numLine, offset := c'.offset }) (hb : c'.b.buf = c.b.buf) (hO : Only c.lown w w')
    (hr : c'.raw.ownBlock = c.raw.ownBlock ∨ ∃ g, c'.raw.ownBlock = some g ∧ w.heap.size ≤ g) : RInv B G w' c' r := by
  have e1 : c'.rbuf = c.rbuf := by rw [hc]
  have e2 : c'.idx = c.idx := by rw [hc]
  have e3 : c'.pos = c.pos := by rw [hc]
  refine ⟨hL, ?_, ?_, ?_, ?_, ?_⟩
  · rw [e1]; exact ownsRow_only h.rbuf hO (fun k hk => (h.rbuf_far k hk).2)
  · rw [e2]; exact ownsRow_only h.idx hO (fun k hk => (h.idx_far k hk).2)
  · rw [e3]; exact ownsRow_only h.pos hO (fun k hk => (h.pos_far k hk).2)
  · rw [e1]
    intro k hk e
    rcases hr with e' | ⟨g, e', hg⟩
    · rw [e'] at e; exact h.nraw k hk e
    · rw [e'] at e
      injection e with e
      have := (own_lt h.rbuf hk).2
      omega
  · rw [e1, hb]; exact h.nbuf
end
theorem info_int : (Tryz.prog.info? 3).map (fun i => (i.zero, i.size, i.bytes)) = some (some (.int .i64 0), 1, 8) := by kernel_rfl
theorem info_pos : (Tryz.prog.info? 128).map (fun i => (i.zero, i.size, i.bytes)) = some (some (.agg #[.int .i64 0, .int .i64 0]), 2, 16) := by kernel_rfl
set_option maxRecDepth 100000 in
theorem append_int (w : World) (B : Nat) (ty : TypeId) (v : Value) (l : List Nat) (hown : w.ownsRow B 3 1 v l.length (l.map i64v)) (b o c n : Nat) (hm : w.cell? ⟨b, o, none⟩ = some (i64v n))
    (hlen : l.length + 1 < 70368744177664 / 8) (hB : B ≤ w.heap.size) :
    ∃ v' w', (Builtin.append_ #[22, 22] ty #[v, .slice (some ⟨b, o, none⟩) 1 c]).run Tryz.prog w = .ok v' w' ∧ w'.ownsRow B 3 1 v' (l ++ [n]).length ((l ++ [n]).map i64v) ∧ w.grownBy w' v.ownBlock ∧
      (v'.ownBlock = v.ownBlock ∨ v'.ownBlock = some w.heap.size) := by
  cases hi : Tryz.prog.info? 3 with
  | none => have := info_int; rw [hi] at this; cases this
  | some i =>
    have h := info_int
    rw [hi] at h
    simp only [Option.map_some, Option.some.injEq, Prod.mk.injEq] at h
    obtain ⟨hz, hs, hb⟩ := h
    obtain ⟨v', w', h1, h2, h3, h4, h5⟩ := run_append_own_at (P := Tryz.prog) w B 22 ty 3 i (.int .i64 0) 1 8 Tryz.underlying22 hi hz hs hb rfl (by omega) v l.length (l.map i64v) hown ⟨b, o, none⟩ 1 c [i64v n] (by simp)
      (fun j u hu => by
        rcases j with _ | j
        · simp at hu; subst hu; rw [Addr.add_mk]; exact hm
        · simp at hu)
      (fun u hu => by simp at hu; subst hu; rfl) (by simp only [maxLen]; omega) (by omega) hB
    exact ⟨v', w', h1, by simpa using h2, h3, h5⟩
set_option maxRecDepth 100000 in
theorem append_pos (w : World) (B : Nat) (ty : TypeId) (v : Value) (l : List (Nat × Nat)) (hown : w.ownsRow B 128 2 v l.length (l.flatMap posCells)) (b o c : Nat) (p : Nat × Nat) (hm0 : w.cell? ⟨b, o, none⟩ = some (i64v p.1)) (hm1 : w.cell? ⟨b, o + 1, none⟩ = some (i64v p.2))
    (hlen : l.length + 1 < 70368744177664 / 8) (hB : B ≤ w.heap.size) :
    ∃ v' w', (Builtin.append_ #[64, 64] ty #[v, .slice (some ⟨b, o, none⟩) 1 c]).run Tryz.prog w = .ok v' w' ∧ w'.ownsRow B 128 2 v' (l ++ [p]).length ((l ++ [p]).flatMap posCells) ∧ w.grownBy w' v.ownBlock ∧
      (v'.ownBlock = v.ownBlock ∨ v'.ownBlock = some w.heap.size) := by
  cases hi : Tryz.prog.info? 128 with
  | none => have := info_pos; rw [hi] at this; cases this
  | some i =>
    have h := info_pos
    rw [hi] at h
    simp only [Option.map_some, Option.some.injEq, Prod.mk.injEq] at h
    obtain ⟨hz, hs, hb⟩ := h
    obtain ⟨v', w', h1, h2, h3, h4, h5⟩ := run_append_own_at (P := Tryz.prog) w B 64 ty 128 i _ 2 16 Tryz.underlying64 hi hz hs hb rfl (by omega) v l.length (l.flatMap posCells) hown ⟨b, o, none⟩ 1 c (posCells p) (by simp [posCells])
      (fun j u hu => by
        rcases j with _ | _ | j
        · simp [posCells] at hu; subst hu; rw [Addr.add_mk]; exact hm0
        · simp [posCells] at hu; subst hu; rw [Addr.add_mk]; exact hm1
        · simp [posCells] at hu)
      (fun u hu => by simp [posCells] at hu; rcases hu with rfl | rfl <;> rfl) (by simp only [maxLen]; omega) (by omega) hB
    exact ⟨v', w', h1, by simpa using h2, h3, h5⟩
end Go.Proofs.YtfadgnopfjajbaaGreatDoor
namespace Go.Proofs.YtfadgnopfjajbaaGreatDoor
open Go.RowKit
def CSt.opt (c : CSt) : Csv.Opt := { comma := c.comma, comment := c.comment, lazy := c.lazy, trim := c.trim }
theorem opt_bad (c : CSt) (h : c.comma = c.comment ∨ Csv.validDelim c.comma = false ∨ (c.comment ≠ 0 ∧ Csv.validDelim c.comment = false)) : c.opt.valid = false := by
  unfold Csv.Opt.valid CSt.opt
  rcases h with h | h | ⟨h1, h2⟩
  · simp [h]
  · simp [h]
  · simp [h1, h2]
theorem opt_good0 (c : CSt) (h1 : ¬ c.comma = c.comment) (h2 : Csv.validDelim c.comma = true) (h3 : c.comment = 0) : c.opt.valid = !false := by
  have h0 : ¬ c.comma = 0 := h3 ▸ h1
  unfold Csv.Opt.valid CSt.opt
  simp [h0, h2, h3]
theorem opt_good (c : CSt) (h1 : ¬ c.comma = c.comment) (h2 : Csv.validDelim c.comma = true) (h4 : Csv.validDelim c.comment = true) : c.opt.valid = !false := by
  unfold Csv.Opt.valid CSt.opt
  simp [h1, h2, h4]
/- Parts of a program text. -/
def sub1 : Code → Code
  | .seq a _ => a
  | .cond _ a _ => a
  | .block _ c => c
  | .loop c => c
  | .scope c => c
  | c => c
def sub2 : Code → Code
  | .seq _ b => b
  | .cond _ _ b => b
  | c => c
noncomputable def recBody : Code := (Tryz.f51.body).getD .skip
noncomputable def recHead : Code := sub1 (sub1 (sub2 recBody))
set_option maxRecDepth 100000 in
set_option maxHeartbeats 1000000 in
theorem rec_delims (B : Nat) (G : Glob) (w : World) (c : CSt) (r : RSt) (dst : Value) (f : Nat → Value) (hc : RInv B G w c r) (Q : Exit → Act → World → Prop)
    (hbad : c.opt.valid = false → ∀ f, Q .ret (Fr 560 [(4, .slice none 0 0), (5, errVal G.inval)] f) w.drew.drew) :
    recHead.wp Tryz.prog (Exit.then (fun a w' => ∃ f, a = Fr 560 [(0, .pointer (some ⟨c.cr, 0, none⟩)), (1, dst)] f ∧ w' = w.drew ∧ c.opt.valid = true) Q) (Fr 560 [(0, .pointer (some ⟨c.cr, 0, none⟩)), (1, dst)] f) w := by
  dsimp only [recHead, sub1, sub2, recBody, Tryz.f51, Option.getD]
  have hcr := hc.l.cr.cell
  unfold crCells at hcr
  have hinv := hc.l.glob.inval.var
  have Hbad := Lib.hid hbad
  clear hbad hc
  refine wp_seq_mid (fun a w' => ∃ f b, a = Fr 560 [(0, .pointer (some ⟨c.cr, 0, none⟩)), (1, dst), (55, .bool b)] f ∧ w' = w.drew ∧ c.opt.valid = !b) ?_ ?_
  · by_cases h1 : c.comma = c.comment
    · have e1 : (c.comma == c.comment) = true := by simp [h1]
      have HB := Lib.hid (opt_bad c (.inl h1))
      clear h1
      refine draw_tail 14 mixed (by kernel_rfl) ?_
      simp only [List.take_succ_cons, List.take_zero, List.drop_succ_cons, List.drop_zero]
      iterate 14 still_step
      refine wpStill_nil ?_
      go_wp
      all_goals try exact absurd ‹some undef = some (Value.bool _)› (fun h => by cases h)
      exact ⟨_, true, Fr_forget _ _ _ [(0, _), (1, _), (55, _)] (tells_all ⟨rfl, rfl, rfl, trivial⟩), trivial, HB.out⟩
    have e1 : (c.comma == c.comment) = false := by simp [h1]
    cases h2 : Csv.validDelim c.comma
    · have HB := Lib.hid (opt_bad c (.inr (.inl h2)))
      have cV := validDelim_any w.drew c.comma
      rw [h2] at cV
      clear h1 h2
      refine draw_tail 14 mixed (by kernel_rfl) ?_
      simp only [List.take_succ_cons, List.take_zero, List.drop_succ_cons, List.drop_zero]
      iterate 14 still_step
      refine wpStill_nil ?_
      go_wp
      refine cV.mono ?_
      rintro e w1 ⟨rfl, rfl⟩
      dsimp only
      go_wp
      all_goals try exact absurd ‹some undef = some (Value.bool _)› (fun h => by cases h)
      exact ⟨_, true, Fr_forget _ _ _ [(0, _), (1, _), (55, _)] (tells_all ⟨rfl, rfl, rfl, trivial⟩), trivial, HB.out⟩
    by_cases h3 : c.comment = 0
    · have HB := Lib.hid (opt_good0 c h1 h2 h3)
      have cV := validDelim_any w.drew c.comma
      rw [h2] at cV
      have e3 : (c.comment != 0) = false := by simp [h3]
      clear h1 h2 h3
      refine draw_tail 14 mixed (by kernel_rfl) ?_
      simp only [List.take_succ_cons, List.take_zero, List.drop_succ_cons, List.drop_zero]
      iterate 14 still_step
      refine wpStill_nil ?_
      go_wp
      refine cV.mono ?_
      rintro e w1 ⟨rfl, rfl⟩
      dsimp only
      go_wp
      all_goals try exact absurd ‹some undef = some (Value.bool _)› (fun h => by cases h)
      exact ⟨_, false, Fr_forget _ _ _ [(0, _), (1, _), (55, _)] (tells_all ⟨rfl, rfl, rfl, trivial⟩), trivial, HB.out⟩
    have e3 : (c.comment != 0) = true := by simp [h3]
    cases h4 : Csv.validDelim c.comment
    · have HB := Lib.hid (opt_bad c (.inr (.inr ⟨h3, h4⟩)))
      have cV := validDelim_any w.drew c.comma
      have cV2 := validDelim_any w.drew c.comment
      rw [h2] at cV
      rw [h4] at cV2
      clear h1 h2 h3 h4
      refine draw_tail 14 mixed (by kernel_rfl) ?_
      simp only [List.take_succ_cons, List.take_zero, List.drop_succ_cons, List.drop_zero]
      iterate 14 still_step
      refine wpStill_nil ?_
      go_wp
      refine cV.mono ?_
      rintro e w1 ⟨rfl, rfl⟩
      dsimp only
      go_wp
      refine cV2.mono ?_
      rintro e w1 ⟨rfl, rfl⟩
      dsimp only
      go_wp
      all_goals try exact absurd ‹some undef = some (Value.bool _)› (fun h => by cases h)
      exact ⟨_, true, Fr_forget _ _ _ [(0, _), (1, _), (55, _)] (tells_all ⟨rfl, rfl, rfl, trivial⟩), trivial, HB.out⟩
    · have HB := Lib.hid (opt_good c h1 h2 h4)
      have cV := validDelim_any w.drew c.comma
      have cV2 := validDelim_any w.drew c.comment
      rw [h2] at cV
      rw [h4] at cV2
      clear h1 h2 h3 h4
      refine draw_tail 14 mixed (by kernel_rfl) ?_
      simp only [List.take_succ_cons, List.take_zero, List.drop_succ_cons, List.drop_zero]
      iterate 14 still_step
      refine wpStill_nil ?_
      go_wp
      refine cV.mono ?_
      rintro e w1 ⟨rfl, rfl⟩
      dsimp only
      go_wp
      refine cV2.mono ?_
      rintro e w1 ⟨rfl, rfl⟩
      dsimp only
      go_wp
      all_goals try exact absurd ‹some undef = some (Value.bool _)› (fun h => by cases h)
      exact ⟨_, false, Fr_forget _ _ _ [(0, _), (1, _), (55, _)] (tells_all ⟨rfl, rfl, rfl, trivial⟩), trivial, HB.out⟩
  · rintro a w1 ⟨f1, b, rfl, rfl, hv⟩
    cases b
    · refine wp_if_false rfl (by simp [lk]) ?_
      refine wp_skip ?_
      exact ⟨_, Fr_forget _ _ _ [(0, _), (1, _)] (tells_all ⟨rfl, rfl, trivial⟩), rfl, hv⟩
    · refine wp_if_true rfl (by simp [lk]) ?_
      go_wp
      refine draw_still mixed (by kernel_rfl) ?_
      iterate 3 still_step
      refine wpStill_nil ?_
      go_wp
      exact Fr_keep (K := fun a => Q .ret a w.drew.drew) [(4, _), (5, _)] (tells_all ⟨rfl, rfl, trivial⟩) (fun g => Hbad.out hv g)
end Go.Proofs.YtfadgnopfjajbaaGreatDoor
