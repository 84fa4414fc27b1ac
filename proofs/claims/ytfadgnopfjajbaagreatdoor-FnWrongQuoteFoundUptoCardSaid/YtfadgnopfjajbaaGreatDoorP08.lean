/- A part of the proof: readRecord: small parts of the parser. readRecord: what holds between the parser's steps. -/
import Derived.Test.YtfadgnopfjajbaaGreatDoorP07
namespace Go.Proofs.YtfadgnopfjajbaaGreatDoor
open Go.RowKit
/- The line is cut. -/
noncomputable def rec25 : Code := part [true, false, true, true, true, true, true, true, true, true, true, true, true, true, true, false, false, false, false, false, true, false, true, true, false] recBody
set_option maxRecDepth 100000 in
theorem rec_cut25 (w : World) (c : CSt) (l : List (Nat × Value)) (f : Nat → Value) (lb lo cp : Nat) (line : List UInt8) (h6 : lk l f 6 = .slice (some ⟨lb, lo, none⟩) line.length cp) (k : Nat) (hi : lk l f 12 = .int .i64 (k : Int)) (hk : k ≤ line.length) (hL : LineAt w c line lb lo cp) :
    rec25.wp Tryz.prog (NPost fun a w' => ∃ l' o', a = Fr 560 ((6, .slice (some ⟨lb, o', none⟩) (line.drop (k)).length (cp - k)) :: l') f ∧ Keeps [] l f l' ∧ w' = w ∧ LineAt w c (line.drop (k)) lb o' (cp - k)) (Fr 560 l f) w := by
  dsimp only [rec25, part, part.sub2', sub1, sub2, recBody, Tryz.f51, Option.getD]
  have hlen := hL.len
  have hcap := hL.cap
  obtain ⟨o', ho', hat, _⟩ := hL.at_.cut (k) hlen
  have hkc : k ≤ cp := by omega
  have HL := Lib.hid (And.intro hL hat)
  have hd : (line.drop (k)).length = line.length - k := List.length_drop
  rw [hd]
  clear hL hat hd
  go_wp
  refine NPost.mk ⟨_, o', rfl, (by repeat first | exact Keeps.refl _ _ _ | refine Keeps.far (by decide) ?_ | refine Keeps.set (by decide) ?_), rfl, ⟨HL.out.2, ?_, by omega, HL.out.1.spot⟩⟩
  rw [List.length_drop]
  omega
noncomputable def rec42 : Code := part [true, false, true, true, true, true, true, true, true, true, true, true, true, true, true, false, false, false, false, true, true, false, true, true, true, true, true, true, true, false, true, false, false] recBody
set_option maxRecDepth 100000 in
theorem rec_cut42 (w : World) (c : CSt) (l : List (Nat × Value)) (f : Nat → Value) (lb lo cp : Nat) (line : List UInt8) (h6 : lk l f 6 = .slice (some ⟨lb, lo, none⟩) line.length cp) (i n k : Nat) (hi : lk l f 13 = .int .i64 (i : Int)) (hn : lk l f 9 = .int .i64 (n : Int)) (hs : (i : Int) + (n : Int) = (k : Int)) (hk : k ≤ line.length) (hL : LineAt w c line lb lo cp) :
    rec42.wp Tryz.prog (NPost fun a w' => ∃ l' o', a = Fr 560 ((6, .slice (some ⟨lb, o', none⟩) (line.drop (k)).length (cp - k)) :: l') f ∧ Keeps [] l f l' ∧ w' = w ∧ LineAt w c (line.drop (k)) lb o' (cp - k)) (Fr 560 l f) w := by
  dsimp only [rec42, part, part.sub2', sub1, sub2, recBody, Tryz.f51, Option.getD]
  have hlen := hL.len
  have hcap := hL.cap
  obtain ⟨o', ho', hat, _⟩ := hL.at_.cut (k) hlen
  have hkc : k ≤ cp := by omega
  have HL := Lib.hid (And.intro hL hat)
  have hd : (line.drop (k)).length = line.length - k := List.length_drop
  rw [hd]
  clear hL hat hd
  go_wp
  refine NPost.mk ⟨_, o', rfl, (by repeat first | exact Keeps.refl _ _ _ | refine Keeps.far (by decide) ?_ | refine Keeps.set (by decide) ?_), rfl, ⟨HL.out.2, ?_, by omega, HL.out.1.spot⟩⟩
  rw [List.length_drop]
  omega
noncomputable def rec45 : Code := part [true, false, true, true, true, true, true, true, true, true, true, true, true, true, true, false, false, false, false, true, true, true, true, false] recBody
set_option maxRecDepth 100000 in
theorem rec_cut45 (w : World) (c : CSt) (l : List (Nat × Value)) (f : Nat → Value) (lb lo cp : Nat) (line : List UInt8) (h6 : lk l f 6 = .slice (some ⟨lb, lo, none⟩) line.length cp)  (hk : 1 ≤ line.length) (hL : LineAt w c line lb lo cp) :
    rec45.wp Tryz.prog (NPost fun a w' => ∃ l' o', a = Fr 560 ((6, .slice (some ⟨lb, o', none⟩) (line.drop (1)).length (cp - 1)) :: l') f ∧ Keeps [] l f l' ∧ w' = w ∧ LineAt w c (line.drop (1)) lb o' (cp - 1)) (Fr 560 l f) w := by
  dsimp only [rec45, part, part.sub2', sub1, sub2, recBody, Tryz.f51, Option.getD]
  have hlen := hL.len
  have hcap := hL.cap
  obtain ⟨o', ho', hat, _⟩ := hL.at_.cut (1) hlen
  have hkc : 1 ≤ cp := by omega
  have HL := Lib.hid (And.intro hL hat)
  have hd : (line.drop (1)).length = line.length - 1 := List.length_drop
  rw [hd]
  clear hL hat hd
  go_wp
  refine NPost.mk ⟨_, o', rfl, (by repeat first | exact Keeps.refl _ _ _ | refine Keeps.far (by decide) ?_ | refine Keeps.set (by decide) ?_), rfl, ⟨HL.out.2, ?_, by omega, HL.out.1.spot⟩⟩
  rw [List.length_drop]
  omega
noncomputable def rec50 : Code := part [true, false, true, true, true, true, true, true, true, true, true, true, true, true, true, false, false, false, false, true, true, true, true, true, true, false, false, false, true, true, false, true, false] recBody
set_option maxRecDepth 100000 in
theorem rec_cut50 (w : World) (c : CSt) (l : List (Nat × Value)) (f : Nat → Value) (lb lo cp : Nat) (line : List UInt8) (h6 : lk l f 6 = .slice (some ⟨lb, lo, none⟩) line.length cp) (i k : Nat) (hi : lk l f 18 = .int .i64 (i : Int)) (hs : (i : Int) + 1 = (k : Int)) (hk : k ≤ line.length) (hL : LineAt w c line lb lo cp) :
    rec50.wp Tryz.prog (NPost fun a w' => ∃ l' o', a = Fr 560 ((6, .slice (some ⟨lb, o', none⟩) (line.drop (k)).length (cp - k)) :: l') f ∧ Keeps [] l f l' ∧ w' = w ∧ LineAt w c (line.drop (k)) lb o' (cp - k)) (Fr 560 l f) w := by
  dsimp only [rec50, part, part.sub2', sub1, sub2, recBody, Tryz.f51, Option.getD]
  have hlen := hL.len
  have hcap := hL.cap
  obtain ⟨o', ho', hat, _⟩ := hL.at_.cut (k) hlen
  have hkc : k ≤ cp := by omega
  have HL := Lib.hid (And.intro hL hat)
  have hd : (line.drop (k)).length = line.length - k := List.length_drop
  rw [hd]
  clear hL hat hd
  go_wp
  refine NPost.mk ⟨_, o', rfl, (by repeat first | exact Keeps.refl _ _ _ | refine Keeps.far (by decide) ?_ | refine Keeps.set (by decide) ?_), rfl, ⟨HL.out.2, ?_, by omega, HL.out.1.spot⟩⟩
  rw [List.length_drop]
  omega
noncomputable def rec56 : Code := part [true, false, true, true, true, true, true, true, true, true, true, true, true, true, true, false, false, false, false, true, true, true, true, true, true, false, false, false, true, true, false, true, true, true, true, false, true, false, true, false] recBody
set_option maxRecDepth 100000 in
theorem rec_cut56 (w : World) (c : CSt) (l : List (Nat × Value)) (f : Nat → Value) (lb lo cp : Nat) (line : List UInt8) (h6 : lk l f 6 = .slice (some ⟨lb, lo, none⟩) line.length cp)  (hk : 1 ≤ line.length) (hL : LineAt w c line lb lo cp) :
    rec56.wp Tryz.prog (NPost fun a w' => ∃ l' o', a = Fr 560 ((6, .slice (some ⟨lb, o', none⟩) (line.drop (1)).length (cp - 1)) :: l') f ∧ Keeps [] l f l' ∧ w' = w ∧ LineAt w c (line.drop (1)) lb o' (cp - 1)) (Fr 560 l f) w := by
  dsimp only [rec56, part, part.sub2', sub1, sub2, recBody, Tryz.f51, Option.getD]
  have hlen := hL.len
  have hcap := hL.cap
  obtain ⟨o', ho', hat, _⟩ := hL.at_.cut (1) hlen
  have hkc : 1 ≤ cp := by omega
  have HL := Lib.hid (And.intro hL hat)
  have hd : (line.drop (1)).length = line.length - 1 := List.length_drop
  rw [hd]
  clear hL hat hd
  go_wp
  refine NPost.mk ⟨_, o', rfl, (by repeat first | exact Keeps.refl _ _ _ | refine Keeps.far (by decide) ?_ | refine Keeps.set (by decide) ?_), rfl, ⟨HL.out.2, ?_, by omega, HL.out.1.spot⟩⟩
  rw [List.length_drop]
  omega
noncomputable def rec59 : Code := part [true, false, true, true, true, true, true, true, true, true, true, true, true, true, true, false, false, false, false, true, true, true, true, true, true, false, false, false, true, true, false, true, true, true, true, false, true, true, true, false, false] recBody
set_option maxRecDepth 100000 in
theorem rec_cut59 (w : World) (c : CSt) (l : List (Nat × Value)) (f : Nat → Value) (lb lo cp : Nat) (line : List UInt8) (h6 : lk l f 6 = .slice (some ⟨lb, lo, none⟩) line.length cp) (k : Nat) (hi : lk l f 9 = .int .i64 (k : Int)) (hk : k ≤ line.length) (hL : LineAt w c line lb lo cp) :
    rec59.wp Tryz.prog (NPost fun a w' => ∃ l' o', a = Fr 560 ((6, .slice (some ⟨lb, o', none⟩) (line.drop (k)).length (cp - k)) :: l') f ∧ Keeps [] l f l' ∧ w' = w ∧ LineAt w c (line.drop (k)) lb o' (cp - k)) (Fr 560 l f) w := by
  dsimp only [rec59, part, part.sub2', sub1, sub2, recBody, Tryz.f51, Option.getD]
  have hlen := hL.len
  have hcap := hL.cap
  obtain ⟨o', ho', hat, _⟩ := hL.at_.cut (k) hlen
  have hkc : k ≤ cp := by omega
  have HL := Lib.hid (And.intro hL hat)
  have hd : (line.drop (k)).length = line.length - k := List.length_drop
  rw [hd]
  clear hL hat hd
  go_wp
  refine NPost.mk ⟨_, o', rfl, (by repeat first | exact Keeps.refl _ _ _ | refine Keeps.far (by decide) ?_ | refine Keeps.set (by decide) ?_), rfl, ⟨HL.out.2, ?_, by omega, HL.out.1.spot⟩⟩
  rw [List.length_drop]
  omega
/- The column is counted on. -/
noncomputable def rec26 : Code := part [true, false, true, true, true, true, true, true, true, true, true, true, true, true, true, false, false, false, false, false, true, false, true, true, true] recBody
set_option maxRecDepth 100000 in
theorem rec_col26 (w : World) (l : List (Nat × Value)) (f : Nat → Value) (pb pl pc : Nat) (hp : lk l f 11 = .pointer (some ⟨pb, 0, none⟩)) (hpb : Blk w pb 128 (posCells (pl, pc))) (k : Nat) (hi : lk l f 12 = .int .i64 (k : Int)) (hb : pc + k < 9223372036854775807) :
    rec26.wp Tryz.prog (NPost fun a w' => ∃ l', a = Fr 560 l' f ∧ Keeps [] l f l' ∧ w' = w.setCell ⟨pb, 1, none⟩ (i64v (pc + k))) (Fr 560 l f) w := by
  dsimp only [rec26, part, part.sub2', sub1, sub2, recBody, Tryz.f51, Option.getD]
  have hx := hpb.cell
  have hz := hpb.frozen
  unfold posCells i64v at hx
  clear hpb
  go_wp
  exact NPost.mk ⟨_, rfl, (by repeat first | exact Keeps.refl _ _ _ | refine Keeps.far (by decide) ?_ | refine Keeps.set (by decide) ?_), rfl⟩
noncomputable def rec43 : Code := part [true, false, true, true, true, true, true, true, true, true, true, true, true, true, true, false, false, false, false, true, true, false, true, true, true, true, true, true, true, false, true, false, true, false] recBody
set_option maxRecDepth 100000 in
theorem rec_col43 (w : World) (l : List (Nat × Value)) (f : Nat → Value) (pb pl pc : Nat) (hp : lk l f 11 = .pointer (some ⟨pb, 0, none⟩)) (hpb : Blk w pb 128 (posCells (pl, pc))) (i n k : Nat) (hi : lk l f 13 = .int .i64 (i : Int)) (hn : lk l f 9 = .int .i64 (n : Int)) (hs : (i : Int) + (n : Int) = (k : Int)) (hb : pc + k < 9223372036854775807) :
    rec43.wp Tryz.prog (NPost fun a w' => ∃ l', a = Fr 560 l' f ∧ Keeps [] l f l' ∧ w' = w.setCell ⟨pb, 1, none⟩ (i64v (pc + k))) (Fr 560 l f) w := by
  dsimp only [rec43, part, part.sub2', sub1, sub2, recBody, Tryz.f51, Option.getD]
  have hx := hpb.cell
  have hz := hpb.frozen
  unfold posCells i64v at hx
  clear hpb
  go_wp
  exact NPost.mk ⟨_, rfl, (by repeat first | exact Keeps.refl _ _ _ | refine Keeps.far (by decide) ?_ | refine Keeps.set (by decide) ?_), rfl⟩
noncomputable def rec46 : Code := part [true, false, true, true, true, true, true, true, true, true, true, true, true, true, true, false, false, false, false, true, true, true, true, true, false] recBody
set_option maxRecDepth 100000 in
theorem rec_col46 (w : World) (l : List (Nat × Value)) (f : Nat → Value) (pb pl pc : Nat) (hp : lk l f 11 = .pointer (some ⟨pb, 0, none⟩)) (hpb : Blk w pb 128 (posCells (pl, pc)))  (hb : pc + 1 < 9223372036854775807) :
    rec46.wp Tryz.prog (NPost fun a w' => ∃ l', a = Fr 560 l' f ∧ Keeps [] l f l' ∧ w' = w.setCell ⟨pb, 1, none⟩ (i64v (pc + 1))) (Fr 560 l f) w := by
  dsimp only [rec46, part, part.sub2', sub1, sub2, recBody, Tryz.f51, Option.getD]
  have hx := hpb.cell
  have hz := hpb.frozen
  unfold posCells i64v at hx
  clear hpb
  go_wp
  exact NPost.mk ⟨_, rfl, (by repeat first | exact Keeps.refl _ _ _ | refine Keeps.far (by decide) ?_ | refine Keeps.set (by decide) ?_), rfl⟩
noncomputable def rec51 : Code := part [true, false, true, true, true, true, true, true, true, true, true, true, true, true, true, false, false, false, false, true, true, true, true, true, true, false, false, false, true, true, false, true, true, false] recBody
set_option maxRecDepth 100000 in
theorem rec_col51 (w : World) (l : List (Nat × Value)) (f : Nat → Value) (pb pl pc : Nat) (hp : lk l f 11 = .pointer (some ⟨pb, 0, none⟩)) (hpb : Blk w pb 128 (posCells (pl, pc))) (i k : Nat) (hi : lk l f 18 = .int .i64 (i : Int)) (hs : (i : Int) + 1 = (k : Int)) (hb : pc + k < 9223372036854775807) :
    rec51.wp Tryz.prog (NPost fun a w' => ∃ l', a = Fr 560 l' f ∧ Keeps [] l f l' ∧ w' = w.setCell ⟨pb, 1, none⟩ (i64v (pc + k))) (Fr 560 l f) w := by
  dsimp only [rec51, part, part.sub2', sub1, sub2, recBody, Tryz.f51, Option.getD]
  have hx := hpb.cell
  have hz := hpb.frozen
  unfold posCells i64v at hx
  clear hpb
  go_wp
  exact NPost.mk ⟨_, rfl, (by repeat first | exact Keeps.refl _ _ _ | refine Keeps.far (by decide) ?_ | refine Keeps.set (by decide) ?_), rfl⟩
noncomputable def rec57 : Code := part [true, false, true, true, true, true, true, true, true, true, true, true, true, true, true, false, false, false, false, true, true, true, true, true, true, false, false, false, true, true, false, true, true, true, true, false, true, false, true, true] recBody
set_option maxRecDepth 100000 in
theorem rec_col57 (w : World) (l : List (Nat × Value)) (f : Nat → Value) (pb pl pc : Nat) (hp : lk l f 11 = .pointer (some ⟨pb, 0, none⟩)) (hpb : Blk w pb 128 (posCells (pl, pc)))  (hb : pc + 1 < 9223372036854775807) :
    rec57.wp Tryz.prog (NPost fun a w' => ∃ l', a = Fr 560 l' f ∧ Keeps [] l f l' ∧ w' = w.setCell ⟨pb, 1, none⟩ (i64v (pc + 1))) (Fr 560 l f) w := by
  dsimp only [rec57, part, part.sub2', sub1, sub2, recBody, Tryz.f51, Option.getD]
  have hx := hpb.cell
  have hz := hpb.frozen
  unfold posCells i64v at hx
  clear hpb
  go_wp
  exact NPost.mk ⟨_, rfl, (by repeat first | exact Keeps.refl _ _ _ | refine Keeps.far (by decide) ?_ | refine Keeps.set (by decide) ?_), rfl⟩
noncomputable def rec60 : Code := part [true, false, true, true, true, true, true, true, true, true, true, true, true, true, true, false, false, false, false, true, true, true, true, true, true, false, false, false, true, true, false, true, true, true, true, false, true, true, true, false, true, false] recBody
set_option maxRecDepth 100000 in
theorem rec_col60 (w : World) (l : List (Nat × Value)) (f : Nat → Value) (pb pl pc : Nat) (hp : lk l f 11 = .pointer (some ⟨pb, 0, none⟩)) (hpb : Blk w pb 128 (posCells (pl, pc))) (k : Nat) (hi : lk l f 9 = .int .i64 (k : Int)) (hb : pc + k < 9223372036854775807) :
    rec60.wp Tryz.prog (NPost fun a w' => ∃ l', a = Fr 560 l' f ∧ Keeps [] l f l' ∧ w' = w.setCell ⟨pb, 1, none⟩ (i64v (pc + k))) (Fr 560 l f) w := by
  dsimp only [rec60, part, part.sub2', sub1, sub2, recBody, Tryz.f51, Option.getD]
  have hx := hpb.cell
  have hz := hpb.frozen
  unfold posCells i64v at hx
  clear hpb
  go_wp
  exact NPost.mk ⟨_, rfl, (by repeat first | exact Keeps.refl _ _ _ | refine Keeps.far (by decide) ?_ | refine Keeps.set (by decide) ?_), rfl⟩
noncomputable def rec71 : Code := part [true, false, true, true, true, true, true, true, true, true, true, true, true, true, true, false, false, false, false, true, true, true, true, true, true, false, false, false, true, true, true, true, false, true, true, false] recBody
set_option maxRecDepth 100000 in
theorem rec_col71 (w : World) (l : List (Nat × Value)) (f : Nat → Value) (pb pl pc : Nat) (hp : lk l f 11 = .pointer (some ⟨pb, 0, none⟩)) (hpb : Blk w pb 128 (posCells (pl, pc))) (A : Option Addr) (k cp : Nat) (hi : lk l f 6 = .slice A k cp) (hb : pc + k < 9223372036854775807) :
    rec71.wp Tryz.prog (NPost fun a w' => ∃ l', a = Fr 560 l' f ∧ Keeps [] l f l' ∧ w' = w.setCell ⟨pb, 1, none⟩ (i64v (pc + k))) (Fr 560 l f) w := by
  dsimp only [rec71, part, part.sub2', sub1, sub2, recBody, Tryz.f51, Option.getD]
  have hx := hpb.cell
  have hz := hpb.frozen
  unfold posCells i64v at hx
  clear hpb
  go_wp
  exact NPost.mk ⟨_, rfl, (by repeat first | exact Keeps.refl _ _ _ | refine Keeps.far (by decide) ?_ | refine Keeps.set (by decide) ?_), rfl⟩
/- Options. -/
noncomputable def rec20 : Code := part [true, false, true, true, true, true, true, true, true, true, true, true, true, true, true, false, false, false, false, false, false] recBody
set_option maxRecDepth 100000 in
theorem rec_opt20 (B : Nat) (G : Glob) (w : World) (c : CSt) (r : RSt) (l : List (Nat × Value)) (f : Nat → Value) (hc : RInv B G w c r) (h0 : lk l f 0 = .pointer (some ⟨c.cr, 0, none⟩)) :
    rec20.wp Tryz.prog (NPost fun a w' => ∃ l', a = Fr 560 ((132, .bool c.trim) :: l') f ∧ Keeps [] l f l' ∧ w' = w) (Fr 560 l f) w := by
  dsimp only [rec20, part, part.sub2', sub1, sub2, recBody, Tryz.f51, Option.getD]
  have hcr := hc.l.cr.cell
  unfold crCells at hcr
  clear hc
  go_wp
  exact NPost.mk ⟨_, rfl, (by repeat first | exact Keeps.refl _ _ _ | refine Keeps.far (by decide) ?_ | refine Keeps.set (by decide) ?_), rfl⟩
noncomputable def rec33 : Code := part [true, false, true, true, true, true, true, true, true, true, true, true, true, true, true, false, false, false, false, true, true, false, true, true, true, false, false] recBody
set_option maxRecDepth 100000 in
theorem rec_opt33 (B : Nat) (G : Glob) (w : World) (c : CSt) (r : RSt) (l : List (Nat × Value)) (f : Nat → Value) (hc : RInv B G w c r) (h0 : lk l f 0 = .pointer (some ⟨c.cr, 0, none⟩)) :
    rec33.wp Tryz.prog (NPost fun a w' => ∃ l', a = Fr 560 ((185, .bool (!c.lazy)) :: l') f ∧ Keeps [] l f l' ∧ w' = w) (Fr 560 l f) w := by
  dsimp only [rec33, part, part.sub2', sub1, sub2, recBody, Tryz.f51, Option.getD]
  have hcr := hc.l.cr.cell
  unfold crCells at hcr
  clear hc
  go_wp
  exact NPost.mk ⟨_, rfl, (by repeat first | exact Keeps.refl _ _ _ | refine Keeps.far (by decide) ?_ | refine Keeps.set (by decide) ?_), rfl⟩
noncomputable def rec66 : Code := part [true, false, true, true, true, true, true, true, true, true, true, true, true, true, true, false, false, false, false, true, true, true, true, true, true, false, false, false, true, true, false, true, true, true, true, false, true, true, true, true, true, true, false] recBody
set_option maxRecDepth 100000 in
theorem rec_opt66 (B : Nat) (G : Glob) (w : World) (c : CSt) (r : RSt) (l : List (Nat × Value)) (f : Nat → Value) (hc : RInv B G w c r) (h0 : lk l f 0 = .pointer (some ⟨c.cr, 0, none⟩)) :
    rec66.wp Tryz.prog (NPost fun a w' => ∃ l', a = Fr 560 ((384, .bool c.lazy) :: l') f ∧ Keeps [] l f l' ∧ w' = w) (Fr 560 l f) w := by
  dsimp only [rec66, part, part.sub2', sub1, sub2, recBody, Tryz.f51, Option.getD]
  have hcr := hc.l.cr.cell
  unfold crCells at hcr
  clear hc
  go_wp
  exact NPost.mk ⟨_, rfl, (by repeat first | exact Keeps.refl _ _ _ | refine Keeps.far (by decide) ?_ | refine Keeps.set (by decide) ?_), rfl⟩
noncomputable def rec78 : Code := part [true, false, true, true, true, true, true, true, true, true, true, true, true, true, true, false, false, false, false, true, true, true, true, true, true, false, false, false, true, true, true, true, true, false, false] recBody
set_option maxRecDepth 100000 in
theorem rec_opt78 (B : Nat) (G : Glob) (w : World) (c : CSt) (r : RSt) (l : List (Nat × Value)) (f : Nat → Value) (hc : RInv B G w c r) (h0 : lk l f 0 = .pointer (some ⟨c.cr, 0, none⟩)) (h7 : lk l f 7 = .nilIface) :
    rec78.wp Tryz.prog (NPost fun a w' => ∃ l', a = Fr 560 ((442, .bool (!c.lazy)) :: l') f ∧ Keeps [] l f l' ∧ w' = w) (Fr 560 l f) w := by
  dsimp only [rec78, part, part.sub2', sub1, sub2, recBody, Tryz.f51, Option.getD]
  have hcr := hc.l.cr.cell
  unfold crCells at hcr
  clear hc
  cases hz : c.lazy
  all_goals
    rw [hz] at hcr
    clear hz
    go_wp
    exact NPost.mk ⟨_, rfl, (by repeat first | exact Keeps.refl _ _ _ | refine Keeps.far (by decide) ?_ | refine Keeps.set (by decide) ?_), rfl⟩
/- Indexes of bytes. -/
noncomputable def rec34 : Code := part [true, false, true, true, true, true, true, true, true, true, true, true, true, true, true, false, false, false, false, true, true, false, true, true, true, false, true, false, false] recBody
set_option maxRecDepth 100000 in
theorem rec_index34 (w : World) (l : List (Nat × Value)) (f : Nat → Value) (lb lo cp : Nat) (line : List UInt8) (h6 : lk l f 14 = .slice (some ⟨lb, lo, none⟩) line.length cp) (hm : BytesAt w lb lo line) :
    rec34.wp Tryz.prog (NPost fun a w' => ∃ l', a = Fr 560 ((15, .int .i64 (goIdx (Csv.indexByte 34 line))) :: l') f ∧ Keeps [] l f l' ∧ w' = w) (Fr 560 l f) w := by
  dsimp only [rec34, part, part.sub2', sub1, sub2, recBody, Tryz.f51, Option.getD]
  have cI := bIndexByte_any lb lo cp line 34 w hm
  clear hm
  go_wp
  refine cI.mono ?_
  rintro e w1 ⟨rfl, rfl⟩
  dsimp only
  clear cI
  go_wp
  exact NPost.mk ⟨_, rfl, (by repeat first | exact Keeps.refl _ _ _ | refine Keeps.far (by decide) ?_ | refine Keeps.set (by decide) ?_), rfl⟩
noncomputable def rec47 : Code := part [true, false, true, true, true, true, true, true, true, true, true, true, true, true, true, false, false, false, false, true, true, true, true, true, true, false, false, false, false] recBody
set_option maxRecDepth 100000 in
theorem rec_index47 (w : World) (l : List (Nat × Value)) (f : Nat → Value) (lb lo cp : Nat) (line : List UInt8) (h6 : lk l f 6 = .slice (some ⟨lb, lo, none⟩) line.length cp) (hm : BytesAt w lb lo line) :
    rec47.wp Tryz.prog (NPost fun a w' => ∃ l', a = Fr 560 ((18, .int .i64 (goIdx (Csv.indexByte 34 line))) :: l') f ∧ Keeps [] l f l' ∧ w' = w) (Fr 560 l f) w := by
  dsimp only [rec47, part, part.sub2', sub1, sub2, recBody, Tryz.f51, Option.getD]
  have cI := bIndexByte_any lb lo cp line 34 w hm
  clear hm
  go_wp
  refine cI.mono ?_
  rintro e w1 ⟨rfl, rfl⟩
  dsimp only
  clear cI
  go_wp
  exact NPost.mk ⟨_, rfl, (by repeat first | exact Keeps.refl _ _ _ | refine Keeps.far (by decide) ?_ | refine Keeps.set (by decide) ?_), rfl⟩
/- Is an index there? -/
noncomputable def rec30 : Code := part [true, false, true, true, true, true, true, true, true, true, true, true, true, true, true, false, false, false, false, true, true, false, true, true, false, false] recBody
set_option maxRecDepth 100000 in
theorem rec_there30 (w : World) (l : List (Nat × Value)) (f : Nat → Value) (x : Option Nat) (h : lk l f 13 = .int .i64 (goIdx x)) :
    rec30.wp Tryz.prog (NPost fun a w' => ∃ l', a = Fr 560 ((170, .bool x.isSome) :: l') f ∧ Keeps [] l f l' ∧ w' = w) (Fr 560 l f) w := by
  dsimp only [rec30, part, part.sub2', sub1, sub2, recBody, Tryz.f51, Option.getD]
  cases x with
  | none =>
    simp only [goIdx] at h
    go_wp
    exact NPost.mk ⟨_, rfl, (by repeat first | exact Keeps.refl _ _ _ | refine Keeps.far (by decide) ?_ | refine Keeps.set (by decide) ?_), rfl⟩
  | some i =>
    simp only [goIdx] at h
    go_wp
    exact NPost.mk ⟨_, rfl, (by repeat first | exact Keeps.refl _ _ _ | refine Keeps.far (by decide) ?_ | refine Keeps.set (by decide) ?_), rfl⟩
noncomputable def rec35 : Code := part [true, false, true, true, true, true, true, true, true, true, true, true, true, true, true, false, false, false, false, true, true, false, true, true, true, false, true, false, true, false] recBody
set_option maxRecDepth 100000 in
theorem rec_there35 (w : World) (l : List (Nat × Value)) (f : Nat → Value) (x : Option Nat) (h : lk l f 15 = .int .i64 (goIdx x)) :
    rec35.wp Tryz.prog (NPost fun a w' => ∃ l', a = Fr 560 ((189, .bool x.isSome) :: l') f ∧ Keeps [] l f l' ∧ w' = w) (Fr 560 l f) w := by
  dsimp only [rec35, part, part.sub2', sub1, sub2, recBody, Tryz.f51, Option.getD]
  cases x with
  | none =>
    simp only [goIdx] at h
    go_wp
    exact NPost.mk ⟨_, rfl, (by repeat first | exact Keeps.refl _ _ _ | refine Keeps.far (by decide) ?_ | refine Keeps.set (by decide) ?_), rfl⟩
  | some i =>
    simp only [goIdx] at h
    go_wp
    exact NPost.mk ⟨_, rfl, (by repeat first | exact Keeps.refl _ _ _ | refine Keeps.far (by decide) ?_ | refine Keeps.set (by decide) ?_), rfl⟩
noncomputable def rec41 : Code := part [true, false, true, true, true, true, true, true, true, true, true, true, true, true, true, false, false, false, false, true, true, false, true, true, true, true, true, true, true, false, false] recBody
set_option maxRecDepth 100000 in
theorem rec_there41 (w : World) (l : List (Nat × Value)) (f : Nat → Value) (x : Option Nat) (h : lk l f 13 = .int .i64 (goIdx x)) :
    rec41.wp Tryz.prog (NPost fun a w' => ∃ l', a = Fr 560 ((238, .bool x.isSome) :: l') f ∧ Keeps [] l f l' ∧ w' = w) (Fr 560 l f) w := by
  dsimp only [rec41, part, part.sub2', sub1, sub2, recBody, Tryz.f51, Option.getD]
  cases x with
  | none =>
    simp only [goIdx] at h
    go_wp
    exact NPost.mk ⟨_, rfl, (by repeat first | exact Keeps.refl _ _ _ | refine Keeps.far (by decide) ?_ | refine Keeps.set (by decide) ?_), rfl⟩
  | some i =>
    simp only [goIdx] at h
    go_wp
    exact NPost.mk ⟨_, rfl, (by repeat first | exact Keeps.refl _ _ _ | refine Keeps.far (by decide) ?_ | refine Keeps.set (by decide) ?_), rfl⟩
noncomputable def rec48 : Code := part [true, false, true, true, true, true, true, true, true, true, true, true, true, true, true, false, false, false, false, true, true, true, true, true, true, false, false, false, true, false] recBody
set_option maxRecDepth 100000 in
theorem rec_there48 (w : World) (l : List (Nat × Value)) (f : Nat → Value) (x : Option Nat) (h : lk l f 18 = .int .i64 (goIdx x)) :
    rec48.wp Tryz.prog (NPost fun a w' => ∃ l', a = Fr 560 ((261, .bool x.isSome) :: l') f ∧ Keeps [] l f l' ∧ w' = w) (Fr 560 l f) w := by
  dsimp only [rec48, part, part.sub2', sub1, sub2, recBody, Tryz.f51, Option.getD]
  cases x with
  | none =>
    simp only [goIdx] at h
    go_wp
    exact NPost.mk ⟨_, rfl, (by repeat first | exact Keeps.refl _ _ _ | refine Keeps.far (by decide) ?_ | refine Keeps.set (by decide) ?_), rfl⟩
  | some i =>
    simp only [goIdx] at h
    go_wp
    exact NPost.mk ⟨_, rfl, (by repeat first | exact Keeps.refl _ _ _ | refine Keeps.far (by decide) ?_ | refine Keeps.set (by decide) ?_), rfl⟩
noncomputable def rec27 : Code := part [true, false, true, true, true, true, true, true, true, true, true, true, true, true, true, false, false, false, false, true, false] recBody
set_option maxRecDepth 100000 in
theorem rec_isq27 (w : World) (l : List (Nat × Value)) (f : Nat → Value) (lb lo cp : Nat) (line : List UInt8) (h6 : lk l f 6 = .slice (some ⟨lb, lo, none⟩) line.length cp) (hm : BytesAt w lb lo line) :
    rec27.wp Tryz.prog (NPost fun a w' => ∃ l', a = Fr 560 ((161, .bool (decide (line.head? ≠ some 34))) :: l') f ∧ Keeps [] l f l' ∧ w' = w) (Fr 560 l f) w := by
  dsimp only [rec27, part, part.sub2', sub1, sub2, recBody, Tryz.f51, Option.getD]
  cases line with
  | nil =>
    clear hm
    simp only [List.length_nil] at h6
    go_wp
    exact NPost.mk ⟨_, rfl, (by repeat first | exact Keeps.refl _ _ _ | refine Keeps.far (by decide) ?_ | refine Keeps.set (by decide) ?_), rfl⟩
  | cons x t =>
    have hx := hm 0 x rfl
    unfold b8 at hx
    simp only [Nat.add_zero] at hx
    obtain ⟨n, hn⟩ : ∃ n, n = (x :: t).length := ⟨_, rfl⟩
    have hn1 : 0 < n := by rw [hn]; simp
    have hne : ((n : Int) == 0) = false := by rw [beq_eq_false_iff_ne]; omega
    rw [← hn] at h6
    have hb : (((x.toNat : Nat) : Int) != 34) = decide ((x :: t).head? ≠ some 34) := by
      rw [Bool.eq_iff_iff]
      simp only [bne_iff_ne, ne_eq, List.head?_cons, Option.some.injEq, decide_not, Bool.not_eq_true', decide_eq_false_iff_not]
      constructor
      · intro h e; apply h; rw [e]; rfl
      · intro h e; apply h
        have e : x.toNat = 34 := by exact_mod_cast e
        exact UInt8.toNat_inj.1 e
    generalize decide ((x :: t).head? ≠ some 34) = q at hb
    clear hn hm
    go_wp
    exact NPost.mk ⟨_, rfl, (by repeat first | exact Keeps.refl _ _ _ | refine Keeps.far (by decide) ?_ | refine Keeps.set (by decide) ?_), rfl⟩
theorem indexOf_one (b : UInt8) (l : List UInt8) : Csv.indexOf [b] l = Csv.indexByte b l := by
  induction l with
  | nil => rfl
  | cons c t ih =>
    simp only [Csv.indexOf, Csv.indexByte, ih]
    by_cases h : c = b
    · subst h; simp
    · rw [if_neg h, if_neg (by simp; exact fun e => h e.symm)]
theorem comma_ascii {r : Int} (h0 : 0 ≤ r) (h1 : r < 128) : Csv.enc r = [UInt8.ofNat r.toNat] := by
  obtain ⟨c, rfl⟩ := Int.eq_ofNat_of_zero_le h0
  rw [enc_eq, enc1 c (by omega)]
  simp
noncomputable def rec28 : Code := part [true, false, true, true, true, true, true, true, true, true, true, true, true, true, true, false, false, false, false, true, true, false, false] recBody
set_option maxRecDepth 100000 in
theorem rec_rune28 (B : Nat) (G : Glob) (w : World) (c : CSt) (r : RSt) (l : List (Nat × Value)) (f : Nat → Value) (hc : RInv B G w c r) (h0 : lk l f 0 = .pointer (some ⟨c.cr, 0, none⟩)) (hc0 : 0 ≤ c.comma) (hc1 : c.comma < 128)
    (lb lo cp : Nat) (line : List UInt8) (h6 : lk l f 6 = .slice (some ⟨lb, lo, none⟩) line.length cp) (hm : BytesAt w lb lo line) :
    rec28.wp Tryz.prog (NPost fun a w' => ∃ l', a = Fr 560 ((13, .int .i64 (goIdx (Csv.indexOf (Csv.enc c.comma) line))) :: l') f ∧ Keeps [] l f l' ∧ w' = w) (Fr 560 l f) w := by
  dsimp only [rec28, part, part.sub2', sub1, sub2, recBody, Tryz.f51, Option.getD]
  have hcr := hc.l.cr.cell
  unfold crCells at hcr
  have cI := IndexRune_ascii lb lo cp line c.comma.toNat (by omega) w hm
  rw [Int.toNat_of_nonneg hc0, ← indexOf_one, ← comma_ascii hc0 hc1] at cI
  clear hm hc
  go_wp
  refine cI.mono ?_
  rintro e w1 ⟨rfl, rfl⟩
  dsimp only
  clear cI
  go_wp
  exact NPost.mk ⟨_, rfl, (by repeat first | exact Keeps.refl _ _ _ | refine Keeps.far (by decide) ?_ | refine Keeps.set (by decide) ?_), rfl⟩
noncomputable def rec29 : Code := part [true, false, true, true, true, true, true, true, true, true, true, true, true, true, true, false, false, false, false, true, true, false, true, false] recBody
set_option maxRecDepth 100000 in
theorem rec_field29 (w : World) (l : List (Nat × Value)) (f : Nat → Value) (v : Value) (h6 : lk l f 6 = v) :
    rec29.wp Tryz.prog (NPost fun a w' => ∃ l', a = Fr 560 ((14, v) :: l') f ∧ Keeps [] l f l' ∧ w' = w) (Fr 560 l f) w := by
  dsimp only [rec29, part, part.sub2', sub1, sub2, recBody, Tryz.f51, Option.getD]
  go_wp
  exact NPost.mk ⟨_, rfl, (by repeat first | exact Keeps.refl _ _ _ | refine Keeps.far (by decide) ?_ | refine Keeps.set (by decide) ?_), rfl⟩
noncomputable def rec31 : Code := part [true, false, true, true, true, true, true, true, true, true, true, true, true, true, true, false, false, false, false, true, true, false, true, true, false, true, false] recBody
set_option maxRecDepth 100000 in
theorem rec_field31 (w : World) (l : List (Nat × Value)) (f : Nat → Value) (lb lo cp n i : Nat) (h14 : lk l f 14 = .slice (some ⟨lb, lo, none⟩) n cp) (h13 : lk l f 13 = .int .i64 (i : Int)) (hi : i ≤ n) (hn : n ≤ cp) :
    rec31.wp Tryz.prog (NPost fun a w' => ∃ l', a = Fr 560 ((14, .slice (some ⟨lb, lo, none⟩) i cp) :: l') f ∧ Keeps [] l f l' ∧ w' = w) (Fr 560 l f) w := by
  dsimp only [rec31, part, part.sub2', sub1, sub2, recBody, Tryz.f51, Option.getD]
  have hic : i ≤ cp := by omega
  go_wp
  exact NPost.mk ⟨_, rfl, (by repeat first | exact Keeps.refl _ _ _ | refine Keeps.far (by decide) ?_ | refine Keeps.set (by decide) ?_), rfl⟩
noncomputable def rec32 : Code := part [true, false, true, true, true, true, true, true, true, true, true, true, true, true, true, false, false, false, false, true, true, false, true, true, false, true, true] recBody
set_option maxRecDepth 100000 in
theorem rec_field32 (w : World) (l : List (Nat × Value)) (f : Nat → Value) (lb lo cp : Nat) (line : List UInt8) (h14 : lk l f 14 = .slice (some ⟨lb, lo, none⟩) line.length cp) (hm : BytesAt w lb lo line) (hn : line.length ≤ cp) (hcp : cp ≤ 9223372036854775807) :
    rec32.wp Tryz.prog (NPost fun a w' => ∃ l', a = Fr 560 ((14, .slice (some ⟨lb, lo, none⟩) (line.length - Csv.nlLen line) cp) :: l') f ∧ Keeps [] l f l' ∧ w' = w) (Fr 560 l f) w := by
  dsimp only [rec32, part, part.sub2', sub1, sub2, recBody, Tryz.f51, Option.getD]
  have cN := lengthNL_any w lb lo cp line hm hn hcp
  have hle := nlLen_le line
  obtain ⟨k, hk⟩ : ∃ k, k = line.length - Csv.nlLen line := ⟨_, rfl⟩
  have hs : (line.length : Int) - ((Csv.nlLen line : Nat) : Int) = (k : Int) := by omega
  have hkc : k ≤ cp := by omega
  rw [← hk]
  clear hm hk hle
  go_wp
  refine cN.mono ?_
  rintro e w1 ⟨rfl, rfl⟩
  dsimp only
  clear cN
  go_wp
  exact NPost.mk ⟨_, rfl, (by repeat first | exact Keeps.refl _ _ _ | refine Keeps.far (by decide) ?_ | refine Keeps.set (by decide) ?_), rfl⟩
noncomputable def rec36 : Code := part [true, false, true, true, true, true, true, true, true, true, true, true, true, true, true, false, false, false, false, true, true, false, true, true, true, false, true, false, true, true, false, false] recBody
set_option maxRecDepth 100000 in
theorem rec_col36 (w : World) (l : List (Nat × Value)) (f : Nat → Value) (pb pl pc j : Nat) (hp : lk l f 11 = .pointer (some ⟨pb, 0, none⟩)) (hpb : Blk w pb 128 (posCells (pl, pc))) (h15 : lk l f 15 = .int .i64 (j : Int)) (hb : pc + j < 9223372036854775807) :
    rec36.wp Tryz.prog (NPost fun a w' => ∃ l', a = Fr 560 ((16, i64v (pc + j)) :: l') f ∧ Keeps [] l f l' ∧ w' = w) (Fr 560 l f) w := by
  dsimp only [rec36, part, part.sub2', sub1, sub2, recBody, Tryz.f51, Option.getD]
  have hx := hpb.cell
  unfold posCells i64v at hx
  clear hpb
  go_wp
  exact NPost.mk ⟨_, rfl, (by repeat first | exact Keeps.refl _ _ _ | refine Keeps.far (by decide) ?_ | refine Keeps.set (by decide) ?_), rfl⟩
noncomputable def rec44 : Code := part [true, false, true, true, true, true, true, true, true, true, true, true, true, true, true, false, false, false, false, true, true, true, false] recBody
set_option maxRecDepth 100000 in
theorem rec_pos44 (w : World) (l : List (Nat × Value)) (f : Nat → Value) (pb : Nat) (q : Nat × Nat) (hp : lk l f 11 = .pointer (some ⟨pb, 0, none⟩)) (hpb : Blk w pb 128 (posCells q)) :
    rec44.wp Tryz.prog (NPost fun a w' => ∃ l', a = Fr 560 ((17, .pointer (some ⟨w.heap.size, 0, none⟩)) :: l') f ∧ Keeps [] l f l' ∧ Below w.heap.size w w' ∧ Blk w' w.heap.size 128 (posCells q)) (Fr 560 l f) w := by
  dsimp only [rec44, part, part.sub2', sub1, sub2, recBody, Tryz.f51, Option.getD]
  have hx := hpb.cell
  unfold posCells i64v at hx
  clear hpb
  go_wp
  exact NPost.mk ⟨_, rfl, (by repeat first | exact Keeps.refl _ _ _ | refine Keeps.far (by decide) ?_ | refine Keeps.set (by decide) ?_), (Below.refl _ w).alloc (Nat.le_refl _) _, Blk.new_arr w _ _⟩
noncomputable def rec52 : Code := part [true, false, true, true, true, true, true, true, true, true, true, true, true, true, true, false, false, false, false, true, true, true, true, true, true, false, false, false, true, true, false, true, true, true, false] recBody
set_option maxRecDepth 100000 in
theorem rec_next52 (B : Nat) (w : World) (l : List (Nat × Value)) (f : Nat → Value) (lb lo cp : Nat) (line : List UInt8) (hT : Tabs B w) (h6 : lk l f 6 = .slice (some ⟨lb, lo, none⟩) line.length cp) (hm : BytesAt w lb lo line) :
    rec52.wp Tryz.prog (NPost fun a w' => ∃ l', a = Fr 560 ((19, .int .i32 (nextR line)) :: l') f ∧ Keeps [] l f l' ∧ Below w.heap.size w w') (Fr 560 l f) w := by
  dsimp only [rec52, part, part.sub2', sub1, sub2, recBody, Tryz.f51, Option.getD]
  have cN := nextRune_any B w lb lo cp line hT hm
  clear hm hT
  go_wp
  refine cN.mono ?_
  rintro e w1 ⟨rfl, hb⟩
  dsimp only
  clear cN
  go_wp
  exact NPost.mk ⟨_, rfl, (by repeat first | exact Keeps.refl _ _ _ | refine Keeps.far (by decide) ?_ | refine Keeps.set (by decide) ?_), hb⟩
noncomputable def rec54 : Code := part [true, false, true, true, true, true, true, true, true, true, true, true, true, true, true, false, false, false, false, true, true, true, true, true, true, false, false, false, true, true, false, true, true, true, true, false, false] recBody
set_option maxRecDepth 100000 in
theorem rec_is54 (w : World) (l : List (Nat × Value)) (f : Nat → Value) (x : Int) (h : lk l f 19 = .int .i32 x) :
    rec54.wp Tryz.prog (NPost fun a w' => ∃ l', a = Fr 560 ((297, .bool (x == 34)) :: l') f ∧ Keeps [] l f l' ∧ w' = w) (Fr 560 l f) w := by
  dsimp only [rec54, part, part.sub2', sub1, sub2, recBody, Tryz.f51, Option.getD]
  go_wp
  exact NPost.mk ⟨_, rfl, (by repeat first | exact Keeps.refl _ _ _ | refine Keeps.far (by decide) ?_ | refine Keeps.set (by decide) ?_), rfl⟩
noncomputable def rec58 : Code := part [true, false, true, true, true, true, true, true, true, true, true, true, true, true, true, false, false, false, false, true, true, true, true, true, true, false, false, false, true, true, false, true, true, true, true, false, true, true, false] recBody
set_option maxRecDepth 100000 in
theorem rec_is58 (B : Nat) (G : Glob) (w : World) (c : CSt) (r : RSt) (l : List (Nat × Value)) (f : Nat → Value) (hc : RInv B G w c r) (h0 : lk l f 0 = .pointer (some ⟨c.cr, 0, none⟩)) (x : Int) (h : lk l f 19 = .int .i32 x) :
    rec58.wp Tryz.prog (NPost fun a w' => ∃ l', a = Fr 560 ((315, .bool (x == c.comma)) :: l') f ∧ Keeps [] l f l' ∧ w' = w) (Fr 560 l f) w := by
  dsimp only [rec58, part, part.sub2', sub1, sub2, recBody, Tryz.f51, Option.getD]
  have hcr := hc.l.cr.cell
  unfold crCells at hcr
  clear hc
  go_wp
  exact NPost.mk ⟨_, rfl, (by repeat first | exact Keeps.refl _ _ _ | refine Keeps.far (by decide) ?_ | refine Keeps.set (by decide) ?_), rfl⟩
noncomputable def rec63 : Code := part [true, false, true, true, true, true, true, true, true, true, true, true, true, true, true, false, false, false, false, true, true, true, true, true, true, false, false, false, true, true, false, true, true, true, true, false, true, true, true, true, false] recBody
set_option maxRecDepth 100000 in
theorem rec_is63 (w : World) (l : List (Nat × Value)) (f : Nat → Value) (lb lo cp : Nat) (line : List UInt8) (h6 : lk l f 6 = .slice (some ⟨lb, lo, none⟩) line.length cp) (hm : BytesAt w lb lo line) (hn : line.length ≤ cp) (hcp : cp ≤ 9223372036854775807) :
    rec63.wp Tryz.prog (NPost fun a w' => ∃ l', a = Fr 560 ((354, .bool (Csv.nlLen line == line.length)) :: l') f ∧ Keeps [] l f l' ∧ w' = w) (Fr 560 l f) w := by
  dsimp only [rec63, part, part.sub2', sub1, sub2, recBody, Tryz.f51, Option.getD]
  have cN := lengthNL_any w lb lo cp line hm hn hcp
  have hnb : (((Csv.nlLen line : Nat) : Int) == (line.length : Int)) = (Csv.nlLen line == line.length) := by
    rw [Bool.eq_iff_iff]
    simp only [beq_iff_eq]
    exact ⟨fun h => by exact_mod_cast h, fun h => by exact_mod_cast h⟩
  generalize (Csv.nlLen line == line.length) = t at hnb
  clear hm
  go_wp
  refine cN.mono ?_
  rintro e w1 ⟨rfl, rfl⟩
  dsimp only
  clear cN
  go_wp
  exact NPost.mk ⟨_, rfl, (by repeat first | exact Keeps.refl _ _ _ | refine Keeps.far (by decide) ?_ | refine Keeps.set (by decide) ?_), rfl⟩
/- Is anything left of the line? -/
noncomputable def rec68 : Code := part [true, false, true, true, true, true, true, true, true, true, true, true, true, true, true, false, false, false, false, true, true, true, true, true, true, false, false, false, true, true, true, false] recBody
set_option maxRecDepth 100000 in
theorem rec_some68 (w : World) (l : List (Nat × Value)) (f : Nat → Value) (A : Option Addr) (n cp : Nat) (h6 : lk l f 6 = .slice A n cp) :
    rec68.wp Tryz.prog (NPost fun a w' => ∃ l', a = Fr 560 ((400, .bool (decide (0 < n))) :: l') f ∧ Keeps [] l f l' ∧ w' = w) (Fr 560 l f) w := by
  dsimp only [rec68, part, part.sub2', sub1, sub2, recBody, Tryz.f51, Option.getD]
  go_wp
  exact NPost.mk ⟨_, rfl, (by repeat first | exact Keeps.refl _ _ _ | refine Keeps.far (by decide) ?_ | refine Keeps.set (by decide) ?_), rfl⟩
noncomputable def rec73 : Code := part [true, false, true, true, true, true, true, true, true, true, true, true, true, true, true, false, false, false, false, true, true, true, true, true, true, false, false, false, true, true, true, true, false, true, true, true, true, false, false] recBody
set_option maxRecDepth 100000 in
theorem rec_some73 (w : World) (l : List (Nat × Value)) (f : Nat → Value) (A : Option Addr) (n cp : Nat) (h6 : lk l f 6 = .slice A n cp) :
    rec73.wp Tryz.prog (NPost fun a w' => ∃ l', a = Fr 560 ((425, .bool (decide (0 < n))) :: l') f ∧ Keeps [] l f l' ∧ w' = w) (Fr 560 l f) w := by
  dsimp only [rec73, part, part.sub2', sub1, sub2, recBody, Tryz.f51, Option.getD]
  go_wp
  exact NPost.mk ⟨_, rfl, (by repeat first | exact Keeps.refl _ _ _ | refine Keeps.far (by decide) ?_ | refine Keeps.set (by decide) ?_), rfl⟩
noncomputable def rec70 : Code := part [true, false, true, true, true, true, true, true, true, true, true, true, true, true, true, false, false, false, false, true, true, true, true, true, true, false, false, false, true, true, true, true, false, true, false, false] recBody
set_option maxRecDepth 100000 in
theorem rec_err70 (w : World) (l : List (Nat × Value)) (f : Nat → Value) (h7 : lk l f 7 = .nilIface) :
    rec70.wp Tryz.prog (NPost fun a w' => ∃ l', a = Fr 560 ((411, .bool false) :: l') f ∧ Keeps [] l f l' ∧ w' = w) (Fr 560 l f) w := by
  dsimp only [rec70, part, part.sub2', sub1, sub2, recBody, Tryz.f51, Option.getD]
  go_wp
  exact NPost.mk ⟨_, rfl, (by repeat first | exact Keeps.refl _ _ _ | refine Keeps.far (by decide) ?_ | refine Keeps.set (by decide) ?_), rfl⟩
noncomputable def rec74 : Code := part [true, false, true, true, true, true, true, true, true, true, true, true, true, true, true, false, false, false, false, true, true, true, true, true, true, false, false, false, true, true, true, true, false, true, true, true, true, false, true, false] recBody
set_option maxRecDepth 100000 in
theorem rec_newline74 (w : World) (l : List (Nat × Value)) (f : Nat → Value) (pb pl pc : Nat) (hp : lk l f 11 = .pointer (some ⟨pb, 0, none⟩)) (hpb : Blk w pb 128 (posCells (pl, pc))) (hb : pl + 1 < 9223372036854775807) :
    rec74.wp Tryz.prog (NPost fun a w' => ∃ l', a = Fr 560 l' f ∧ Keeps [] l f l' ∧ w' = (w.setCell ⟨pb, 0, none⟩ (i64v (pl + 1))).setCell ⟨pb, 1, none⟩ (i64v 1)) (Fr 560 l f) w := by
  dsimp only [rec74, part, part.sub2', sub1, sub2, recBody, Tryz.f51, Option.getD]
  have hx := hpb.cell
  have hz := hpb.frozen
  unfold posCells i64v at hx
  clear hpb
  go_wp
  exact NPost.mk ⟨_, rfl, (by repeat first | exact Keeps.refl _ _ _ | refine Keeps.far (by decide) ?_ | refine Keeps.set (by decide) ?_), rfl⟩
noncomputable def rec76 : Code := part [true, false, true, true, true, true, true, true, true, true, true, true, true, true, true, false, false, false, false, true, true, true, true, true, true, false, false, false, true, true, true, true, false, true, true, true, true, true] recBody
set_option maxRecDepth 100000 in
theorem rec_eof76 (w : World) (G : Glob) (l : List (Nat × Value)) (f : Nat → Value) (b : Bool) (h7 : lk l f 7 = if b then errVal G.eof else .nilIface) (he : w.cell? ⟨0, 0, none⟩ = some (errVal G.eof)) :
    rec76.wp Tryz.prog (NPost fun a w' => ∃ l', a = Fr 560 l' f ∧ Keeps [7] l f l' ∧ lk l' f 7 = .nilIface ∧ w' = w) (Fr 560 l f) w := by
  dsimp only [rec76, part, part.sub2', sub1, sub2, recBody, Tryz.f51, Option.getD]
  cases b
  · simp only [Bool.false_eq_true, if_false] at h7
    have hq := eql_nil_left G.eof w
    go_wp
    refine wp_if_false rfl (by simp [lk]) ?_
    refine wp_skip ?_
    exact NPost.mk ⟨_, rfl, (by repeat first | exact Keeps.refl _ _ _ | refine Keeps.far (by decide) ?_ | refine Keeps.set (by decide) ?_), by simp [lk, h7], rfl⟩
  · simp only [if_true] at h7
    have hq := eql_same G.eof w
    go_wp
    refine wp_if_true rfl (by simp [lk]) ?_
    go_wp
    exact NPost.mk ⟨_, rfl, (by repeat first | exact Keeps.refl _ _ _ | refine Keeps.far (by decide) ?_ | refine Keeps.set (by decide) ?_), by simp [lk], rfl⟩
/- Leading white space. -/
noncomputable def rec21 : Code := part [true, false, true, true, true, true, true, true, true, true, true, true, true, true, true, false, false, false, false, false, true, false, false] recBody
set_option maxRecDepth 100000 in
theorem rec_space21 (B : Nat) (w : World) (l : List (Nat × Value)) (f : Nat → Value) (lb lo cp : Nat) (line : List UInt8) (hT : Tabs B w) (h6 : lk l f 6 = .slice (some ⟨lb, lo, none⟩) line.length cp) (hm : BytesAt w lb lo line) (hn : line.length ≤ cp) (hcp : cp ≤ 9223372036854775807) :
    rec21.wp Tryz.prog (NPost fun a w' => ∃ l', a = Fr 560 ((12, .int .i64 (goIdx (Csv.spaceEnd line.length line))) :: l') f ∧ Keeps [] l f l' ∧ Below w.heap.size w w') (Fr 560 l f) w := by
  dsimp only [rec21, part, part.sub2', sub1, sub2, recBody, Tryz.f51, Option.getD]
  have cI := IndexFunc_any B lb lo cp line w hm hn hcp hT
  clear hm hT
  go_wp
  refine cI.mono ?_
  rintro e w1 ⟨rfl, hb⟩
  dsimp only
  clear cI
  go_wp
  exact NPost.mk ⟨_, rfl, (by repeat first | exact Keeps.refl _ _ _ | refine Keeps.far (by decide) ?_ | refine Keeps.set (by decide) ?_), hb⟩
noncomputable def rec22 : Code := part [true, false, true, true, true, true, true, true, true, true, true, true, true, true, true, false, false, false, false, false, true, false, true, false, false] recBody
set_option maxRecDepth 100000 in
theorem rec_there22 (w : World) (l : List (Nat × Value)) (f : Nat → Value) (x : Option Nat) (h : lk l f 12 = .int .i64 (goIdx x)) :
    rec22.wp Tryz.prog (NPost fun a w' => ∃ l', a = Fr 560 ((136, .bool x.isNone) :: l') f ∧ Keeps [] l f l' ∧ w' = w) (Fr 560 l f) w := by
  dsimp only [rec22, part, part.sub2', sub1, sub2, recBody, Tryz.f51, Option.getD]
  cases x with
  | none =>
    simp only [goIdx] at h
    go_wp
    exact NPost.mk ⟨_, rfl, (by repeat first | exact Keeps.refl _ _ _ | refine Keeps.far (by decide) ?_ | refine Keeps.set (by decide) ?_), rfl⟩
  | some i =>
    simp only [goIdx] at h
    go_wp
    exact NPost.mk ⟨_, rfl, (by repeat first | exact Keeps.refl _ _ _ | refine Keeps.far (by decide) ?_ | refine Keeps.set (by decide) ?_), rfl⟩
noncomputable def rec23 : Code := part [true, false, true, true, true, true, true, true, true, true, true, true, true, true, true, false, false, false, false, false, true, false, true, false, true, false, false] recBody
set_option maxRecDepth 100000 in
theorem rec_len23 (w : World) (l : List (Nat × Value)) (f : Nat → Value) (A : Option Addr) (n cp : Nat) (h6 : lk l f 6 = .slice A n cp) :
    rec23.wp Tryz.prog (NPost fun a w' => ∃ l', a = Fr 560 ((12, .int .i64 (n : Int)) :: l') f ∧ Keeps [] l f l' ∧ w' = w) (Fr 560 l f) w := by
  dsimp only [rec23, part, part.sub2', sub1, sub2, recBody, Tryz.f51, Option.getD]
  go_wp
  exact NPost.mk ⟨_, rfl, (by repeat first | exact Keeps.refl _ _ _ | refine Keeps.far (by decide) ?_ | refine Keeps.set (by decide) ?_), rfl⟩
noncomputable def rec24 : Code := part [true, false, true, true, true, true, true, true, true, true, true, true, true, true, true, false, false, false, false, false, true, false, true, false, true, false, true] recBody
set_option maxRecDepth 100000 in
set_option maxHeartbeats 1000000 in
theorem rec_col24 (w : World) (l : List (Nat × Value)) (f : Nat → Value) (pb pl pc : Nat) (hp : lk l f 11 = .pointer (some ⟨pb, 0, none⟩)) (hpb : Blk w pb 128 (posCells (pl, pc))) (lb lo cp : Nat) (line : List UInt8) (h6 : lk l f 6 = .slice (some ⟨lb, lo, none⟩) line.length cp) (hm : BytesAt w lb lo line) (hn : line.length ≤ cp) (hcp : cp ≤ 9223372036854775807)
    (hnl : Csv.nlLen line ≤ pc) (hpc : pc < 9223372036854775807) :
    rec24.wp Tryz.prog (NPost fun a w' => ∃ l', a = Fr 560 l' f ∧ Keeps [] l f l' ∧ w' = w.drew.setCell ⟨pb, 1, none⟩ (i64v (pc - Csv.nlLen line))) (Fr 560 l f) w := by
  dsimp only [rec24, part, part.sub2', sub1, sub2, recBody, Tryz.f51, Option.getD]
  have cN := lengthNL_any w.drew lb lo cp line hm hn hcp
  obtain ⟨k, hk⟩ : ∃ k, k = pc - Csv.nlLen line := ⟨_, rfl⟩
  have hs : (pc : Int) - ((Csv.nlLen line : Nat) : Int) = (k : Int) := by omega
  rw [← hk]
  have hkb : k < 9223372036854775807 := by omega
  clear hm hk hnl
  refine held_start (fun w' => Blk w' pb 128 (posCells (pl, pc))) [6] mixed ?_
  have hpb1 := hpb.drew
  refine take 0 _ _ ?tv1 rfl rfl (by kernel_rfl) hpb1 (by intro c a d v w h; cases d <;> exact h) ?th1 ?tn1
  case th1 => intro w' hS K hK; have hc := Blk.cell hS; unfold posCells i64v at hc; go_simp; exact hK
  refine take 1 _ _ ?tv2 rfl rfl (by kernel_rfl) hpb1 (by intro c a d v w h; cases d <;> exact h) ?th2 ?tn2
  case th2 => intro w' hS K hK; have hc := Blk.cell hS; unfold posCells i64v at hc; go_simp; exact hK
  refine take 2 _ _ ?tv3 rfl rfl (by kernel_rfl) hpb1 (by intro c a d v w h; cases d <;> exact h) ?th3 ?tn3
  case th3 => intro w' hS K hK; have hc := Blk.cell hS; unfold posCells i64v at hc; go_simp; exact hK
  refine held_alone 3 _ rfl (by kernel_rfl) ?_
  go_wp
  refine cN.mono ?_
  rintro e w1 ⟨rfl, rfl⟩
  dsimp only
  clear cN
  go_wp
  refine ⟨fun _ => hpb1, ?_⟩
  refine take 4 _ _ ?tv4 rfl rfl (by kernel_rfl) hpb1 (by intro c a d v w h; cases d <;> exact h) ?th4 ?tn4
  case th4 => intro w' hS K hK; go_simp; exact hK
  refine held_alone 5 _ rfl (by kernel_rfl) ?_
  go_wp
  refine ⟨fun _ => hpb1, ?_⟩
  refine held_alone 6 _ rfl (by kernel_rfl) ?_
  have hx := hpb.cell
  have hz := hpb.frozen
  unfold posCells i64v at hx
  clear hpb1 hpb
  go_wp
  refine ⟨fun h => absurd h (by decide), ?_⟩
  refine held_done (by kernel_rfl) ?_
  exact NPost.mk ⟨_, rfl, (by repeat first | exact Keeps.refl _ _ _ | refine Keeps.far (by decide) ?_ | refine Keeps.set (by decide) ?_), rfl⟩
end Go.Proofs.YtfadgnopfjajbaaGreatDoor
namespace Go.Proofs.YtfadgnopfjajbaaGreatDoor
open Go.RowKit
/-- The reader's blocks were written, or new ones taken. -/
structure Grows (w : World) (c : CSt) (w' : World) (c' : CSt) : Prop where
  only : Only c.rown w w'
  root : ∀ k, c'.rown k → c.rown k ∨ w.heap.size ≤ k
section
variable {B : Nat} {G : Glob} {w0 w w' : World} {c0 c c' : CSt} {r r' : RSt}
theorem Grows.below (hb : Below w.heap.size w w') : Grows w c w' c := ⟨(Only.of_below hb).mono (fun k hk h => absurd hk (by omega)), fun _ h => .inl h⟩
theorem root_some {v v' : Value} {k : Nat} (hv : v'.ownBlock = v.ownBlock ∨ ∃ g, v'.ownBlock = some g ∧ w.heap.size ≤ g) (hk : v'.ownBlock = some k) : v.ownBlock = some k ∨ w.heap.size ≤ k := by
  rcases hv with e | ⟨g, e, hg⟩
  · exact .inl (e.symm.trans hk)
  · have : some g = some k := e.symm.trans hk
    injection this with this
    exact .inr (by omega)
theorem Grows.idx {v' : Value} (hO : Only (fun k => k = c.cr ∨ c.idx.ownBlock = some k) w w') (hv : v'.ownBlock = c.idx.ownBlock ∨ ∃ g, v'.ownBlock = some g ∧ w.heap.size ≤ g) : Grows w c w' { c with idx := v' } := by
  refine ⟨hO.mono (fun k _ h => h.elim (fun e => .inl (.inl e)) (fun e => .inr (.inr (.inl e)))), ?_⟩
  rintro k (hk | hk | hk | hk)
  · exact .inl (.inl hk)
  · exact .inl (.inr (.inl hk))
  · exact (root_some hv hk).imp (fun e => .inr (.inr (.inl e))) id
  · exact .inl (.inr (.inr (.inr hk)))
theorem Grows.pos {v' : Value} (hO : Only (fun k => k = c.cr ∨ c.pos.ownBlock = some k) w w') (hv : v'.ownBlock = c.pos.ownBlock ∨ ∃ g, v'.ownBlock = some g ∧ w.heap.size ≤ g) : Grows w c w' { c with pos := v' } := by
  refine ⟨hO.mono (fun k _ h => h.elim (fun e => .inl (.inl e)) (fun e => .inr (.inr (.inr e)))), ?_⟩
  rintro k (hk | hk | hk | hk)
  · exact .inl (.inl hk)
  · exact .inl (.inr (.inl hk))
  · exact .inl (.inr (.inr (.inl hk)))
  · exact (root_some hv hk).imp (fun e => .inr (.inr (.inr e))) id
theorem Grows.buf {v' : Value} (hO : Only (fun k => k = c.cr ∨ c.rbuf.ownBlock = some k) w w') (hv : v'.ownBlock = c.rbuf.ownBlock ∨ ∃ g, v'.ownBlock = some g ∧ w.heap.size ≤ g) : Grows w c w' { c with rbuf := v' } := by
  refine ⟨hO.mono (fun k _ h => h.elim (fun e => .inl (.inl e)) (fun e => .inr (.inl e))), ?_⟩
  rintro k (hk | hk | hk | hk)
  · exact .inl (.inl hk)
  · exact (root_some hv hk).imp (fun e => .inr (.inl e)) id
  · exact .inl (.inr (.inr (.inl hk)))
  · exact .inl (.inr (.inr (.inr hk)))
/-- A position that the call holds by itself. -/
structure Loose (w0 w : World) (c : CSt) (k : Nat) (q : Nat × Nat) : Prop where
  blk : Blk w k 128 (posCells q)
  new : w0.heap.size ≤ k
  far : ¬ c.rown k
theorem Loose.next {k : Nat} {q : Nat × Nat} (h : Loose w0 w c k q) (hg : Grows w c w' c') : Loose w0 w' c' k q :=
  ⟨h.blk.only hg.only h.far, h.new, fun o => (hg.root k o).elim h.far (fun hk => by have := h.blk.lt; omega)⟩
/-- The line stands where a row has grown. -/
theorem LineAt.row {line : List UInt8} {lb lo cp : Nat} (h : LineAt w c line lb lo cp) (hi : LInv B G w c) {row : Option Nat} (hrow : ∀ k, row = some k → ¬ c.lown k) (hO : Only (fun k => k = c.cr ∨ row = some k) w w') (eb : c'.b = c.b) (er : c'.raw = c.raw) : LineAt w' c' line lb lo cp := by
  refine ⟨h.at_.keep (hO.block lb (h.lt hi) ?_), h.len, h.cap, by rw [eb, er]; exact h.spot⟩
  have hl : c.lown lb := h.spot.elim (fun e => .inr (.inl (.inr (.inl e)))) (fun e => .inr (.inr e))
  rintro (e | e)
  · rcases h.spot with e' | e'
    · exact hi.cr_ne (.inr (.inl (e.symm.trans e')))
    · exact (hi.raw_ne lb e').2 e
  · exact hrow lb e hl
theorem LineAt.far {line : List UInt8} {lb lo cp : Nat} (h : LineAt w c line lb lo cp) (hi : LInv B G w c) {S : Nat → Prop} (hS : ∀ k, S k → ¬ c.lown k) (hO : Only S w w') : LineAt w' c line lb lo cp :=
  ⟨h.at_.keep (hO.block lb (h.lt hi) (fun s => hS lb s (h.spot.elim (fun e => .inr (.inl (.inr (.inl e)))) (fun e => .inr (.inr e))))), h.len, h.cap, h.spot⟩

/-- Between two steps: the reader, the position, the line. -/
structure Core (B : Nat) (G : Glob) (w0 : World) (c0 : CSt) (w : World) (c : CSt) (r : RSt) (pb : Nat) (q : Nat × Nat) (line : List UInt8) (lb lo cp : Nat) : Prop where
  st : Stand B G w0 c0 w c r
  pos : Loose w0 w c pb q
  line : LineAt w c line lb lo cp
  low : B ≤ w0.heap.size
variable {pb lb lo cp : Nat} {q : Nat × Nat} {line : List UInt8}
theorem Core.below (h : Core B G w0 c0 w c r pb q line lb lo cp) (hb : Below w.heap.size w w') : Core B G w0 c0 w' c r pb q line lb lo cp :=
  ⟨h.st.below hb, h.pos.next (Grows.below hb), h.line.below h.st.inv.l hb, h.low⟩
theorem Core.cut (h : Core B G w0 c0 w c r pb q line lb lo cp) {line' : List UInt8} {lo' cp' : Nat} (hl : LineAt w c line' lb lo' cp') : Core B G w0 c0 w c r pb q line' lb lo' cp' := ⟨h.st, h.pos, hl, h.low⟩
theorem Core.idx (h : Core B G w0 c0 w c r pb q line lb lo cp) {v' : Value} (hi : RInv B G w' { c with idx := v' } r') (hO : Only (fun k => k = c.cr ∨ c.idx.ownBlock = some k) w w') (hv : v'.ownBlock = c.idx.ownBlock ∨ ∃ g, v'.ownBlock = some g ∧ w.heap.size ≤ g) : Core B G w0 c0 w' { c with idx := v' } r' pb q line lb lo cp :=
  ⟨h.st.idx hi hO hv, h.pos.next (Grows.idx hO hv), h.line.row h.st.inv.l (fun k hk => (h.st.inv.idx_far k hk).2) hO rfl rfl, h.low⟩
theorem Core.posr (h : Core B G w0 c0 w c r pb q line lb lo cp) {v' : Value} (hi : RInv B G w' { c with pos := v' } r') (hO : Only (fun k => k = c.cr ∨ c.pos.ownBlock = some k) w w') (hv : v'.ownBlock = c.pos.ownBlock ∨ ∃ g, v'.ownBlock = some g ∧ w.heap.size ≤ g) : Core B G w0 c0 w' { c with pos := v' } r' pb q line lb lo cp :=
  ⟨h.st.posr hi hO hv, h.pos.next (Grows.pos hO hv), h.line.row h.st.inv.l (fun k hk => (h.st.inv.pos_far k hk).2) hO rfl rfl, h.low⟩
theorem Core.bufr (h : Core B G w0 c0 w c r pb q line lb lo cp) {v' : Value} (hi : RInv B G w' { c with rbuf := v' } r') (hO : Only (fun k => k = c.cr ∨ c.rbuf.ownBlock = some k) w w') (hv : v'.ownBlock = c.rbuf.ownBlock ∨ ∃ g, v'.ownBlock = some g ∧ w.heap.size ≤ g) : Core B G w0 c0 w' { c with rbuf := v' } r' pb q line lb lo cp :=
  ⟨h.st.bufr hi hO hv, h.pos.next (Grows.buf hO hv), h.line.row h.st.inv.l (fun k hk => (h.st.inv.rbuf_far k hk).2) hO rfl rfl, h.low⟩
/-- The position is written. -/
theorem Core.poke (h : Core B G w0 c0 w c r pb q line lb lo cp) {q' : Nat × Nat} (hO : Only (fun k => k = pb) w w') (hb : Blk w' pb 128 (posCells q')) : Core B G w0 c0 w' c r pb q' line lb lo cp := by
  have hf : ∀ k, k = pb → ¬ c.rown k := fun k e => by subst e; exact h.pos.far
  have hB : B ≤ pb := Nat.le_trans h.low h.pos.new
  have hi : RInv B G w' c r := h.st.inv.only hO (fun k e => ⟨by subst e; exact hB, hf k e⟩)
  refine ⟨⟨hi, h.st.same, h.st.only.trans hO (fun k hk e => ?_), h.st.root⟩, ⟨hb, h.pos.new, h.pos.far⟩, h.line.far h.st.inv.l (fun k e o => hf k e (.inl o)) hO, h.low⟩
  subst e
  have := h.pos.new
  omega
theorem Core.col (h : Core B G w0 c0 w c r pb q line lb lo cp) (n : Nat) : Core B G w0 c0 (w.setCell ⟨pb, 1, none⟩ (i64v n)) c r pb (q.1, n) line lb lo cp :=
  h.poke ((Only.refl (fun k => k = pb) w).setCell (p := ⟨pb, 1, none⟩) (fun _ => rfl) _) (h.pos.blk.set 1 _)
/-- A further line is read. -/
theorem Core.next (h : Core B G w0 c0 w c r pb q line lb lo cp) {lv ev : Value} (hp : LinePost B G w c (.returned (.tuple #[lv, ev])) w') :
    ∃ (c' : CSt) (lb lo cp : Nat), Core B G w0 c0 w' c' r pb q (srcOf c).line lb lo cp ∧ lv = .slice (some ⟨lb, lo, none⟩) (srcOf c).line.length cp ∧ ev = (if c.b.rest.isEmpty then errVal G.eof else .nilIface) ∧ srcOf c' = (srcOf c).next ∧ Grows w c w' c' ∧
      c'.pos = c.pos ∧ c'.idx = c.idx ∧ c'.rbuf = c.rbuf := by
  obtain ⟨c', lb, lo, cp, h1, h2, h3, h4, h5, h6, h7, h8, h9, h10⟩ := h.st.line hp
  have hg : Grows w c w' c' := ⟨h6.mono (fun k _ h => .inl h), h10⟩
  exact ⟨c', lb, lo, cp, ⟨h1, h.pos.next hg, h4, h.low⟩, h2, h3, h5, hg, h7, h8, h9⟩
theorem Loose.poke {k : Nat} {p : Nat × Nat} (h : Loose w0 w c k p) (hne : k ≠ pb) (hO : Only (fun k => k = pb) w w') : Loose w0 w' c k p := ⟨h.blk.only hO hne, h.new, h.far⟩
theorem Loose.col {k : Nat} {p : Nat × Nat} (h : Loose w0 w c k p) (hne : k ≠ pb) (v : Value) (j : Nat) : Loose w0 (w.setCell ⟨pb, j, none⟩ v) c k p :=
  h.poke hne ((Only.refl (fun k => k = pb) w).setCell (p := ⟨pb, j, none⟩) (fun _ => rfl) _)
end
/-- The variables of the call. -/
structure Tl (l : List (Nat × Value)) (f : Nat → Value) (cr : Nat) (dst : Value) (n rec pb : Nat) (lv : Value) : Prop where
  h0 : lk l f 0 = .pointer (some ⟨cr, 0, none⟩)
  h1 : lk l f 1 = dst
  h6 : lk l f 6 = lv
  h7 : lk l f 7 = .nilIface
  h8 : lk l f 8 = .nilIface
  h9 : lk l f 9 = .int .i64 (n : Int)
  h10 : lk l f 10 = .int .i64 (rec : Int)
  h11 : lk l f 11 = .pointer (some ⟨pb, 0, none⟩)
section
variable {l l' : List (Nat × Value)} {f : Nat → Value} {cr : Nat} {dst : Value} {n rec pb : Nat} {lv : Value}
theorem Tl.keep (h : Tl l f cr dst n rec pb lv) (hk : Keeps [] l f l') : Tl l' f cr dst n rec pb lv :=
  ⟨by rw [hk 0 (by omega) rfl]; exact h.h0, by rw [hk 1 (by omega) rfl]; exact h.h1, by rw [hk 6 (by omega) rfl]; exact h.h6, by rw [hk 7 (by omega) rfl]; exact h.h7, by rw [hk 8 (by omega) rfl]; exact h.h8,
   by rw [hk 9 (by omega) rfl]; exact h.h9, by rw [hk 10 (by omega) rfl]; exact h.h10, by rw [hk 11 (by omega) rfl]; exact h.h11⟩
theorem Tl.far (h : Tl l f cr dst n rec pb lv) {j : Nat} {v : Value} (hj : decide (12 ≤ j) = true) : Tl ((j, v) :: l) f cr dst n rec pb lv := by
  simp at hj
  have e : ∀ k, k < 12 → lk ((j, v) :: l) f k = lk l f k := fun k hk => lk_ne _ _ _ _ _ (by simp; omega)
  exact ⟨by rw [e 0 (by omega)]; exact h.h0, by rw [e 1 (by omega)]; exact h.h1, by rw [e 6 (by omega)]; exact h.h6, by rw [e 7 (by omega)]; exact h.h7, by rw [e 8 (by omega)]; exact h.h8, by rw [e 9 (by omega)]; exact h.h9, by rw [e 10 (by omega)]; exact h.h10, by rw [e 11 (by omega)]; exact h.h11⟩
theorem Tl.line (h : Tl l f cr dst n rec pb lv) (v : Value) : Tl ((6, v) :: l) f cr dst n rec pb v :=
  ⟨by rw [lk_ne _ _ _ _ _ rfl]; exact h.h0, by rw [lk_ne _ _ _ _ _ rfl]; exact h.h1, lk_same _ _ _ _, by rw [lk_ne _ _ _ _ _ rfl]; exact h.h7, by rw [lk_ne _ _ _ _ _ rfl]; exact h.h8, by rw [lk_ne _ _ _ _ _ rfl]; exact h.h9, by rw [lk_ne _ _ _ _ _ rfl]; exact h.h10, by rw [lk_ne _ _ _ _ _ rfl]; exact h.h11⟩
end
end Go.Proofs.YtfadgnopfjajbaaGreatDoor
