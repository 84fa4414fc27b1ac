/- A part of the proof: Scan: parts of a round. Scan: further parts of a round. Scan: the round's beginning and end. The thin package's Spoil: strings.Repeat and strings.Split. The thin package's Spoil, its walk. Scan: ahead of the loop. Scan: a round is closed. -/
import Derived.Test.YtfadgnopfjajbaaGreatDoorP12
import Derived.Shelf.Strings.Repeat
import Derived.Shelf.Strings.Split
namespace Go.Proofs.YtfadgnopfjajbaaGreatDoor
open Go.RowKit
/-- The slots that hold variables. -/
def sVar (k : Nat) : Bool := decide (k < 16) || [62, 63, 64, 70, 131, 132].contains k
def SKeeps (S : List Nat) (l : List (Nat × Value)) (f : Nat → Value) (l' : List (Nat × Value)) : Prop := ∀ k, sVar k = true → S.contains k = false → lk l' f k = lk l f k
theorem SKeeps.refl (S : List Nat) (l : List (Nat × Value)) (f : Nat → Value) : SKeeps S l f l := fun _ _ _ => rfl
theorem SKeeps.far {S : List Nat} {l l' : List (Nat × Value)} {f : Nat → Value} {j : Nat} {v : Value} (hj : sVar j = false) (h : SKeeps S l f l') : SKeeps S l f ((j, v) :: l') := fun k hk hs => by
  rw [lk_ne _ _ _ _ _ (by simp; intro e; subst e; rw [hk] at hj; cases hj)]
  exact h k hk hs
theorem SKeeps.set {S : List Nat} {l l' : List (Nat × Value)} {f : Nat → Value} {j : Nat} {v : Value} (hj : S.contains j = true) (h : SKeeps S l f l') : SKeeps S l f ((j, v) :: l') := fun k hk hs => by
  rw [lk_ne _ _ _ _ _ (by simp; intro e; subst e; rw [hj] at hs; cases hs)]
  exact h k hk hs
noncomputable def scanBody : Code := (Tryz.f6.body).getD .skip
noncomputable def sc15 : Code := part [true, true, true, true, true, true, true, false, true, false, false, true, true, false, false, true, true, true, false, true, false, true, false, false] scanBody
set_option maxRecDepth 100000 in
theorem scan_p15 (w : World) (l : List (Nat × Value)) (f : Nat → Value) (cr : Nat) (R : Value → Value → World → Prop) (h7 : lk l f 7 = .pointer (some ⟨cr, 0, none⟩)) (hR : Calls Tryz.prog 26 [.pointer (some ⟨cr, 0, none⟩)].toArray w fun e w' => ∃ dv ev, e = .returned (.tuple #[dv, ev]) ∧ R dv ev w') :
    sc15.wp Tryz.prog (NPost fun a w' => ∃ l' dv ev, a = Fr 146 l' f ∧ SKeeps [9, 14] l f l' ∧ lk l' f 9 = dv ∧ lk l' f 14 = ev ∧ R dv ev w') (Fr 146 l f) w := by
  dsimp only [sc15, scanBody, part, part.sub2', sub1, sub2, Tryz.f6, Option.getD]
  go_wp
  refine hR.mono ?_
  rintro e w1 ⟨dv, ev, rfl, hr⟩
  dsimp only
  have H := Lib.hid hr
  clear hr hR
  go_wp
  exact NPost.mk ⟨_, dv, ev, rfl, (by repeat first | exact SKeeps.refl _ _ _ | refine SKeeps.far (by decide) ?_ | refine SKeeps.set (by decide) ?_), by simp [lk], by simp [lk], H.out⟩
noncomputable def sc16 : Code := part [true, true, true, true, true, true, true, false, true, false, false, true, true, false, false, true, true, true, false, true, false, true, false, true] scanBody
set_option maxRecDepth 100000 in
set_option maxHeartbeats 1000000 in
theorem scan_p16 (B : Nat) (G : Glob) (w0 w : World) (l : List (Nat × Value)) (f : Nat → Value) (dv ev : Value) (fs : List (List UInt8)) (fl : Csv.Fail) (ab kb i n : Nat) (ks : List Value) (h9 : lk l f 9 = dv) (h14 : lk l f 14 = ev) (h13 : lk l f 13 = .pointer (some ⟨ab, 0, none⟩)) (h10 : lk l f 10 = .slice (some ⟨kb, 0, none⟩) n n) (h11 : lk l f 11 = .int .i64 (i : Int))
    (hs : StrS B w dv fs) (hlen : fs.length < 1099511627776) (hG : GInv B w G) (hE : ETy B w) (hB : B ≤ w.heap.size) (he : ErrOut G w0 w ev fl) (hab : Blk w ab 53 ansZero) (hkb : Blk w kb 36 ks) (hi : i < n) (hn : ks.length = n) :
    sc16.wp Tryz.prog (NPost fun a w' => ∃ l' rv, a = Fr 146 l' f ∧ SKeeps [] l f l' ∧ Only (fun k => k = ab ∨ k = kb) w w' ∧ Blk w' ab 53 (ansCells rv (.slice none 0 0) (.slice none 0 0) fl.kind fl.start fl.line fl.col 0 0 false 0) ∧ Blk w' kb 36 (ks.set i dv) ∧ StrS w.heap.size w' rv fs) (Fr 146 l f) w := by
  dsimp only [sc16, scanBody, part, part.sub2', sub1, sub2, Tryz.f6, Option.getD]
  have cC := clone_any B w dv fs hs hlen
  obtain ⟨A0, c0, hdv, _⟩ := hs.form
  have hne : ab ≠ kb := hab.ne hkb (by decide)
  have HS := Lib.hid (And.intro hG (And.intro hE (And.intro he (And.intro hab (And.intro hkb (And.intro hs hne))))))
  rw [hdv] at h9 cC
  clear hs hG hE he hab hkb hne
  go_wp
  refine cC.mono ?_
  rintro e w1 ⟨rv, rfl, hrv, hb1⟩
  dsimp only
  obtain ⟨hG, hE, he, hab, hkb, hs, hne⟩ := HS.out
  have hbB := hb1.mono hB
  have he1 : ErrOut G w0 w1 ev fl := he.only (Only.of_below hb1) (fun k _ hb s => by obtain ⟨cs, hb⟩ := hb; have := hb.lt; omega)
  have cF := failure_any B G w0 w1 ev fl (hG.keep hbB) (hE.keep hbB) (Nat.le_trans hB hb1.size) he1
  obtain ⟨A1, c1, hrvf, _⟩ := hrv.form
  have HR := Lib.hid (And.intro hrv (And.intro hb1 hrvf))
  rw [hrvf]
  clear cC hrv hb1 hbB he1 hG hE he hab hkb hs hne hrvf
  go_wp
  refine cF.mono ?_
  rintro e w2 ⟨rfl, hb2⟩
  dsimp only
  obtain ⟨hG, hE, he, hab, hkb, hs, hne⟩ := HS.out
  obtain ⟨hrv, hb1, hrvf⟩ := HR.out
  have hab2 := (hab.below hb1 hab.lt).below hb2 (Nat.lt_of_lt_of_le hab.lt hb1.size)
  have hkb2 := (hkb.below hb1 hkb.lt).below hb2 (Nat.lt_of_lt_of_le hkb.lt hb1.size)
  have hrv2 : StrS w.heap.size w2 rv fs := hrv.below hb2 (fun k hk => (own_lt hrv hk).2)
  have hz1 := hab2.frozen
  have hc1 := hab2.cell
  have hz2 := hkb2.frozen i
  have hc2 := hkb2.cell i
  rw [List.getElem?_eq_getElem (by omega)] at hc2
  have HW := Lib.hid (And.intro hab2 (And.intro hkb2 (And.intro hrv2 (And.intro hb1 hb2))))
  unfold ansZero ansCells i64v at hc1
  unfold failV i64v
  clear cF hG hE he hab hkb hs hrv hb1 hb2 hab2 hkb2 hrv2 hrvf
  go_wp
  obtain ⟨hab2, hkb2, hrv2, hb1, hb2⟩ := HW.out
  obtain ⟨_, _, hrvf⟩ := HR.out
  rw [← hdv, ← hrvf]
  have hOw : Only (fun k => k = ab ∨ k = kb) w w2 := ((Only.of_below hb1).mono (fun k hk h => absurd hk (by omega))).trans ((Only.of_below hb2).mono (T := fun k => k = ab ∨ k = kb) (fun k hk h => absurd hk (by omega))) (fun k _ h => h)
  have hOs : Only (fun k => k = ab ∨ k = kb) w2 ((((((w2.setCell ⟨ab, 0, none⟩ rv).setCell ⟨ab, 3, none⟩ (i64v fl.kind)).setCell ⟨ab, 4, none⟩ (i64v fl.start)).setCell ⟨ab, 5, none⟩ (i64v fl.line)).setCell ⟨ab, 6, none⟩ (i64v fl.col)).setCell ⟨kb, i, none⟩ dv) :=
    ((((((Only.refl (fun k => k = ab ∨ k = kb) w2).setCell (p := ⟨ab, 0, none⟩) (fun _ => .inl rfl) _).setCell (p := ⟨ab, 3, none⟩) (fun _ => .inl rfl) _).setCell (p := ⟨ab, 4, none⟩) (fun _ => .inl rfl) _).setCell (p := ⟨ab, 5, none⟩) (fun _ => .inl rfl) _).setCell (p := ⟨ab, 6, none⟩) (fun _ => .inl rfl) _).setCell (p := ⟨kb, i, none⟩) (fun _ => .inr rfl) _
  refine NPost.mk ⟨_, rv, rfl, (by repeat first | exact SKeeps.refl _ _ _ | refine SKeeps.far (by decide) ?_ | refine SKeeps.set (by decide) ?_), hOw.then hOs, ?_, ?_, hrv2.only hOs (fun k hk h => ?_)⟩
  · exact (((((hab2.set 0 rv).set 3 (i64v fl.kind)).set 4 (i64v fl.start)).set 5 (i64v fl.line)).set 6 (i64v fl.col)).far (p := ⟨kb, i, none⟩) hne _
  · exact (((((hkb2.far (p := ⟨ab, 0, none⟩) (Ne.symm hne) _).far (p := ⟨ab, 3, none⟩) (Ne.symm hne) _).far (p := ⟨ab, 4, none⟩) (Ne.symm hne) _).far (p := ⟨ab, 5, none⟩) (Ne.symm hne) _).far (p := ⟨ab, 6, none⟩) (Ne.symm hne) _).set i dv
  · rcases h with h | h
    · exact own_ne hrv2 hab2 (by decide) (by rw [hk, h])
    · exact own_ne hrv2 hkb2 (by decide) (by rw [hk, h])
end Go.Proofs.YtfadgnopfjajbaaGreatDoor
namespace Go.Proofs.YtfadgnopfjajbaaGreatDoor
open Go.RowKit
noncomputable def sc18 : Code := part [true, true, true, true, true, true, true, false, true, false, false, true, true, false, false, true, true, true, false, true, false, true, true, true, false, false] scanBody
set_option maxRecDepth 100000 in
theorem scan_p18 (w : World) (l : List (Nat × Value)) (f : Nat → Value) (cr ab : Nat) (R : Value → Value → World → Prop) (h7 : lk l f 7 = .pointer (some ⟨cr, 0, none⟩)) (h13 : lk l f 13 = .pointer (some ⟨ab, 0, none⟩))
    (hR : Calls Tryz.prog 29 [.pointer (some ⟨cr, 0, none⟩)].toArray w fun e w' => ∃ v ev, e = .returned (.tuple #[v, ev]) ∧ (∃ A n c, v = .slice A n c) ∧ Blk w' ab 53 ansZero ∧ R v ev w') :
    sc18.wp Tryz.prog (NPost fun a w' => ∃ l' v ev w1, a = Fr 146 l' f ∧ SKeeps [14] l f l' ∧ lk l' f 14 = ev ∧ R v ev w1 ∧ Blk w1 ab 53 ansZero ∧ w' = w1.setCell ⟨ab, 2, none⟩ v) (Fr 146 l f) w := by
  dsimp only [sc18, scanBody, part, part.sub2', sub1, sub2, Tryz.f6, Option.getD]
  go_wp
  refine hR.mono ?_
  rintro e w1 ⟨v, ev, rfl, ⟨A, n, c, hv⟩, hab, hr⟩
  dsimp only
  have hz := hab.frozen
  have hc := hab.cell
  unfold ansZero ansCells i64v at hc
  have H := Lib.hid (And.intro hr hab)
  rw [hv]
  clear hr hR hab
  go_wp
  rw [← hv]
  exact NPost.mk ⟨_, v, ev, w1, rfl, (by repeat first | exact SKeeps.refl _ _ _ | refine SKeeps.far (by decide) ?_ | refine SKeeps.set (by decide) ?_), by simp [lk], H.out.1, H.out.2, rfl⟩
noncomputable def sc19 : Code := part [true, true, true, true, true, true, true, false, true, false, false, true, true, false, false, true, true, true, false, true, false, true, true, true, false, true] scanBody
set_option maxRecDepth 100000 in
theorem scan_p19 (B : Nat) (G : Glob) (w0 w : World) (l : List (Nat × Value)) (f : Nat → Value) (ev sv : Value) (fl : Csv.Fail) (ab : Nat) (h14 : lk l f 14 = ev) (h13 : lk l f 13 = .pointer (some ⟨ab, 0, none⟩)) (hG : GInv B w G) (hE : ETy B w) (hB : B ≤ w.heap.size) (he : ErrOut G w0 w ev fl) (hab : Blk w ab 53 (ansCells (.slice none 0 0) (.slice none 0 0) sv 0 0 0 0 0 0 false 0)) :
    sc19.wp Tryz.prog (NPost fun a w' => ∃ l', a = Fr 146 l' f ∧ SKeeps [] l f l' ∧ Only (fun k => k = ab) w w' ∧ Blk w' ab 53 (ansCells (.slice none 0 0) (.slice none 0 0) sv fl.kind fl.start fl.line fl.col 0 0 false 0)) (Fr 146 l f) w := by
  dsimp only [sc19, scanBody, part, part.sub2', sub1, sub2, Tryz.f6, Option.getD]
  have cF := failure_any B G w0 w ev fl hG hE hB he
  have HS := Lib.hid hab
  clear hG hE he hab
  go_wp
  refine cF.mono ?_
  rintro e w2 ⟨rfl, hb2⟩
  dsimp only
  have hab2 := HS.out.below hb2 HS.out.lt
  have hz := hab2.frozen
  have hc := hab2.cell
  unfold ansCells i64v at hc
  unfold failV i64v
  have HW := Lib.hid (And.intro hab2 hb2)
  clear cF hab2 hb2
  go_wp
  obtain ⟨hab2, hb2⟩ := HW.out
  refine NPost.mk ⟨_, rfl, (by repeat first | exact SKeeps.refl _ _ _ | refine SKeeps.far (by decide) ?_ | refine SKeeps.set (by decide) ?_), ?_, (((hab2.set 3 (i64v fl.kind)).set 4 (i64v fl.start)).set 5 (i64v fl.line)).set 6 (i64v fl.col)⟩
  exact (((((Only.of_below hb2).mono (T := fun k => k = ab) (fun k hk h => absurd hk (by omega))).setCell (p := ⟨ab, 3, none⟩) (fun _ => rfl) _).setCell (p := ⟨ab, 4, none⟩) (fun _ => rfl) _).setCell (p := ⟨ab, 5, none⟩) (fun _ => rfl) _).setCell (p := ⟨ab, 6, none⟩) (fun _ => rfl) _
noncomputable def sc21 : Code := part [true, true, true, true, true, true, true, false, true, false, false, true, true, false, false, true, true, true, false, true, false, true, true, true, true, true, false] scanBody
set_option maxRecDepth 100000 in
set_option maxHeartbeats 1000000 in
theorem scan_p21 (w : World) (l : List (Nat × Value)) (f : Nat → Value) (cr ab cb : Nat) (op fld : Int) (ln cl : Nat) (pn : Bool) (h7 : lk l f 7 = .pointer (some ⟨cr, 0, none⟩)) (h12 : lk l f 12 = .pointer (some ⟨cb, 0, none⟩)) (h13 : lk l f 13 = .pointer (some ⟨ab, 0, none⟩)) (hcb : Blk w cb 68 [.int .i64 op, .int .i64 fld]) (hab : Blk w ab 53 ansZero)
    (hR : Calls Tryz.prog 30 #[.pointer (some ⟨cr, 0, none⟩), .int .i64 fld] w fun e w' => e = .returned (.agg (ansCells (.slice none 0 0) (.slice none 0 0) (.slice none 0 0) 0 0 0 0 ln cl pn 0).toArray) ∧ Below w.heap.size w w') :
    sc21.wp Tryz.prog (NPost fun a w' => ∃ l', a = Fr 146 l' f ∧ SKeeps [] l f l' ∧ Only (fun k => k = ab) w w' ∧ Blk w' ab 53 (ansCells (.slice none 0 0) (.slice none 0 0) (.slice none 0 0) 0 0 0 0 ln cl pn 0)) (Fr 146 l f) w := by
  dsimp only [sc21, scanBody, part, part.sub2', sub1, sub2, Tryz.f6, Option.getD]
  have hc0 := hcb.cell
  have HS := Lib.hid hab
  clear hcb hab
  go_wp
  refine hR.mono ?_
  rintro e w2 ⟨rfl, hb2⟩
  dsimp only
  have hab2 := HS.out.below hb2 HS.out.lt
  have hz := hab2.frozen
  have hc := hab2.cell
  unfold ansZero at hc
  unfold ansCells i64v at hc
  have HW := Lib.hid (And.intro hab2 hb2)
  unfold ansCells i64v
  clear hR hab2 hb2 hc0
  go_wp
  obtain ⟨hab2, hb2⟩ := HW.out
  refine NPost.mk ⟨_, rfl, (by repeat first | exact SKeeps.refl _ _ _ | refine SKeeps.far (by decide) ?_ | refine SKeeps.set (by decide) ?_), ?_, ?_⟩
  · exact (((((((((((((Only.of_below hb2).mono (T := fun k => k = ab) (fun k hk h => absurd hk (by omega))).setCell (p := ⟨ab, 0, none⟩) (fun _ => rfl) _).setCell (p := ⟨ab, 1, none⟩) (fun _ => rfl) _).setCell (p := ⟨ab, 2, none⟩) (fun _ => rfl) _).setCell (p := ⟨ab, 3, none⟩) (fun _ => rfl) _).setCell (p := ⟨ab, 4, none⟩) (fun _ => rfl) _).setCell (p := ⟨ab, 5, none⟩) (fun _ => rfl) _).setCell (p := ⟨ab, 6, none⟩) (fun _ => rfl) _).setCell (p := ⟨ab, 7, none⟩) (fun _ => rfl) _).setCell (p := ⟨ab, 8, none⟩) (fun _ => rfl) _).setCell (p := ⟨ab, 9, none⟩) (fun _ => rfl) _).setCell (p := ⟨ab, 10, none⟩) (fun _ => rfl) _)
  · exact ((((((((((hab2.set 0 (.slice none 0 0)).set 1 (.slice none 0 0)).set 2 (.slice none 0 0)).set 3 (i64v 0)).set 4 (i64v 0)).set 5 (i64v 0)).set 6 (i64v 0)).set 7 (i64v ln)).set 8 (i64v cl)).set 9 (.bool pn)).set 10 (.int .i64 0)
noncomputable def sc23 : Code := part [true, true, true, true, true, true, true, false, true, false, false, true, true, false, false, true, true, true, false, true, false, true, true, true, true, true, true, true, false] scanBody
set_option maxRecDepth 100000 in
theorem scan_p23 (w : World) (l : List (Nat × Value)) (f : Nat → Value) (cr ab off : Nat) (h7 : lk l f 7 = .pointer (some ⟨cr, 0, none⟩)) (h13 : lk l f 13 = .pointer (some ⟨ab, 0, none⟩)) (hab : Blk w ab 53 ansZero) (hR : Calls Tryz.prog 31 [.pointer (some ⟨cr, 0, none⟩)].toArray w fun e w' => e = .returned (i64v off) ∧ w' = w) :
    sc23.wp Tryz.prog (NPost fun a w' => ∃ l', a = Fr 146 l' f ∧ SKeeps [] l f l' ∧ Only (fun k => k = ab) w w' ∧ Blk w' ab 53 (ansCells (.slice none 0 0) (.slice none 0 0) (.slice none 0 0) 0 0 0 0 0 0 false (off : Int))) (Fr 146 l f) w := by
  dsimp only [sc23, scanBody, part, part.sub2', sub1, sub2, Tryz.f6, Option.getD]
  have hz := hab.frozen
  have hc := hab.cell
  unfold ansZero ansCells i64v at hc
  have HS := Lib.hid hab
  clear hab
  go_wp
  refine hR.mono ?_
  rintro e w2 ⟨rfl, rfl⟩
  dsimp only
  unfold i64v
  clear hR
  go_wp
  exact NPost.mk ⟨_, rfl, (by repeat first | exact SKeeps.refl _ _ _ | refine SKeeps.far (by decide) ?_ | refine SKeeps.set (by decide) ?_), (Only.refl (fun k => k = ab) w2).setCell (p := ⟨ab, 10, none⟩) (fun _ => rfl) _, HS.out.set 10 _⟩
noncomputable def sc25 : Code := part [true, true, true, true, true, true, true, false, true, false, false, true, true, false, false, true, true, true, false, true, false, true, true, true, true, true, true, true, true, true, false] scanBody
set_option maxRecDepth 100000 in
theorem scan_p25 (B : Nat) (G : Glob) (w : World) (c : CSt) (r : RSt) (l : List (Nat × Value)) (f : Nat → Value) (ab : Nat) (h7 : lk l f 7 = .pointer (some ⟨c.cr, 0, none⟩)) (h13 : lk l f 13 = .pointer (some ⟨ab, 0, none⟩)) (hab : Blk w ab 53 ansZero) (hi : RInv B G w c r) :
    sc25.wp Tryz.prog (NPost fun a w' => ∃ l', a = Fr 146 l' f ∧ SKeeps [] l f l' ∧ Only (fun k => k = ab) w w' ∧ Blk w' ab 53 (ansCells (.slice none 0 0) (.slice none 0 0) (.slice none 0 0) 0 0 0 0 0 0 false c.expect)) (Fr 146 l f) w := by
  dsimp only [sc25, scanBody, part, part.sub2', sub1, sub2, Tryz.f6, Option.getD]
  have hz := hab.frozen
  have hc := hab.cell
  have hcr := hi.l.cr.cell
  unfold crCells at hcr
  unfold ansZero ansCells i64v at hc
  have HS := Lib.hid hab
  clear hab hi
  go_wp
  exact NPost.mk ⟨_, rfl, (by repeat first | exact SKeeps.refl _ _ _ | refine SKeeps.far (by decide) ?_ | refine SKeeps.set (by decide) ?_), (Only.refl (fun k => k = ab) w).setCell (p := ⟨ab, 10, none⟩) (fun _ => rfl) _, HS.out.set 10 _⟩
end Go.Proofs.YtfadgnopfjajbaaGreatDoor
namespace Go.Proofs.YtfadgnopfjajbaaGreatDoor
open Go.RowKit
theorem info_ans : (Tryz.prog.info? 53).map (fun i => (i.zero, i.size, i.bytes)) = some (some (.agg ansZero.toArray), 11, 136) := by kernel_rfl
theorem ansCells_len (rv lv sv : Value) (k s n c ln cl : Nat) (pn : Bool) (x : Int) : (ansCells rv lv sv k s n c ln cl pn x).length = 11 := rfl
set_option maxRecDepth 100000 in
theorem append_ans (w : World) (B : Nat) (ty : TypeId) (v : Value) (m : Nat) (cs : List Value) (hown : w.ownsRow B 53 11 v m cs) (b c : Nat) (news : List Value) (hn : news.length = 11) (hone : ∀ u ∈ news, u.oneCell' = true) (hb : Blk w b 53 news) (hlen : m + 1 < 1099511627776 / 2) (hB : B ≤ w.heap.size) :
    ∃ v' w', (Builtin.append_ #[28, 28] ty #[v, .slice (some ⟨b, 0, none⟩) 1 c]).run Tryz.prog w = .ok v' w' ∧ w'.ownsRow B 53 11 v' (m + 1) (cs ++ news) ∧ w.grownBy w' v.ownBlock ∧ (v'.ownBlock = v.ownBlock ∨ v'.ownBlock = some w.heap.size) := by
  cases hi : Tryz.prog.info? 53 with
  | none => have := info_ans; rw [hi] at this; cases this
  | some i =>
    have h := info_ans
    rw [hi] at h
    simp only [Option.map_some, Option.some.injEq, Prod.mk.injEq] at h
    obtain ⟨hz, hs, hby⟩ := h
    obtain ⟨v', w', h1, h2, h3, h4, h5⟩ := run_append_own_at (P := Tryz.prog) w B 28 ty 53 i _ 11 136 Tryz.underlying28 hi hz hs hby rfl (by omega) v m cs hown ⟨b, 0, none⟩ 1 c news (by rw [hn])
      (fun j u hu => by
        rw [Addr.add_mk, Nat.zero_add, hb.cell]
        exact hu)
      hone (by simp only [maxLen]; omega) (by omega) hB
    exact ⟨v', w', h1, h2, h3, h5⟩
noncomputable def sc28 : Code := part [true, true, true, true, true, true, true, false, true, false, false, true, true, false, false, true, true, true, true] scanBody
set_option maxRecDepth 100000 in
set_option maxHeartbeats 1000000 in
theorem scan_p28 (B : Nat) (w : World) (l : List (Nat × Value)) (f : Nat → Value) (av : Value) (m : Nat) (cs : List Value) (ab : Nat) (rv lv sv : Value) (k s n c ln cl : Nat) (pn : Bool) (x : Int) (h8 : lk l f 8 = av) (h13 : lk l f 13 = .pointer (some ⟨ab, 0, none⟩)) (hab : Blk w ab 53 (ansCells rv lv sv k s n c ln cl pn x))
    (hsl : (∃ A n c, rv = .slice A n c) ∧ (∃ A n c, lv = .slice A n c) ∧ ∃ A n c, sv = .slice A n c) (hown : w.ownsRow B 53 11 av m cs) (hlen : m + 1 < 1099511627776 / 2) (hB : B ≤ w.heap.size) :
    sc28.wp Tryz.prog (NPost fun a w' => ∃ l' av', a = Fr 146 ((8, av') :: l') f ∧ SKeeps [] l f l' ∧ w'.ownsRow B 53 11 av' (m + 1) (cs ++ ansCells rv lv sv k s n c ln cl pn x) ∧ Only (fun q => av.ownBlock = some q) w w' ∧ (av'.ownBlock = av.ownBlock ∨ ∃ g, av'.ownBlock = some g ∧ w.heap.size ≤ g)) (Fr 146 l f) w := by
  dsimp only [sc28, scanBody, part, part.sub2', sub1, sub2, Tryz.f6, Option.getD]
  obtain ⟨⟨A1, n1, c1, rfl⟩, ⟨A2, n2, c2, rfl⟩, ⟨A3, n3, c3, rfl⟩⟩ := hsl
  obtain ⟨o, ho⟩ : ∃ o, o = ansCells (.slice A1 n1 c1) (.slice A2 n2 c2) (.slice A3 n3 c3) k s n c ln cl pn x := ⟨_, rfl⟩
  have hb1 : Below w.heap.size w (w.alloc (.cells o.toArray 53)) := (Below.refl _ w).alloc (Nat.le_refl _) _
  have hown1 := ownsRow_only hown (Only.of_below hb1) (fun q hq s => by have := (own_lt hown hq).2; omega)
  obtain ⟨v', w', hrun, h1, h3, h4'⟩ := append_ans (w.alloc (.cells o.toArray 53)) B 28 av m cs hown1 w.heap.size 1 o (by rw [ho]; rfl) (by rw [ho]; intro u hu; unfold ansCells at hu; simp at hu; rcases hu with rfl | rfl | rfl | rfl | rfl | rfl | rfl | rfl | rfl | rfl | rfl <;> rfl) (Blk.new w _ _) hlen (Nat.le_trans hB hb1.size)
  have HF := Lib.hid (And.intro h1 (And.intro h3 (And.intro h4' hb1)))
  have hc := hab.cell
  unfold ansCells i64v at hc
  clear h1 h3 h4' hb1 hown1 hown hab
  rw [ho] at hrun
  unfold ansCells i64v at hrun
  refine region_split 3 ?_
  simp only [List.take_succ_cons, List.take_zero, List.drop_succ_cons, List.drop_zero]
  go_wp
  refine Stop.mk (wl_append _ _ _ rfl rfl (by rw [Fr_eval _ _ _ _ rfl]; simp only [lk]; rfl) (by rw [Fr_eval _ _ _ _ rfl]; simp only [lk]; rfl) hrun ?_)
  rw [Fr_put]
  clear hrun hc
  go_wp
  obtain ⟨h1, h3, h4', hb1⟩ := HF.out
  rw [← ho]
  refine NPost.mk ⟨_, v', rfl, (by repeat first | exact SKeeps.refl _ _ _ | refine SKeeps.far (by decide) ?_ | refine SKeeps.set (by decide) ?_), h1, ?_, own_new hb1.size h4'⟩
  exact ((Only.refl (fun q => av.ownBlock = some q) w).alloc _).grown h3 (fun q hq _ => hq)
/- Which call is it? -/
noncomputable def sc14 : Code := part [true, true, true, true, true, true, true, false, true, false, false, true, true, false, false, true, true, true, false, true, false, false] scanBody
set_option maxRecDepth 100000 in
theorem scan_p14 (w : World) (l : List (Nat × Value)) (f : Nat → Value) (op : Int) (h70 : lk l f 70 = .int .i64 op) :
    sc14.wp Tryz.prog (NPost fun a w' => ∃ l', a = Fr 146 ((71, .bool (op == 0)) :: l') f ∧ SKeeps [] l f l' ∧ w' = w) (Fr 146 l f) w := by
  dsimp only [sc14, scanBody, part, part.sub2', sub1, sub2, Tryz.f6, Option.getD]
  go_wp
  exact NPost.mk ⟨_, rfl, (by repeat first | exact SKeeps.refl _ _ _ | refine SKeeps.far (by decide) ?_ | refine SKeeps.set (by decide) ?_), rfl⟩
noncomputable def sc17 : Code := part [true, true, true, true, true, true, true, false, true, false, false, true, true, false, false, true, true, true, false, true, false, true, true, false] scanBody
set_option maxRecDepth 100000 in
theorem scan_p17 (w : World) (l : List (Nat × Value)) (f : Nat → Value) (op : Int) (h70 : lk l f 70 = .int .i64 op) :
    sc17.wp Tryz.prog (NPost fun a w' => ∃ l', a = Fr 146 ((88, .bool (op == 1)) :: l') f ∧ SKeeps [] l f l' ∧ w' = w) (Fr 146 l f) w := by
  dsimp only [sc17, scanBody, part, part.sub2', sub1, sub2, Tryz.f6, Option.getD]
  go_wp
  exact NPost.mk ⟨_, rfl, (by repeat first | exact SKeeps.refl _ _ _ | refine SKeeps.far (by decide) ?_ | refine SKeeps.set (by decide) ?_), rfl⟩
noncomputable def sc20 : Code := part [true, true, true, true, true, true, true, false, true, false, false, true, true, false, false, true, true, true, false, true, false, true, true, true, true, false] scanBody
set_option maxRecDepth 100000 in
theorem scan_p20 (w : World) (l : List (Nat × Value)) (f : Nat → Value) (op : Int) (h70 : lk l f 70 = .int .i64 op) :
    sc20.wp Tryz.prog (NPost fun a w' => ∃ l', a = Fr 146 ((99, .bool (op == 2)) :: l') f ∧ SKeeps [] l f l' ∧ w' = w) (Fr 146 l f) w := by
  dsimp only [sc20, scanBody, part, part.sub2', sub1, sub2, Tryz.f6, Option.getD]
  go_wp
  exact NPost.mk ⟨_, rfl, (by repeat first | exact SKeeps.refl _ _ _ | refine SKeeps.far (by decide) ?_ | refine SKeeps.set (by decide) ?_), rfl⟩
noncomputable def sc22 : Code := part [true, true, true, true, true, true, true, false, true, false, false, true, true, false, false, true, true, true, false, true, false, true, true, true, true, true, true, false] scanBody
set_option maxRecDepth 100000 in
theorem scan_p22 (w : World) (l : List (Nat × Value)) (f : Nat → Value) (op : Int) (h70 : lk l f 70 = .int .i64 op) :
    sc22.wp Tryz.prog (NPost fun a w' => ∃ l', a = Fr 146 ((105, .bool (op == 3)) :: l') f ∧ SKeeps [] l f l' ∧ w' = w) (Fr 146 l f) w := by
  dsimp only [sc22, scanBody, part, part.sub2', sub1, sub2, Tryz.f6, Option.getD]
  go_wp
  exact NPost.mk ⟨_, rfl, (by repeat first | exact SKeeps.refl _ _ _ | refine SKeeps.far (by decide) ?_ | refine SKeeps.set (by decide) ?_), rfl⟩
noncomputable def sc24 : Code := part [true, true, true, true, true, true, true, false, true, false, false, true, true, false, false, true, true, true, false, true, false, true, true, true, true, true, true, true, true, false] scanBody
set_option maxRecDepth 100000 in
theorem scan_p24 (w : World) (l : List (Nat × Value)) (f : Nat → Value) (op : Int) (h70 : lk l f 70 = .int .i64 op) :
    sc24.wp Tryz.prog (NPost fun a w' => ∃ l', a = Fr 146 ((110, .bool (op == 4)) :: l') f ∧ SKeeps [] l f l' ∧ w' = w) (Fr 146 l f) w := by
  dsimp only [sc24, scanBody, part, part.sub2', sub1, sub2, Tryz.f6, Option.getD]
  go_wp
  exact NPost.mk ⟨_, rfl, (by repeat first | exact SKeeps.refl _ _ _ | refine SKeeps.far (by decide) ?_ | refine SKeeps.set (by decide) ?_), rfl⟩
noncomputable def sc26 : Code := part [true, true, true, true, true, true, true, false, true, false, false, true, true, false, false, true, true, true, false, true, false, true, true, true, true, true, true, true, true, true, true, false] scanBody
set_option maxRecDepth 100000 in
theorem scan_p26 (w : World) (l : List (Nat × Value)) (f : Nat → Value) (op : Int) (h70 : lk l f 70 = .int .i64 op) :
    sc26.wp Tryz.prog (NPost fun a w' => ∃ l', a = Fr 146 ((117, .bool (op == 5)) :: l') f ∧ SKeeps [] l f l' ∧ w' = w) (Fr 146 l f) w := by
  dsimp only [sc26, scanBody, part, part.sub2', sub1, sub2, Tryz.f6, Option.getD]
  go_wp
  exact NPost.mk ⟨_, rfl, (by repeat first | exact SKeeps.refl _ _ _ | refine SKeeps.far (by decide) ?_ | refine SKeeps.set (by decide) ?_), rfl⟩
noncomputable def sc9 : Code := part [true, true, true, true, true, true, true, false, true, false, false, false] scanBody
set_option maxRecDepth 100000 in
theorem scan_p9 (w : World) (l : List (Nat × Value)) (f : Nat → Value) (i n : Nat) (h64 : lk l f 64 = .int .i64 (i : Int)) (h63 : lk l f 63 = .int .i64 (n : Int)) :
    sc9.wp Tryz.prog (NPost fun a w' => ∃ l', a = Fr 146 ((65, .bool (decide (i < n))) :: l') f ∧ SKeeps [] l f l' ∧ w' = w) (Fr 146 l f) w := by
  dsimp only [sc9, scanBody, part, part.sub2', sub1, sub2, Tryz.f6, Option.getD]
  go_wp
  exact NPost.mk ⟨_, rfl, (by repeat first | exact SKeeps.refl _ _ _ | refine SKeeps.far (by decide) ?_ | refine SKeeps.set (by decide) ?_), rfl⟩
noncomputable def sc10 : Code := part [true, true, true, true, true, true, true, false, true, false, false, true, true, false, false, false] scanBody
set_option maxRecDepth 100000 in
theorem scan_p10 (w : World) (l : List (Nat × Value)) (f : Nat → Value) (i n cp : Nat) (sb so : Nat) (op fld : Int) (h64 : lk l f 64 = .int .i64 (i : Int)) (h62 : lk l f 62 = .slice (some ⟨sb, so, none⟩) n cp) (hi : i < n) (c0 : w.cell? ⟨sb, so + i * 2, none⟩ = some (.int .i64 op)) (c1 : w.cell? ⟨sb, so + i * 2 + 1, none⟩ = some (.int .i64 fld)) :
    sc10.wp Tryz.prog (NPost fun a w' => ∃ l', a = Fr 146 l' f ∧ SKeeps [11, 12] l f l' ∧ lk l' f 11 = .int .i64 (i : Int) ∧ lk l' f 12 = .pointer (some ⟨w.heap.size, 0, none⟩) ∧ Below w.heap.size w w' ∧ Blk w' w.heap.size 68 [.int .i64 op, .int .i64 fld]) (Fr 146 l f) w := by
  dsimp only [sc10, scanBody, part, part.sub2', sub1, sub2, Tryz.f6, Option.getD]
  go_wp
  exact NPost.mk ⟨_, rfl, (by repeat first | exact SKeeps.refl _ _ _ | refine SKeeps.far (by decide) ?_ | refine SKeeps.set (by decide) ?_), by simp [lk], by simp [lk], (Below.refl _ w).alloc (Nat.le_refl _) _, Blk.new_arr w _ _⟩
noncomputable def sc11 : Code := part [true, true, true, true, true, true, true, false, true, false, false, true, true, false, false, true, false] scanBody
set_option maxRecDepth 100000 in
theorem scan_p11 (w : World) (l : List (Nat × Value)) (f : Nat → Value) :
    sc11.wp Tryz.prog (NPost fun a w' => a = Fr 146 ((13, .pointer (some ⟨w.heap.size, 0, none⟩)) :: l) f ∧ Below w.heap.size w w' ∧ Blk w' w.heap.size 53 ansZero) (Fr 146 l f) w := by
  dsimp only [sc11, scanBody, part, part.sub2', sub1, sub2, Tryz.f6, Option.getD]
  go_wp
  exact NPost.mk ⟨rfl, (Below.refl _ w).alloc (Nat.le_refl _) _, Blk.new_arr w _ _⟩
noncomputable def sc12 : Code := part [true, true, true, true, true, true, true, false, true, false, false, true, true, false, false, true, true, false] scanBody
set_option maxRecDepth 100000 in
theorem scan_p12 (w : World) (l : List (Nat × Value)) (f : Nat → Value) :
    sc12.wp Tryz.prog (NPost fun a w' => a = Fr 146 ((14, .nilIface) :: l) f ∧ w' = w) (Fr 146 l f) w := by
  dsimp only [sc12, scanBody, part, part.sub2', sub1, sub2, Tryz.f6, Option.getD]
  go_wp
  exact NPost.mk ⟨rfl, rfl⟩
noncomputable def sc13 : Code := part [true, true, true, true, true, true, true, false, true, false, false, true, true, false, false, true, true, true, false, false] scanBody
set_option maxRecDepth 100000 in
theorem scan_p13 (w : World) (l : List (Nat × Value)) (f : Nat → Value) (cb : Nat) (op fld : Int) (h12 : lk l f 12 = .pointer (some ⟨cb, 0, none⟩)) (hcb : Blk w cb 68 [.int .i64 op, .int .i64 fld]) :
    sc13.wp Tryz.prog (NPost fun a w' => ∃ l', a = Fr 146 ((70, .int .i64 op) :: l') f ∧ SKeeps [] l f l' ∧ w' = w) (Fr 146 l f) w := by
  dsimp only [sc13, scanBody, part, part.sub2', sub1, sub2, Tryz.f6, Option.getD]
  have hc := hcb.cell
  clear hcb
  go_wp
  exact NPost.mk ⟨_, rfl, (by repeat first | exact SKeeps.refl _ _ _ | refine SKeeps.far (by decide) ?_ | refine SKeeps.set (by decide) ?_), rfl⟩
noncomputable def sc29 : Code := part [true, true, true, true, true, true, true, false, true, false, false, true, true, true] scanBody
set_option maxRecDepth 100000 in
theorem scan_p29 (w : World) (l : List (Nat × Value)) (f : Nat → Value) (i : Nat) (h64 : lk l f 64 = .int .i64 (i : Int)) (hi : i < 1099511627776) :
    sc29.wp Tryz.prog (NPost fun a w' => ∃ l', a = Fr 146 ((64, .int .i64 ((i + 1 : Nat) : Int)) :: l') f ∧ SKeeps [] l f l' ∧ w' = w) (Fr 146 l f) w := by
  dsimp only [sc29, scanBody, part, part.sub2', sub1, sub2, Tryz.f6, Option.getD]
  go_wp
  exact NPost.mk ⟨_, rfl, (by repeat first | exact SKeeps.refl _ _ _ | refine SKeeps.far (by decide) ?_ | refine SKeeps.set (by decide) ?_), rfl⟩
noncomputable def sc31 : Code := part [true, true, true, true, true, true, true, true, false, true, false, false, false] scanBody
set_option maxRecDepth 100000 in
theorem scan_p31 (w : World) (l : List (Nat × Value)) (f : Nat → Value) (i n : Nat) (h132 : lk l f 132 = .int .i64 (i : Int)) (h131 : lk l f 131 = .int .i64 (n : Int)) :
    sc31.wp Tryz.prog (NPost fun a w' => ∃ l', a = Fr 146 ((133, .bool (decide (i < n))) :: l') f ∧ SKeeps [] l f l' ∧ w' = w) (Fr 146 l f) w := by
  dsimp only [sc31, scanBody, part, part.sub2', sub1, sub2, Tryz.f6, Option.getD]
  go_wp
  exact NPost.mk ⟨_, rfl, (by repeat first | exact SKeeps.refl _ _ _ | refine SKeeps.far (by decide) ?_ | refine SKeeps.set (by decide) ?_), rfl⟩
noncomputable def sc30 : Code := part [true, true, true, true, true, true, true, true, false, false] scanBody
set_option maxRecDepth 100000 in
theorem scan_p30 (w : World) (l : List (Nat × Value)) (f : Nat → Value) (A : Option Addr) (n cp : Nat) (h8 : lk l f 8 = .slice A n cp) :
    sc30.wp Tryz.prog (NPost fun a w' => ∃ l', a = Fr 146 l' f ∧ SKeeps [131, 132] l f l' ∧ lk l' f 131 = .int .i64 (n : Int) ∧ lk l' f 132 = .int .i64 ((0 : Nat) : Int) ∧ w' = w) (Fr 146 l f) w := by
  dsimp only [sc30, scanBody, part, part.sub2', sub1, sub2, Tryz.f6, Option.getD]
  go_wp
  exact NPost.mk ⟨_, rfl, (by repeat first | exact SKeeps.refl _ _ _ | refine SKeeps.far (by decide) ?_ | refine SKeeps.set (by decide) ?_), by simp [lk], by simp [lk], rfl⟩
noncomputable def sc32 : Code := part [true, true, true, true, true, true, true, true, false, true, false, false, true, true, false] scanBody
set_option maxRecDepth 100000 in
set_option maxHeartbeats 1000000 in
theorem scan_p32 (B : Nat) (w : World) (l : List (Nat × Value)) (f : Nat → Value) (i n m kb ga ca : Nat) (ks : List Value) (kv lv0 : Value) (fs : List (List UInt8)) (h132 : lk l f 132 = .int .i64 (i : Int)) (h8 : lk l f 8 = .slice (some ⟨ga, 0, none⟩) n ca) (h10 : lk l f 10 = .slice (some ⟨kb, 0, none⟩) m m) (hkb : Blk w kb 36 ks) (him : i < m) (hin : i < n)
    (hk : ks[i]? = some kv) (hs : StrS B w kv fs) (hlen : fs.length < 1099511627776) (hc1 : w.cell? ⟨ga, i * 11 + 1, none⟩ = some lv0) (hz1 : w.frozen? ⟨ga, i * 11 + 1, none⟩ = false) (hga : ga < w.heap.size) :
    sc32.wp Tryz.prog (NPost fun a w' => ∃ l' lv w1, a = Fr 146 l' f ∧ SKeeps [15] l f l' ∧ StrS w.heap.size w1 lv fs ∧ Below w.heap.size w w1 ∧ w' = w1.setCell ⟨ga, i * 11 + 1, none⟩ lv) (Fr 146 l f) w := by
  dsimp only [sc32, scanBody, part, part.sub2', sub1, sub2, Tryz.f6, Option.getD]
  have cC := clone_any B w kv fs hs hlen
  obtain ⟨A0, c0, hkv, _⟩ := hs.form
  rw [hkv] at cC
  have hck := hkb.cell i
  rw [hk, hkv] at hck
  clear hs hkb hk hkv
  go_wp
  refine cC.mono ?_
  rintro e w1 ⟨rv, rfl, hrv, hb1⟩
  dsimp only
  have hc2 : w1.cell? ⟨ga, i * 11 + 1, none⟩ = some lv0 := (hb1.cell (p := ⟨ga, i * 11 + 1, none⟩) hga).trans hc1
  have hz2 : w1.frozen? ⟨ga, i * 11 + 1, none⟩ = false := by
    rw [World.frozen?_of_block (a := ⟨ga, i * 11 + 1, none⟩) (hb1.block ga hga)]; exact hz1
  obtain ⟨A1, c1, hrvf, _⟩ := hrv.form
  have HR := Lib.hid (And.intro hrv hb1)
  rw [hrvf]
  clear cC hrv hb1 hck
  go_wp
  rw [← hrvf]
  exact NPost.mk ⟨_, rv, w1, rfl, (by repeat first | exact SKeeps.refl _ _ _ | refine SKeeps.far (by decide) ?_ | refine SKeeps.set (by decide) ?_), HR.out.1, HR.out.2, rfl⟩
noncomputable def sc34 : Code := part [true, true, true, true, true, true, true, true, false, true, false, false, true, true, true] scanBody
set_option maxRecDepth 100000 in
theorem scan_p34 (w : World) (l : List (Nat × Value)) (f : Nat → Value) (i : Nat) (h132 : lk l f 132 = .int .i64 (i : Int)) (hi : i < 1099511627776) :
    sc34.wp Tryz.prog (NPost fun a w' => ∃ l', a = Fr 146 ((132, .int .i64 ((i + 1 : Nat) : Int)) :: l') f ∧ SKeeps [] l f l' ∧ w' = w) (Fr 146 l f) w := by
  dsimp only [sc34, scanBody, part, part.sub2', sub1, sub2, Tryz.f6, Option.getD]
  go_wp
  exact NPost.mk ⟨_, rfl, (by repeat first | exact SKeeps.refl _ _ _ | refine SKeeps.far (by decide) ?_ | refine SKeeps.set (by decide) ?_), rfl⟩
end Go.Proofs.YtfadgnopfjajbaaGreatDoor
namespace Go.Proofs
open Go.Shelf
theorem Tryz.extraRepeat : Builder.Extra Tryz.prog Tryz.laysRepeat_ren := {
  sizeBuilder := by kernel_rfl
  liesBuilder := by kernel_rfl
  t5 := Tryz.underlying5
  a5 := Tryz.isAgg5
  z5 := Tryz.sizeOf5
  v5 := Tryz.zeroValue5
  infoByte := by kernel_rfl
  cellsByte := by kernel_rfl
  sizeByte := by kernel_rfl
  neB5 := by decide }
end Go.Proofs
namespace Go.Proofs.YtfadgnopfjajbaaGreatDoor
open Go.RowKit
def spoiledSp : List UInt8 := [115, 112, 111, 105, 108, 101, 100, 32]
theorem Repeat_any (n : Nat) (w : World) (hn : n < 1099511627776) : Calls Tryz.prog 33 [.string ⟨spoiledSp.toArray⟩, .int .i64 (n : Int)].toArray w fun e w' => e = .returned (strV (Lib.repeatL spoiledSp n)) ∧ Below w.heap.size w w' := by
  have h := Any.strings_Repeat Tryz.laysRepeat Tryz.extraRepeat ⟨spoiledSp.toArray⟩ n w (by omega) (by show 8 * n ≤ _; omega)
  exact h
theorem Split_any (s : List UInt8) (m : Int) (w : World) (hs : s.length < 4294967281) (hm : w.cell? ⟨4, 0, none⟩ = some (.int .i64 m)) : Calls Tryz.prog 32 [strV s, .string ⟨#[32]⟩].toArray w fun e w' =>
    e = .returned (.slice (some ⟨w.heap.size, 0, none⟩) (Lib.countB ⟨s.toArray⟩ ⟨#[32]⟩ + 1) (Lib.countB ⟨s.toArray⟩ ⟨#[32]⟩ + 1)) ∧ w' = w.alloc (.cells ((Lib.splitB ⟨#[32]⟩ 0 (Lib.countB ⟨s.toArray⟩ ⟨#[32]⟩) ⟨s.toArray⟩).map Value.string).toArray 9) :=
  Any.strings_Split Tryz.laysSplit (by kernel_rfl) ⟨s.toArray⟩ ⟨#[32]⟩ m w (by rw [ba_size]; exact hs) hm (by decide)
end Go.Proofs.YtfadgnopfjajbaaGreatDoor
namespace Go.Proofs.YtfadgnopfjajbaaGreatDoor
open Go.RowKit
theorem sp_index (t : List UInt8) : Lib.indexB ⟨(spoiledSp ++ t).toArray⟩ ⟨#[32]⟩ = 7 := by
  show Lib.index (spoiledSp ++ t) [32] = 7
  simp [spoiledSp, Lib.index, List.isPrefixOf]
theorem sp_index_nil : Lib.indexB ⟨([] : List UInt8).toArray⟩ ⟨#[32]⟩ = -1 := rfl
theorem sp_extract (t : List UInt8) : (⟨(spoiledSp ++ t).toArray⟩ : ByteArray).extract (7 + (⟨#[32]⟩ : ByteArray).size) (⟨(spoiledSp ++ t).toArray⟩ : ByteArray).size = ⟨t.toArray⟩ := by
  have e1 : (7 + (⟨#[32]⟩ : ByteArray).size) = spoiledSp.length := rfl
  have e2 : (⟨(spoiledSp ++ t).toArray⟩ : ByteArray).size = spoiledSp.length + t.length := by rw [ba_size, List.length_append]
  rw [e1, e2]
  have := extract_field spoiledSp t []
  rw [List.append_nil] at this
  exact this
theorem sp_count : ∀ n, Lib.countB ⟨(Lib.repeatL spoiledSp n).toArray⟩ ⟨#[32]⟩ = n
  | 0 => Lib.countB_miss _ _ sp_index_nil
  | n + 1 => by
    have h : Lib.repeatL spoiledSp (n + 1) = spoiledSp ++ Lib.repeatL spoiledSp n := rfl
    rw [h, Lib.countB_hit _ _ 7 (by decide) (sp_index _), sp_extract, sp_count n]
    omega
theorem sp_split : ∀ n, Lib.splitB ⟨#[32]⟩ 0 n ⟨(Lib.repeatL spoiledSp n).toArray⟩ = List.replicate n ⟨Csv.spoiled.toArray⟩ ++ [⟨#[]⟩]
  | 0 => rfl
  | n + 1 => by
    have h : Lib.repeatL spoiledSp (n + 1) = spoiledSp ++ Lib.repeatL spoiledSp n := rfl
    rw [h]
    unfold Lib.splitB
    have hi := sp_index (Lib.repeatL spoiledSp n)
    rw [if_neg (by rw [hi]; decide)]
    have e7 : (Lib.indexB ⟨(spoiledSp ++ Lib.repeatL spoiledSp n).toArray⟩ ⟨#[32]⟩).toNat = 7 := by rw [hi]; rfl
    rw [e7, sp_extract, sp_split n]
    have e : (⟨(spoiledSp ++ Lib.repeatL spoiledSp n).toArray⟩ : ByteArray).extract 0 (7 + 0) = ⟨Csv.spoiled.toArray⟩ := by
      have := extract_field [] Csv.spoiled (32 :: Lib.repeatL spoiledSp n)
      exact this
    rw [e]
    rfl
theorem sp_cells (n : Nat) : ((Lib.splitB ⟨#[32]⟩ 0 (Lib.countB ⟨(Lib.repeatL spoiledSp n).toArray⟩ ⟨#[32]⟩) ⟨(Lib.repeatL spoiledSp n).toArray⟩).map Value.string) = ((List.replicate n Csv.spoiled ++ [[]]).map strV) := by
  rw [sp_count, sp_split]
  simp [List.map_append, List.map_replicate, strV]
noncomputable def sc27 : Code := part [true, true, true, true, true, true, true, false, true, false, false, true, true, false, false, true, true, true, false, true, false, true, true, true, true, true, true, true, true, true, true, true, false] scanBody
/- Spoil with a record to overwrite. -/
set_option maxRecDepth 100000 in
set_option maxHeartbeats 1000000 in
theorem scan_p27 (w : World) (l : List (Nat × Value)) (f : Nat → Value) (m : Int) (g n : Nat) (arr : List (List UInt8)) (h9 : lk l f 9 = .slice (some ⟨g, 0, none⟩) n arr.length) (hg : Blk w g 9 (arr.map strV)) (hn : n ≤ arr.length) (hl : n < 268435456) (hm : ∀ w1, Below w.heap.size w w1 → w1.cell? ⟨4, 0, none⟩ = some (.int .i64 m)) :
    sc27.wp Tryz.prog (NPost fun a w' => ∃ l', a = Fr 146 l' f ∧ SKeeps [] l f l' ∧ Only (fun k => k = g) w w' ∧ Blk w' g 9 ((List.replicate n Csv.spoiled ++ arr.drop n).map strV)) (Fr 146 l f) w := by
  dsimp only [sc27, scanBody, part, part.sub2', sub1, sub2, Tryz.f6, Option.getD]
  have cR := Repeat_any n w (by omega)
  unfold spoiledSp at cR
  have HG := Lib.hid hg
  clear hg
  go_wp
  refine cR.mono ?_
  rintro e w1 ⟨rfl, hb1⟩
  dsimp only
  have hm1 := hm w1 hb1
  have cS := Split_any (Lib.repeatL spoiledSp n) m w1 (by rw [Lib.repeatL_length]; show n * 8 < _; omega) hm1
  rw [sp_cells, sp_count] at cS
  have hg1 := HG.out.below hb1 HG.out.lt
  obtain ⟨w2, hw2⟩ : ∃ w2, w2 = w1.alloc (.cells ((List.replicate n Csv.spoiled ++ [[]]).map strV).toArray 9) := ⟨_, rfl⟩
  rw [← hw2] at cS
  have hg2 : Blk w2 g 9 (arr.map strV) := by rw [hw2]; exact hg1.alloc _
  have hnew : Blk w2 w1.heap.size 9 ((List.replicate n Csv.spoiled ++ [[]]).map strV) := by rw [hw2]; exact Blk.new w1 _ _
  have hb2 : Below w.heap.size w w2 := by rw [hw2]; exact hb1.alloc hb1.size _
  have hcp := run_copy_row (P := Tryz.prog) w2 36 36 3 9 g 0 n arr.length ⟨w1.heap.size, 0, none⟩ (n + 1) (n + 1) (arr.map strV).toArray 9 ((List.replicate n Csv.spoiled).map strV) Tryz.underlying36 (by kernel_rfl) hg2
    (by simp) (fun j x hx => by
      rw [Addr.add_mk, Nat.zero_add, hnew.cell, List.map_append, List.getElem?_append_left]
      · exact hx
      · rcases Nat.lt_or_ge j (List.map strV (List.replicate n Csv.spoiled)).length with h | h
        · exact h
        · rw [List.getElem?_eq_none h] at hx; cases hx)
    (by simp; omega) (fun x hx => by obtain ⟨y, _, rfl⟩ := List.mem_map.1 hx; rfl)
  have HW := Lib.hid (And.intro hb2 hg2)
  have hS : strV (Lib.repeatL [115, 112, 111, 105, 108, 101, 100, 32] n) = strV (Lib.repeatL spoiledSp n) := rfl
  rw [hS]
  generalize strV (Lib.repeatL spoiledSp n) = svv at cS
  obtain ⟨rw', hrw⟩ : ∃ z, z = ((arr.map strV).toArray.toList.take 0 ++ (List.replicate n Csv.spoiled).map strV ++ (arr.map strV).toArray.toList.drop (0 + ((List.replicate n Csv.spoiled).map strV).length)) := ⟨_, rfl⟩
  rw [← hrw] at hcp
  have hlr : (((List.replicate n Csv.spoiled).map strV).length : Int) = (n : Int) := by simp
  rw [hlr] at hcp
  clear cR hg1 hg2 hnew hm1 hb1 hm hw2 hb2 hS hlr
  go_wp
  refine cS.mono ?_
  rintro e w3 ⟨rfl, rfl⟩
  dsimp only
  clear cS
  go_wp
  obtain ⟨hb2, hg2⟩ := HW.out
  refine NPost.mk ⟨_, rfl, (by repeat first | exact SKeeps.refl _ _ _ | refine SKeeps.far (by decide) ?_ | refine SKeeps.set (by decide) ?_), ?_, ?_⟩
  · exact ((Only.of_below hb2).mono (T := fun k => k = g) (fun k hk h => absurd hk (by omega))).setRow (fun _ => rfl) _
  · have h := hg2.row ((List.replicate n Csv.spoiled ++ arr.drop n).map strV)
    have e : List.replicate n (strV Csv.spoiled) ++ List.drop n (List.map strV arr) = (List.replicate n Csv.spoiled ++ arr.drop n).map strV := by
      simp [List.map_append, List.map_drop, List.map_replicate]
    rw [e]
    exact h
theorem copy_nil (a : Addr) (w : World) : (Builtin.copy_ #[36, 36] 3 #[.slice none 0 0, .slice (some a) 1 1]).run Tryz.prog w = .ok (.int .i64 0) w := by kernel_rfl
/- Spoil with no record. -/
set_option maxRecDepth 100000 in
set_option maxHeartbeats 1000000 in
theorem scan_p27n (w : World) (l : List (Nat × Value)) (f : Nat → Value) (m : Int) (h9 : lk l f 9 = .slice none 0 0) (hm : ∀ w1, Below w.heap.size w w1 → w1.cell? ⟨4, 0, none⟩ = some (.int .i64 m)) :
    sc27.wp Tryz.prog (NPost fun a w' => ∃ l', a = Fr 146 l' f ∧ SKeeps [] l f l' ∧ Below w.heap.size w w') (Fr 146 l f) w := by
  dsimp only [sc27, scanBody, part, part.sub2', sub1, sub2, Tryz.f6, Option.getD]
  have cR := Repeat_any 0 w (by omega)
  unfold spoiledSp at cR
  go_wp
  refine cR.mono ?_
  rintro e w1 ⟨rfl, hb1⟩
  dsimp only
  have hm1 := hm w1 hb1
  have cS := Split_any (Lib.repeatL spoiledSp 0) m w1 (by decide) hm1
  rw [sp_cells, sp_count] at cS
  obtain ⟨w2, hw2⟩ : ∃ w2, w2 = w1.alloc (.cells ((List.replicate 0 Csv.spoiled ++ [[]]).map strV).toArray 9) := ⟨_, rfl⟩
  rw [← hw2] at cS
  have hb2 : Below w.heap.size w w2 := by rw [hw2]; exact hb1.alloc hb1.size _
  have HW := Lib.hid hb2
  have hS : strV (Lib.repeatL [115, 112, 111, 105, 108, 101, 100, 32] 0) = strV (Lib.repeatL spoiledSp 0) := rfl
  rw [hS]
  generalize strV (Lib.repeatL spoiledSp 0) = svv at cS
  have hcp := copy_nil ⟨w1.heap.size, 0, none⟩ w2
  clear cR hm1 hb1 hm hw2 hb2 hS
  go_wp
  refine cS.mono ?_
  rintro e w3 ⟨rfl, rfl⟩
  dsimp only
  clear cS
  go_wp
  exact NPost.mk ⟨_, rfl, (by repeat first | exact SKeeps.refl _ _ _ | refine SKeeps.far (by decide) ?_ | refine SKeeps.set (by decide) ?_), HW.out⟩
end Go.Proofs.YtfadgnopfjajbaaGreatDoor
namespace Go.Proofs.YtfadgnopfjajbaaGreatDoor
open Go.RowKit
def optCells (comma comment expect : Int) (lz tr re : Bool) : List Value := [.int .i32 comma, .int .i32 comment, .int .i64 expect, .bool lz, .bool tr, .bool re]
def rdCells (comma comment expect : Int) (lz tr re : Bool) (rb : Nat) : List Value := [.int .i32 comma, .int .i32 comment, .int .i64 expect, .bool lz, .bool tr, .bool re, .bool false, .pointer (some ⟨rb, 0, none⟩), .int .i64 0, .int .i64 0, .slice none 0 0, .slice none 0 0, .slice none 0 0, .slice none 0 0, .slice none 0 0]
noncomputable def sc0 : Code := part [false] scanBody
set_option maxRecDepth 100000 in
theorem scan_p0 (w : World) (l : List (Nat × Value)) (f : Nat → Value) (s : ByteArray) (A : Option Addr) (n cp : Nat) (jn : Bool) (comma comment expect : Int) (lz tr re : Bool) (h0 : lk l f 0 = .agg #[.string s, .slice A n cp, .bool jn]) (h1 : lk l f 1 = .agg (optCells comma comment expect lz tr re).toArray) :
    sc0.wp Tryz.prog (NPost fun a w' => ∃ l', a = Fr 146 l' f ∧ SKeeps [3, 4, 6] l f l' ∧ lk l' f 3 = .pointer (some ⟨w.heap.size, 0, none⟩) ∧ lk l' f 4 = .pointer (some ⟨w.heap.size + 1, 0, none⟩) ∧ Below w.heap.size w w' ∧ Blk w' w.heap.size 24 [.string s, .slice A n cp, .bool jn] ∧ Blk w' (w.heap.size + 1) 26 (optCells comma comment expect lz tr re)) (Fr 146 l f) w := by
  dsimp only [sc0, scanBody, part, part.sub2', sub1, sub2, Tryz.f6, Option.getD]
  unfold optCells at h1
  go_wp
  refine NPost.mk ⟨_, rfl, (by repeat first | exact SKeeps.refl _ _ _ | refine SKeeps.far (by decide) ?_ | refine SKeeps.set (by decide) ?_), by simp [lk], by simp [lk], ((Below.refl _ w).alloc (Nat.le_refl _) _).alloc (by simp) _, (Blk.new_arr w _ _).alloc _, ?_⟩
  have h := Blk.new_arr (w.alloc (.cells #[.string s, .slice A n cp, .bool jn] 24)) 26 (optCells comma comment expect lz tr re).toArray
  simpa [optCells] using h
noncomputable def sc1 : Code := part [true, false] scanBody
set_option maxRecDepth 100000 in
theorem scan_p1 (w : World) (l : List (Nat × Value)) (f : Nat → Value) (ib : Nat) (s : ByteArray) (A : Option Addr) (n cp : Nat) (jn : Bool) (h3 : lk l f 3 = .pointer (some ⟨ib, 0, none⟩)) (hib : Blk w ib 24 [.string s, .slice A n cp, .bool jn]) :
    sc1.wp Tryz.prog (NPost fun a w' => ∃ l' cr rb buf, a = Fr 146 ((7, .pointer (some ⟨cr, 0, none⟩)) :: l') f ∧ SKeeps [] l f l' ∧ Below w.heap.size w w' ∧ w.heap.size ≤ cr ∧ w.heap.size ≤ rb ∧ w.heap.size ≤ buf ∧ Blk w' w.heap.size 61 [.string s, .slice A n cp, .bool jn] ∧
      Blk w' rb 163 [.slice (some ⟨buf, 0, none⟩) 4096 4096, .iface 59 (.pointer (some ⟨w.heap.size, 0, none⟩)), .int .i64 0, .int .i64 0, .nilIface, .int .i64 (-1), .int .i64 (-1)] ∧ Blk w' buf 5 (zeros.map b8) ∧ Blk w' cr 66 (rdCells 44 0 0 false false false rb)) (Fr 146 l f) w := by
  dsimp only [sc1, scanBody, part, part.sub2', sub1, sub2, Tryz.f6, Option.getD]
  have hc := hib.cell
  have cN := NewReader_any w.heap.size (w.alloc (.cells #[.string s, .slice A n cp, .bool jn] 61))
  have hb0 : Below w.heap.size w (w.alloc (.cells #[.string s, .slice A n cp, .bool jn] 61)) := (Below.refl _ w).alloc (Nat.le_refl _) _
  have hs0 := Blk.new_arr w 61 #[.string s, .slice A n cp, .bool jn]
  have HS := Lib.hid (And.intro hb0 hs0)
  clear hib hb0 hs0
  go_wp
  refine cN.mono ?_
  rintro e w1 ⟨cr, rb, buf, rfl, h⟩
  dsimp only
  have HR := Lib.hid h
  clear h cN hc
  go_wp
  obtain ⟨hb0, hs0⟩ := HS.out
  obtain ⟨h1, h2, h3', h4, h5, h6, h7⟩ := HR.out
  have hsz : (w.alloc (.cells #[.string s, .slice A n cp, .bool jn] 61)).heap.size = w.heap.size + 1 := by simp
  rw [hsz] at h2 h3' h4
  exact NPost.mk ⟨_, cr, rb, buf, rfl, (by repeat first | exact SKeeps.refl _ _ _ | refine SKeeps.far (by decide) ?_ | refine SKeeps.set (by decide) ?_), hb0.trans (h1.mono hb0.size), by omega, by omega, by omega, hs0.below h1 hs0.lt, h5, h6, h7⟩
noncomputable def sc2 : Code := part [true, true, false] scanBody
set_option maxRecDepth 100000 in
theorem scan_p2 (w : World) (l : List (Nat × Value)) (f : Nat → Value) (ob cr rb : Nat) (comma comment expect : Int) (lz tr re : Bool) (h4 : lk l f 4 = .pointer (some ⟨ob, 0, none⟩)) (h7 : lk l f 7 = .pointer (some ⟨cr, 0, none⟩)) (hob : Blk w ob 26 (optCells comma comment expect lz tr re)) (hcr : Blk w cr 66 (rdCells 44 0 0 false false false rb)) :
    sc2.wp Tryz.prog (NPost fun a w' => ∃ l', a = Fr 146 l' f ∧ SKeeps [] l f l' ∧ Only (fun k => k = cr) w w' ∧ Blk w' cr 66 (rdCells (if comma = 0 then 44 else comma) 0 0 false false false rb)) (Fr 146 l f) w := by
  dsimp only [sc2, scanBody, part, part.sub2', sub1, sub2, Tryz.f6, Option.getD]
  have hc := hob.cell
  have hd := hcr.cell
  have hz := hcr.frozen
  unfold optCells at hc
  unfold rdCells at hd
  have HC := Lib.hid hcr
  clear hob hcr
  by_cases h0 : comma = 0
  · have hb : (comma != 0) = false := by simp [h0]
    rw [if_pos h0]
    clear h0
    go_wp
    refine wp_if_false rfl (by simp [lk]) ?_
    refine wp_skip ?_
    exact NPost.mk ⟨_, rfl, (by repeat first | exact SKeeps.refl _ _ _ | refine SKeeps.far (by decide) ?_ | refine SKeeps.set (by decide) ?_), Only.refl _ _, HC.out⟩
  · have hb : (comma != 0) = true := by simp [h0]
    rw [if_neg h0]
    clear h0
    go_wp
    refine wp_if_true rfl (by simp [lk]) ?_
    go_wp
    exact NPost.mk ⟨_, rfl, (by repeat first | exact SKeeps.refl _ _ _ | refine SKeeps.far (by decide) ?_ | refine SKeeps.set (by decide) ?_), (Only.refl (fun k => k = cr) w).setCell (p := ⟨cr, 0, none⟩) (fun _ => rfl) _, HC.out.set 0 _⟩
noncomputable def sc4 : Code := part [true, true, true, false] scanBody
set_option maxRecDepth 100000 in
set_option maxHeartbeats 2000000 in
theorem scan_p4 (w : World) (l : List (Nat × Value)) (f : Nat → Value) (ob cr rb : Nat) (c0 comma comment expect : Int) (lz tr re : Bool) (h4 : lk l f 4 = .pointer (some ⟨ob, 0, none⟩)) (h7 : lk l f 7 = .pointer (some ⟨cr, 0, none⟩)) (hob : Blk w ob 26 (optCells comma comment expect lz tr re)) (hcr : Blk w cr 66 (rdCells c0 0 0 false false false rb)) :
    sc4.wp Tryz.prog (NPost fun a w' => ∃ l', a = Fr 146 l' f ∧ SKeeps [] l f l' ∧ Only (fun k => k = cr) w w' ∧ Blk w' cr 66 (rdCells c0 comment expect lz tr re rb)) (Fr 146 l f) w := by
  dsimp only [sc4, scanBody, part, part.sub2', sub1, sub2, Tryz.f6, Option.getD]
  have hne : ob ≠ cr := hob.ne hcr (by decide)
  refine held_start (fun w' => Blk w' ob 26 (optCells comma comment expect lz tr re)) [] mixed ?_
  have hS0 : Blk w.drew ob 26 (optCells comma comment expect lz tr re) := hob
  have hR0 : Blk w.drew cr 66 (rdCells c0 0 0 false false false rb) := hcr
  have hO0 : Only (fun k => k = cr) w w.drew := (Only.refl (fun k => k = cr) w).drew
  refine take 0 _ _ ?tv1 rfl rfl (by kernel_rfl) hS0 (by intro c a d v w h; cases d <;> exact h) ?th1 ?tn1
  case th1 => intro w' hS K hK; have hc := Blk.cell hS; unfold optCells at hc; go_simp; exact hK
  refine take 1 _ _ ?tv2 rfl rfl (by kernel_rfl) hS0 (by intro c a d v w h; cases d <;> exact h) ?th2 ?tn2
  case th2 => intro w' hS K hK; have hc := Blk.cell hS; unfold optCells at hc; go_simp; exact hK
  refine take 2 _ _ ?tv3 rfl rfl (by kernel_rfl) hS0 (by intro c a d v w h; cases d <;> exact h) ?th3 ?tn3
  case th3 => intro w' hS K hK; have hc := Blk.cell hS; unfold optCells at hc; go_simp; exact hK
  refine take 3 _ _ ?tv4 rfl rfl (by kernel_rfl) hS0 (by intro c a d v w h; cases d <;> exact h) ?th4 ?tn4
  case th4 => intro w' hS K hK; have hc := Blk.cell hS; unfold optCells at hc; go_simp; exact hK
  refine take 4 _ _ ?tv5 rfl rfl (by kernel_rfl) hS0 (by intro c a d v w h; cases d <;> exact h) ?th5 ?tn5
  case th5 => intro w' hS K hK; have hc := Blk.cell hS; unfold optCells at hc; go_simp; exact hK
  refine take 5 _ _ ?tv6 rfl rfl (by kernel_rfl) hS0 (by intro c a d v w h; cases d <;> exact h) ?th6 ?tn6
  case th6 => intro w' hS K hK; have hc := Blk.cell hS; unfold optCells at hc; go_simp; exact hK
  refine take 6 _ _ ?tv7 rfl rfl (by kernel_rfl) hS0 (by intro c a d v w h; cases d <;> exact h) ?th7 ?tn7
  case th7 => intro w' hS K hK; have hc := Blk.cell hS; unfold optCells at hc; go_simp; exact hK
  refine take 7 _ _ ?tv8 rfl rfl (by kernel_rfl) hS0 (by intro c a d v w h; cases d <;> exact h) ?th8 ?tn8
  case th8 => intro w' hS K hK; have hc := Blk.cell hS; unfold optCells at hc; go_simp; exact hK
  refine take 8 _ _ ?tv9 rfl rfl (by kernel_rfl) hS0 (by intro c a d v w h; cases d <;> exact h) ?th9 ?tn9
  case th9 => intro w' hS K hK; have hc := Blk.cell hS; unfold optCells at hc; go_simp; exact hK
  refine take 9 _ _ ?tv10 rfl rfl (by kernel_rfl) hS0 (by intro c a d v w h; cases d <;> exact h) ?th10 ?tn10
  case th10 => intro w' hS K hK; have hc := Blk.cell hS; unfold optCells at hc; go_simp; exact hK
  refine take 10 _ _ ?tv11 rfl rfl (by kernel_rfl) hS0 (by intro c a d v w h; cases d <;> exact h) ?th11 ?tn11
  case th11 => intro w' hS K hK; have hc := Blk.cell hS; unfold optCells at hc; go_simp; exact hK
  refine take 11 _ _ ?tv12 rfl rfl (by kernel_rfl) hS0 (by intro c a d v w h; cases d <;> exact h) ?th12 ?tn12
  case th12 => intro w' hS K hK; have hc := Blk.cell hS; unfold optCells at hc; go_simp; exact hK
  refine take 12 _ _ ?tv13 rfl rfl (by kernel_rfl) hS0 (by intro c a d v w h; cases d <;> exact h) ?th13 ?tn13
  case th13 => intro w' hS K hK; have hc := Blk.cell hS; unfold optCells at hc; go_simp; exact hK
  refine take 13 _ _ ?tv14 rfl rfl (by kernel_rfl) hS0 (by intro c a d v w h; cases d <;> exact h) ?th14 ?tn14
  case th14 => intro w' hS K hK; have hc := Blk.cell hS; unfold optCells at hc; go_simp; exact hK
  refine take 14 _ _ ?tv15 rfl rfl (by kernel_rfl) hS0 (by intro c a d v w h; cases d <;> exact h) ?th15 ?tn15
  case th15 => intro w' hS K hK; have hc := Blk.cell hS; unfold optCells at hc; go_simp; exact hK
  obtain ⟨w0, hw0⟩ : ∃ w0, w0 = w.drew := ⟨_, rfl⟩
  rw [← hw0] at hS0 hR0 hO0 ⊢
  clear hw0 hob hcr
  refine held_alone 15 _ rfl (by kernel_rfl) ?_
  go_wp
  refine ⟨fun _ => hS0, ?_⟩
  refine held_alone 16 _ rfl (by kernel_rfl) ?_
  go_wp
  refine ⟨fun _ => hS0, ?_⟩
  refine held_alone 17 _ rfl (by kernel_rfl) ?_
  have hz := hR0.frozen
  have hc := hR0.cell
  unfold rdCells at hc
  go_wp
  have hR1 : Blk (w0.setCell ⟨cr, 1, none⟩ (.int .i32 comment)) cr 66 (rdCells c0 comment 0 false false false rb) := hR0.set 1 _
  have hS1 : Blk (w0.setCell ⟨cr, 1, none⟩ (.int .i32 comment)) ob 26 (optCells comma comment expect lz tr re) := hS0.far (p := ⟨cr, 1, none⟩) hne _
  have hO1 : Only (fun k => k = cr) w (w0.setCell ⟨cr, 1, none⟩ (.int .i32 comment)) := hO0.setCell (p := ⟨cr, 1, none⟩) (fun _ => rfl) _
  refine ⟨fun _ => hS1, ?_⟩
  clear hz hc hR0 hS0 hO0
  obtain ⟨w1, hw1⟩ : ∃ w1, w1 = w0.setCell ⟨cr, 1, none⟩ (.int .i32 comment) := ⟨_, rfl⟩
  rw [← hw1] at hR1 hS1 hO1 ⊢
  clear hw1
  refine held_alone 18 _ rfl (by kernel_rfl) ?_
  go_wp
  refine ⟨fun _ => hS1, ?_⟩
  refine held_alone 19 _ rfl (by kernel_rfl) ?_
  go_wp
  refine ⟨fun _ => hS1, ?_⟩
  refine held_alone 20 _ rfl (by kernel_rfl) ?_
  have hz := hR1.frozen
  have hc := hR1.cell
  unfold rdCells at hc
  go_wp
  have hR2 : Blk (w1.setCell ⟨cr, 2, none⟩ (.int .i64 expect)) cr 66 (rdCells c0 comment expect false false false rb) := hR1.set 2 _
  have hS2 : Blk (w1.setCell ⟨cr, 2, none⟩ (.int .i64 expect)) ob 26 (optCells comma comment expect lz tr re) := hS1.far (p := ⟨cr, 2, none⟩) hne _
  have hO2 : Only (fun k => k = cr) w (w1.setCell ⟨cr, 2, none⟩ (.int .i64 expect)) := hO1.setCell (p := ⟨cr, 2, none⟩) (fun _ => rfl) _
  refine ⟨fun _ => hS2, ?_⟩
  clear hz hc hR1 hS1 hO1
  obtain ⟨w2, hw2⟩ : ∃ w2, w2 = w1.setCell ⟨cr, 2, none⟩ (.int .i64 expect) := ⟨_, rfl⟩
  rw [← hw2] at hR2 hS2 hO2 ⊢
  clear hw2
  refine held_alone 21 _ rfl (by kernel_rfl) ?_
  go_wp
  refine ⟨fun _ => hS2, ?_⟩
  refine held_alone 22 _ rfl (by kernel_rfl) ?_
  go_wp
  refine ⟨fun _ => hS2, ?_⟩
  refine held_alone 23 _ rfl (by kernel_rfl) ?_
  have hz := hR2.frozen
  have hc := hR2.cell
  unfold rdCells at hc
  go_wp
  have hR3 : Blk (w2.setCell ⟨cr, 3, none⟩ (.bool lz)) cr 66 (rdCells c0 comment expect lz false false rb) := hR2.set 3 _
  have hS3 : Blk (w2.setCell ⟨cr, 3, none⟩ (.bool lz)) ob 26 (optCells comma comment expect lz tr re) := hS2.far (p := ⟨cr, 3, none⟩) hne _
  have hO3 : Only (fun k => k = cr) w (w2.setCell ⟨cr, 3, none⟩ (.bool lz)) := hO2.setCell (p := ⟨cr, 3, none⟩) (fun _ => rfl) _
  refine ⟨fun _ => hS3, ?_⟩
  clear hz hc hR2 hS2 hO2
  obtain ⟨w3, hw3⟩ : ∃ w3, w3 = w2.setCell ⟨cr, 3, none⟩ (.bool lz) := ⟨_, rfl⟩
  rw [← hw3] at hR3 hS3 hO3 ⊢
  clear hw3
  refine held_alone 24 _ rfl (by kernel_rfl) ?_
  go_wp
  refine ⟨fun _ => hS3, ?_⟩
  refine held_alone 25 _ rfl (by kernel_rfl) ?_
  go_wp
  refine ⟨fun _ => hS3, ?_⟩
  refine held_alone 26 _ rfl (by kernel_rfl) ?_
  have hz := hR3.frozen
  have hc := hR3.cell
  unfold rdCells at hc
  go_wp
  have hR4 : Blk (w3.setCell ⟨cr, 4, none⟩ (.bool tr)) cr 66 (rdCells c0 comment expect lz tr false rb) := hR3.set 4 _
  have hS4 : Blk (w3.setCell ⟨cr, 4, none⟩ (.bool tr)) ob 26 (optCells comma comment expect lz tr re) := hS3.far (p := ⟨cr, 4, none⟩) hne _
  have hO4 : Only (fun k => k = cr) w (w3.setCell ⟨cr, 4, none⟩ (.bool tr)) := hO3.setCell (p := ⟨cr, 4, none⟩) (fun _ => rfl) _
  refine ⟨fun _ => hS4, ?_⟩
  clear hz hc hR3 hS3 hO3
  obtain ⟨w4, hw4⟩ : ∃ w4, w4 = w3.setCell ⟨cr, 4, none⟩ (.bool tr) := ⟨_, rfl⟩
  rw [← hw4] at hR4 hS4 hO4 ⊢
  clear hw4
  refine held_alone 27 _ rfl (by kernel_rfl) ?_
  go_wp
  refine ⟨fun _ => hS4, ?_⟩
  refine held_alone 28 _ rfl (by kernel_rfl) ?_
  go_wp
  refine ⟨fun _ => hS4, ?_⟩
  refine held_alone 29 _ rfl (by kernel_rfl) ?_
  have hz := hR4.frozen
  have hc := hR4.cell
  unfold rdCells at hc
  go_wp
  have hR5 : Blk (w4.setCell ⟨cr, 5, none⟩ (.bool re)) cr 66 (rdCells c0 comment expect lz tr re rb) := hR4.set 5 _
  have hS5 : Blk (w4.setCell ⟨cr, 5, none⟩ (.bool re)) ob 26 (optCells comma comment expect lz tr re) := hS4.far (p := ⟨cr, 5, none⟩) hne _
  have hO5 : Only (fun k => k = cr) w (w4.setCell ⟨cr, 5, none⟩ (.bool re)) := hO4.setCell (p := ⟨cr, 5, none⟩) (fun _ => rfl) _
  refine ⟨fun _ => hS5, ?_⟩
  clear hz hc hR4 hS4 hO4
  obtain ⟨w5, hw5⟩ : ∃ w5, w5 = w4.setCell ⟨cr, 5, none⟩ (.bool re) := ⟨_, rfl⟩
  rw [← hw5] at hR5 hS5 hO5 ⊢
  clear hw5
  refine held_done (by kernel_rfl) ?_
  exact NPost.mk ⟨_, rfl, (by repeat first | exact SKeeps.refl _ _ _ | refine SKeeps.far (by decide) ?_ | refine SKeeps.set (by decide) ?_), hO5, hR5⟩
end Go.Proofs.YtfadgnopfjajbaaGreatDoor
namespace Go.Proofs.YtfadgnopfjajbaaGreatDoor
open Go.RowKit
theorem AnsAt.wide {B : Nat} {w : World} {M : Nat → Prop} {cells : List Value} {a : Csv.Ans} (h : AnsAt B w M cells a) {ab : Nat} {cs : List Value} (hab : Blk w ab 53 cs) : AnsAt B w (fun k => M k ∨ k = ab) cells a := by
  obtain ⟨rv, lv, sv, vs, h1, h2, h3, h4, h5, h6, h7, h8⟩ := h.form
  have aw : ∀ v fs, StrS B w v fs → Away M v → Away (fun k => M k ∨ k = ab) v := fun v fs hs ha k hk h => h.elim (ha k hk) (fun e => own_ne hs hab (by decide) (by rw [hk, e]))
  refine ⟨rv, lv, sv, vs, h1, h2, aw rv _ h2 h3, h4, aw lv _ h4 h5, h6, fun k hk h => h.elim (h7 k hk) (fun e => own_ne h6.row hab (by decide) (by rw [hk, e])), fun u hu => ?_⟩
  obtain ⟨fs, hs⟩ := h6.mem hu
  exact aw u fs hs (h8 u hu)
section
variable {B : Nat} {G : Glob} {w1 w2 w3 : World} {n : Nat} {c : CSt} {r : RSt} {gs : List Nat} {kb ab : Nat} {av av' : Value} {s : Csv.Ses}
theorem SInv.close (h : SInv B G w1 n c r gs kb av s) (css : List (List Value)) (hcl : css.length = s.answers.length) (hce : ∀ (i : Nat) (cs : List Value) (a : Csv.Ans), css[i]? = some cs → s.answers[i]? = some a → AnsAt B w1 (Mut c gs kb av) cs a)
    {zc : List Value} (hab : Blk w1 ab 53 zc) (habB : B ≤ ab) (habn : ¬ Mut c gs kb av ab) (hO12 : Only (fun k => k = ab ∨ k = kb) w1 w2) (x : Csv.Ref) (hx : refOk s.arrays x) (hn : s.kept.length < n)
    (hkb2 : Blk w2 kb 36 ((s.kept ++ [x]).map (refV gs s.arrays) ++ List.replicate (n - (s.kept ++ [x]).length) (.slice none 0 0)))
    (cells : List Value) (a : Csv.Ans) (hans : AnsAt B w2 (Mut c gs kb av) cells a) (hab2 : Blk w2 ab 53 cells) (hrow : w3.ownsRow B 53 11 av' (s.answers.length + 1) (css.flatten ++ cells)) (hO23 : Only (fun q => av.ownBlock = some q) w2 w3) (hav : av'.ownBlock = av.ownBlock ∨ ∃ g, av'.ownBlock = some g ∧ w2.heap.size ≤ g) :
    SInv B G w3 n c r gs kb av' { s with kept := s.kept ++ [x], answers := s.answers ++ [a] } := by
  have hkf := h.kb_far
  have hO13 : Only (fun k => Mut c gs kb av k ∨ k = ab) w1 w3 := (hO12.mono (fun k _ h => h.elim .inr (fun e => .inl (.inr (.inr (.inl e)))))).trans hO23 (fun k _ h => .inl (.inr (.inr (.inr h))))
  have hroot : ∀ k, Mut c gs kb av' k → (Mut c gs kb av k ∨ k = ab) ∨ w1.heap.size ≤ k := by
    rintro k (h1 | h1 | h1 | h1)
    · exact .inl (.inl (.inl h1))
    · exact .inl (.inl (.inr (.inl h1)))
    · exact .inl (.inl (.inr (.inr (.inl h1))))
    · rcases hav with e | ⟨g, e, hg⟩
      · exact .inl (.inl (.inr (.inr (.inr (e ▸ h1)))))
      · have : some g = some k := e.symm.trans h1
        injection this with this
        exact .inr (by have := hO12.size; omega)
  have ht : Turns (fun k => Mut c gs kb av k ∨ k = ab) w1 (Mut c gs kb av') w3 := ⟨hO13, hroot⟩
  have hroot2 : ∀ k, Mut c gs kb av' k → (Mut c gs kb av k ∨ k = ab) ∨ w2.heap.size ≤ k := by
    rintro k (h1 | h1 | h1 | h1)
    · exact .inl (.inl (.inl h1))
    · exact .inl (.inl (.inr (.inl h1)))
    · exact .inl (.inl (.inr (.inr (.inl h1))))
    · rcases hav with e | ⟨g, e, hg⟩
      · exact .inl (.inl (.inr (.inr (.inr (e ▸ h1)))))
      · have : some g = some k := e.symm.trans h1
        injection this with this
        exact .inr (by omega)
  have ht2 : Turns (fun k => Mut c gs kb av k ∨ k = ab) w2 (Mut c gs kb av') w3 := ⟨hO23.mono (fun k _ h => .inl (.inr (.inr (.inr h)))), hroot2⟩
  have hfarO : Only (fun k => k = ab ∨ k = kb ∨ av.ownBlock = some k) w1 w3 := (hO12.mono (fun k _ h => h.imp id .inl)).trans hO23 (fun k _ h => .inr (.inr h))
  have hcn : ∀ k, (k = ab ∨ k = kb ∨ av.ownBlock = some k) → B ≤ k ∧ ¬ c.rown k := by
    rintro k (rfl | rfl | h1)
    · exact ⟨habB, fun o => habn (.inl o)⟩
    · exact ⟨h.keptB, hkf.1⟩
    · exact ⟨(h.av_far k h1).2.1, (h.av_far k h1).1⟩
  have hbel : Below B w1 w3 := hfarO.below h.size (fun k hk => (hcn k hk).1)
  refine ⟨h.inv.only hfarO hcn, h.rd, h.cache, h.reuse, ?_, h.okLast, h.okCache, ?_, ?_, h.keptB, ?_, ?_, ?_, h.ety.keep hbel⟩
  · refine ⟨h.arrs.len, fun i g arr e1 e2 => ?_, h.arrs.nodup⟩
    obtain ⟨hb, hB, hl⟩ := h.arrs.blk i g arr e1 e2
    have hg := List.mem_of_getElem? e1
    refine ⟨hb.only hfarO ?_, hB, hl⟩
    rintro (e | e | e)
    · exact habn (.inr (.inl (e ▸ hg)))
    · exact hkf.2.1 (e ▸ hg)
    · exact (h.gs_far g hg).2.1 e
  · intro y hy
    rcases List.mem_append.1 hy with hy | hy
    · exact h.okKept y hy
    · simp at hy; subst hy; exact hx
  · exact hkb2.only hO23 hkf.2.2
  · simp; omega
  · refine ⟨css ++ [cells], ?_, by simp [hcl], fun i cs b e1 e2 => ?_⟩
    · have e1 : (s.answers ++ [a]).length = s.answers.length + 1 := by simp
      have e2 : (css ++ [cells]).flatten = css.flatten ++ cells := by simp
      show w3.ownsRow B 53 11 av' (s.answers ++ [a]).length (css ++ [cells]).flatten
      rw [e1, e2]; exact hrow
    · have e2' : (s.answers ++ [a])[i]? = some b := e2
      rcases Nat.lt_or_ge i css.length with hi | hi
      · rw [List.getElem?_append_left hi] at e1
        rw [List.getElem?_append_left (by omega)] at e2'
        exact ((hce i cs b e1 e2').wide hab).turn ht
      · rw [List.getElem?_append_right hi] at e1
        rw [List.getElem?_append_right (by omega)] at e2'
        have hi0 : i - css.length = 0 := by
          rcases Nat.eq_zero_or_pos (i - css.length) with h' | h'
          · exact h'
          · rw [List.getElem?_eq_none (by simp; omega)] at e1; cases e1
        rw [hi0] at e1
        rw [← hcl, hi0] at e2'
        simp at e1 e2'
        subst e1 e2'
        exact (hans.wide hab2).turn ht2
  · have := h.same; simp; omega
end
/-- ReadAll keeps the text tame. -/
theorem Tames.all {o : Csv.Opt} : ∀ (n : Nat) (rd : Csv.Rd) (acc : List (List (List UInt8))), Tames o rd → Tames o (rd.all o n acc).2.2
  | 0, rd, acc, h => h
  | n + 1, rd, acc, h => by
    unfold Csv.Rd.all
    have hn := h.next
    cases hr : rd.read o with
    | mk a p =>
      obtain ⟨f, rd'⟩ := p
      rw [hr] at hn
      simp only
      split
      · exact hn
      · split
        · exact hn
        · exact Tames.all n rd' _ hn
end Go.Proofs.YtfadgnopfjajbaaGreatDoor
