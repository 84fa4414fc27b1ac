/- A part of the proof:  -/
import Derived.WalkKit
import Derived.WalkSpells
import Derived.WalkLawsBesides
import Derived.StillTailTactics
import Derived.BigQuiet
import Derived.Deep.QuietTactic
import Derived.Lib.BufferWrite
import Derived.Test.YtfadgnopfjajbaaGreatDoorProg
import Derived.Lib.Hide
import Derived.Lib.Strings
import Derived.OrdersHeld
namespace Go.Proofs.YtfadgnopfjajbaaGreatDoor
open Go.RowKit

/-- What slot k holds. -/
def lk : List (Nat × Value) → (Nat → Value) → Nat → Value
  | [], f, k => f k
  | (j, v) :: l, f, k => if k = j then v else lk l f k
theorem lk_nil (f : Nat → Value) (k : Nat) : lk [] f k = f k := rfl
theorem lk_same (l : List (Nat × Value)) (f : Nat → Value) (k : Nat) (v : Value) : lk ((k, v) :: l) f k = v := by simp [lk]
theorem lk_ne (l : List (Nat × Value)) (f : Nat → Value) (k j : Nat) (v : Value) (h : (k == j) = false) : lk ((j, v) :: l) f k = lk l f k := by simp at h; simp [lk, h]

/-- A frame of n slots. -/
def Fr (n : Nat) (l : List (Nat × Value)) (f : Nat → Value) : Act := ⟨((List.range n).map (lk l f)).toArray, []⟩
theorem Fr_get? (n : Nat) (l : List (Nat × Value)) (f : Nat → Value) (k : Nat) (h : decide (k < n) = true) : (Fr n l f).tmps[k]? = some (lk l f k) := by
  simp at h
  simp [Fr, h]
theorem Fr_elem (n : Nat) (l : List (Nat × Value)) (f : Nat → Value) (k : Nat) (h : k < (Fr n l f).tmps.size) : (Fr n l f).tmps[k] = lk l f k := by
  simp [Fr]
theorem Fr_eval (n : Nat) (l : List (Nat × Value)) (f : Nat → Value) (k : Nat) (h : decide (k < n) = true) : (Fr n l f).eval (.tmp k) = lk l f k := by
  simp at h
  simp [Fr, Act.eval, h]
theorem Fr_put (n : Nat) (l : List (Nat × Value)) (f : Nat → Value) (k : Nat) (v : Value) : (Fr n l f).put (some k) v = Fr n ((k, v) :: l) f := by
  simp only [Fr, Act.put]
  congr 1
  apply Array.ext
  · simp
  · intro i h1 h2
    simp at h1 h2
    by_cases hik : k = i
    · subst hik; simp [lk]
    · simp [hik, lk, Ne.symm hik]
theorem Fr_put_none (n : Nat) (l : List (Nat × Value)) (f : Nat → Value) (v : Value) : (Fr n l f).put none v = Fr n l f := rfl
theorem Fr_mk (n : Nat) (l : List (Nat × Value)) (f : Nat → Value) (k : Nat) (v : Value) : (Act.mk ((Fr n l f).tmps.setIfInBounds k v) (Fr n l f).defers) = Fr n ((k, v) :: l) f := by
  rw [← Fr_put]; rfl
theorem Fr_mk_nil (n : Nat) (l : List (Nat × Value)) (f : Nat → Value) (k : Nat) (v : Value) : (Act.mk ((Fr n l f).tmps.setIfInBounds k v) []) = Fr n ((k, v) :: l) f := Fr_mk n l f k v
theorem Fr_get (n : Nat) (l : List (Nat × Value)) (f : Nat → Value) (k : Nat) (h : decide (k < n) = true) : (Fr n l f).tmps[k]?.getD undef = lk l f k := by
  rw [Fr_get? n l f k h]; rfl
theorem Fr_getD (n : Nat) (l : List (Nat × Value)) (f : Nat → Value) (k : Nat) (h : decide (k < n) = true) : (Fr n l f).tmps.getD k undef = lk l f k := by
  rw [Array.getD_eq_getD_getElem?]; exact Fr_get n l f k h
theorem Fr_defers (n : Nat) (l : List (Nat × Value)) (f : Nat → Value) : (Fr n l f).defers = [] := rfl
theorem Fr_size (n : Nat) (l : List (Nat × Value)) (f : Nat → Value) : (Fr n l f).tmps.size = n := by simp [Fr]

/-- Some slots told anew, the others forgotten. -/
theorem Fr_forget (n : Nat) (l : List (Nat × Value)) (f : Nat → Value) (l' : List (Nat × Value)) (h : ∀ p ∈ l', lk l f p.1 = p.2) : Fr n l f = Fr n l' (lk l f) := by
  have e : lk l' (lk l f) = lk l f := by
    funext k
    induction l' with
    | nil => rfl
    | cons p l' ih =>
      obtain ⟨j, v⟩ := p
      simp only [lk]
      split
      · rename_i hk
        subst hk
        exact (h (k, v) (by simp)).symm
      · exact ih (fun q hq => h q (by simp [hq]))
  simp only [Fr, e]
/-- The same at a goal: l' is what is kept. -/
theorem Fr_keep {n : Nat} {l : List (Nat × Value)} {f : Nat → Value} (l' : List (Nat × Value)) {K : Act → Prop} (h : ∀ p ∈ l', lk l f p.1 = p.2) (hK : ∀ g : Nat → Value, K (Fr n l' g)) : K (Fr n l f) := by
  rw [Fr_forget n l f l' h]; exact hK _
/-- The list of what is told, in another order or with less. -/
def tells (l : List (Nat × Value)) (f : Nat → Value) : List (Nat × Value) → Prop
  | [] => True
  | (k, v) :: t => lk l f k = v ∧ tells l f t
theorem tells_all {l : List (Nat × Value)} {f : Nat → Value} : ∀ {l' : List (Nat × Value)}, tells l f l' → ∀ p ∈ l', lk l f p.1 = p.2
  | [], _, p, hp => by cases hp
  | (k, v) :: t, h, p, hp => by
    rcases List.mem_cons.1 hp with rfl | hp
    · exact h.1
    · exact tells_all h.2 p hp

section
variable {P : Program} {Q : Exit → Act → World → Prop} {w : World} {n : Nat} {l : List (Nat × Value)} {f : Nat → Value}
theorem wp_keep {c : Code} (l' : List (Nat × Value)) (h : tells l f l') (hK : ∀ g : Nat → Value, c.wp P Q (Fr n l' g) w) : c.wp P Q (Fr n l f) w :=
  Fr_keep (K := fun a => c.wp P Q a w) l' (tells_all h) hK
theorem Q_keep {e : Exit} (l' : List (Nat × Value)) (h : tells l f l') (hK : ∀ g : Nat → Value, Q e (Fr n l' g) w) : Q e (Fr n l f) w :=
  Fr_keep (K := fun a => Q e a w) l' (tells_all h) hK
theorem wp_if {k : Nat} {x y : Code} (t : Bool) (hn : decide (k < n) = true) (hc : lk l f k = .bool t) (ht : t = true → x.wp P Q (Fr n l f) w) (hf : t = false → y.wp P Q (Fr n l f) w) :
    (Code.cond (.tmp k) x y).wp P Q (Fr n l f) w := wp_cond_split ((Fr_eval n l f k hn).trans hc) ht hf
theorem wp_if_true {k : Nat} {x y : Code} (hn : decide (k < n) = true) (hc : lk l f k = .bool true) (h : x.wp P Q (Fr n l f) w) : (Code.cond (.tmp k) x y).wp P Q (Fr n l f) w :=
  wp_cond_true ((Fr_eval n l f k hn).trans hc) h
theorem wp_if_false {k : Nat} {x y : Code} (hn : decide (k < n) = true) (hc : lk l f k = .bool false) (h : y.wp P Q (Fr n l f) w) : (Code.cond (.tmp k) x y).wp P Q (Fr n l f) w :=
  wp_cond_false ((Fr_eval n l f k hn).trans hc) h
end

/-- Where ways meet again: R is what holds there. -/
theorem join {P : Program} {c : Code} {K : Act → World → Prop} {Q : Exit → Act → World → Prop} {a : Act} {w : World} (R : Act → World → Prop) (hR : ∀ a w, R a w → K a w) (h : c.wp P (Exit.then R Q) a w) : c.wp P (Exit.then K Q) a w :=
  wp_mono h fun e a w q => by cases e <;> first | exact hR _ _ q | exact q

theorem wp_seq_mid {P : Program} {x y : Code} {Q : Exit → Act → World → Prop} {a : Act} {w : World} (R : Act → World → Prop) (h1 : x.wp P (Exit.then R Q) a w) (h2 : ∀ a w, R a w → y.wp P Q a w) : (Code.seq x y).wp P Q a w :=
  wp_seq (wp_mono h1 fun e a w q => by cases e <;> first | exact h2 _ _ q | exact q)
/-- A mark at which the walk stands still. -/
def Stop (p : Prop) : Prop := p
theorem Stop.mk {p : Prop} (h : p) : Stop p := h
theorem wl_split {P : Program} {ops : Array Oper} {Q : Exit → Act → World → Prop} : ∀ (n : Nat) (l : List Oper) {a : Act} {w : World}, wpList P ops (Exit.then (fun a' w' => Stop (wpList P ops Q (l.drop n) a' w')) Q) (l.take n) a w → wpList P ops Q l a w
  | 0, l, _, _, h => by simpa [wpList, Exit.then, Stop] using h
  | n + 1, [], _, _, h => by simpa [wpList, Exit.then, Stop] using h
  | n + 1, o :: l, a, w, h => by
    simp only [List.take_succ_cons, List.drop_succ_cons, wpList] at h ⊢
    split
    · rename_i hw
      rw [if_pos hw] at h
      rcases h with h | ⟨h1, a0, w0, h2⟩
      · refine .inl ?_
        unfold Oper.wp at h ⊢
        generalize (execOp a.eval o).run P w = r at h ⊢
        cases r with
        | ok m w' =>
          cases m <;> simp only [Oper.upon] at h ⊢
          case value v => exact wl_split n l h
          case skip => exact wl_split n l h
          case defer d => exact wl_split n l h
          case enter f args =>
            refine Calls.mono h fun e w'' he => ?_
            cases e with
            | returned v => exact wl_split n l he
            | panicked c => exact he
            | outgrown => obtain ⟨a1, w1, h3⟩ := he; exact ⟨a1, w1, h3⟩
          case row row args => exact Rows.mono h fun v w'' he => wl_split n l he
        | halt x w' => cases x <;> simp only [Oper.upon, Exit.then] at h ⊢ <;> exact h
      · exact .inr ⟨h1, a0, w0, h2⟩
    · rename_i hw
      rw [if_neg hw] at h
      exact wl_split n l h
/-- A plain region, its first n operations first. -/
theorem region_split {P : Program} {id : Nat} {Q : Exit → Act → World → Prop} {a : Act} {w : World} {l : List Oper} (n : Nat) (h : wpList P l.toArray (Exit.then (fun a' w' => Stop (wpList P l.toArray Q (l.drop n) a' w')) Q) (l.take n) a w) : (Code.region id l.toArray false).wp P Q a w :=
  wp_region_lit (wl_split n l h)
/-- The builtin append, by the equation of its run. -/
theorem wl_append {P : Program} {ops : Array Oper} {Q : Exit → Act → World → Prop} {a : Act} {w w' : World} {rest : List Oper} {o : Oper} {v x y : Value} (s z : Operand) (t : TypeId) (hgd : o.guard = none)
    (ho : o.op = .call { callee := .builtin .append, args := #[s, z], argTypes := #[t, t] }) (hs : a.eval s = x) (hz : a.eval z = y) (hr : (Builtin.append_ #[t, t] o.type #[x, y]).run P w = .ok v w')
    (h : wpList P ops Q rest (a.put o.dst v) w') : wpList P ops Q (o :: rest) a w := by
  refine wpList_plain hgd fun K hK => ?_
  unfold Oper.wp execOp
  simp only [ho, resolve, invoke, builtin, Sem.run_bind, Sem.run_pure, Result.andThen_ok, List.map_toArray, List.map_cons, List.map_nil, hs, hz, hr]
  exact hK _ _ h
/-- Into a function: its arguments in the first slots. -/
theorem Fr_args (n : Nat) (args : List Value) (h : args.length ≤ n) : (Act.mk (args.toArray ++ Array.replicate (n - args.toArray.size) undef) []) = Fr n (args.zipIdx.map fun p => (p.2, p.1)) (fun _ => undef) := by
  simp only [Fr]
  congr 1
  apply Array.ext
  · simp; omega
  · intro i h1 h2
    simp only [List.size_toArray, List.length_map, List.length_range] at h2
    have key : ∀ (vs : List Value) (s j : Nat), lk ((vs.zipIdx s).map fun p => (p.2, p.1)) (fun _ => undef) j = if s ≤ j ∧ j < s + vs.length then vs.getD (j - s) undef else undef := by
      intro vs
      induction vs with
      | nil => intro s j; simp [lk]
      | cons v vs ih =>
        intro s j
        simp only [List.zipIdx_cons, List.map_cons, lk, ih]
        by_cases hj : j = s
        · subst hj; simp
        · rw [if_neg hj]
          by_cases hc : s + 1 ≤ j ∧ j < s + 1 + vs.length
          · rw [if_pos hc, if_pos (by simp; omega)]
            obtain ⟨d, rfl⟩ : ∃ d, j = s + 1 + d := ⟨j - (s + 1), by omega⟩
            have e1 : s + 1 + d - (s + 1) = d := by omega
            have e2 : s + 1 + d - s = d + 1 := by omega
            rw [e1, e2]; simp
          · rw [if_neg hc, if_neg (by simp; omega)]
    have k0 := key args 0 i
    simp only [List.getElem_toArray, List.getElem_map, List.getElem_range]
    rw [k0]
    by_cases hi : i < args.length
    · rw [if_pos (by omega)]
      simp [hi]
    · rw [if_neg (by omega)]
      simp [hi, Array.getElem_append]
theorem enter {P : Program} {f : FuncId} {fn : Func} {c : Code} {args : List Value} {w : World} {R : Ending → World → Prop} (n : Nat)
    (hf : P.funcs[f]? = some fn) (hb : fn.body = some c) (hn : fn.ntmps = n) (hl : args.length ≤ n)
    (h : c.wp P (bodyPost P fn R) (Fr n (args.zipIdx.map fun p => (p.2, p.1)) (fun _ => undef)) w) : Calls P f args.toArray w R := by
  refine calls_of_wp hf hb ?_
  rw [hn, Fr_args n args hl]
  exact h

section
variable {P : Program} {fn : Func} {R : Ending → World → Prop} {w : World} {n : Nat} {l : List (Nat × Value)} {f : Nat → Value}
theorem ret0 (h : fn.results = #[]) (hR : R (.returned (.tuple #[])) w) : bodyPost P fn R .ret (Fr n l f) w := bodyPost_ret (results_none h _ _ _) rfl hR
theorem end0 (h : fn.results = #[]) (hR : R (.returned (.tuple #[])) w) : bodyPost P fn R .normal (Fr n l f) w := bodyPost_end (results_none h _ _ _) rfl hR
theorem ret1 {t : Tmp} (h : fn.results = #[.tmp t]) (hn : decide (t < n) = true) (hR : R (.returned (lk l f t)) w) : bodyPost P fn R .ret (Fr n l f) w :=
  bodyPost_ret (results_tmp h _ _ _) rfl (by rw [Fr_getD n l f t hn]; exact hR)
theorem ret2 {t u : Tmp} (h : fn.results = #[.tmp t, .tmp u]) (hn : decide (t < n) = true) (hm : decide (u < n) = true) (hR : R (.returned (.tuple #[lk l f t, lk l f u])) w) : bodyPost P fn R .ret (Fr n l f) w :=
  bodyPost_ret (results_tmp2 h _ _ _) rfl (by rw [Fr_getD n l f t hn, Fr_getD n l f u hm]; exact hR)
end
/-- A region that draws its order: the first n operations only read; the others come in the order of the text. -/
theorem draw_tail {P : Program} {id : Nat} {Q : Exit → Act → World → Prop} {a : Act} {w : World} {l : List Oper} (n : Nat) (hm : P.follows .mixedOrders = true) (hB : Region.lexTailB .any l.toArray n = true)
    (h : wpStill P l.toArray w.drew (fun a' => wpList P l.toArray Q (l.drop n) a' w.drew) (l.take n) a) : (Code.region id l.toArray true).wp P Q a w :=
  wp_region_still_tail n hm hB h
/-- A region that draws its order and only reads. -/
theorem draw_still {P : Program} {id : Nat} {Q : Exit → Act → World → Prop} {a : Act} {w : World} {l : List Oper} (hm : P.follows .mixedOrders = true) (hB : Region.lexB .any l.toArray = true)
    (h : wpStill P l.toArray w.drew (fun a' => Q .normal a' w.drew) l a) : (Code.region id l.toArray true).wp P Q a w :=
  wp_region_still_lit hm hB h
attribute [irreducible] Fr
attribute [go_sem] Fr_mk Fr_mk_nil Fr_get Fr_getD Fr_elem lk_same lk_ne Fr_defers
attribute [go_sem ↓] Fr_eval Fr_put Fr_put_none Fr_get?
end Go.Proofs.YtfadgnopfjajbaaGreatDoor
namespace Go.Proofs.YtfadgnopfjajbaaGreatDoor
open Go.RowKit

/-- Block g holds the cells cs of element type t, none of them frozen. -/
def Blk (w : World) (g : Nat) (t : TypeId) (cs : List Value) : Prop := w.heap[g]? = some (.cells cs.toArray t (0, 0))

section
variable {w w' : World} {g : Nat} {t : TypeId} {cs : List Value}
theorem Blk.lt (h : Blk w g t cs) : g < w.heap.size := (Array.getElem?_eq_some_iff.1 h).1
theorem Blk.cell (h : Blk w g t cs) (i : Nat) : w.cell? ⟨g, i, none⟩ = cs[i]? := by simp [World.cell?, show w.heap[g]? = _ from h]
theorem Blk.frozen (h : Blk w g t cs) (i : Nat) : w.frozen? ⟨g, i, none⟩ = false := by simp [World.frozen?, show w.heap[g]? = _ from h]
theorem Blk.new (w : World) (t : TypeId) (cs : List Value) : Blk (w.alloc (.cells cs.toArray t)) w.heap.size t cs := heap_alloc_new w _
theorem Blk.new_arr (w : World) (t : TypeId) (cs : Array Value) : Blk (w.alloc (.cells cs t)) w.heap.size t cs.toList := by
  have := heap_alloc_new w (.cells cs t)
  unfold Blk; simpa using this
theorem Blk.set (h : Blk w g t cs) (i : Nat) (u : Value) : Blk (w.setCell ⟨g, i, none⟩ u) g t (cs.set i u) := by
  unfold Blk at h ⊢
  simp [World.setCell, Array.getElem?_modify, h]
theorem Blk.row (h : Blk w g t cs) (ds : List Value) : Blk (w.setRow g ds.toArray) g t ds := setRow_heap w g _ _ t _ h
theorem Blk.eq {cs' : List Value} {t' : TypeId} (h : Blk w g t cs) (h' : Blk w g t' cs') : t = t' ∧ cs = cs' := by
  unfold Blk at h h'
  rw [h] at h'
  injection h' with h'
  injection h' with h1 h2
  exact ⟨h2, by simpa using h1⟩
theorem Blk.ne {g' : Nat} {t' : TypeId} {cs' : List Value} (h : Blk w g t cs) (h' : Blk w g' t' cs') (hne : t ≠ t') : g ≠ g' := by
  rintro rfl
  exact hne (h.eq h').1
end

/-- w' is w but for new blocks and for the blocks of S. -/
structure Only (S : Nat → Prop) (w w' : World) : Prop where
  os : w'.os = w.os
  tape : w'.tape = w.tape
  output : w'.output = w.output
  size : w.heap.size ≤ w'.heap.size
  block : ∀ k, k < w.heap.size → ¬ S k → w'.heap[k]? = w.heap[k]?

section
variable {S T : Nat → Prop} {w w' w'' : World}
theorem Only.refl (S : Nat → Prop) (w : World) : Only S w w := ⟨rfl, rfl, rfl, Nat.le_refl _, fun _ _ _ => rfl⟩
theorem Only.mono (h : Only S w w') (hs : ∀ k, k < w.heap.size → S k → T k) : Only T w w' := ⟨h.os, h.tape, h.output, h.size, fun k hk ht => h.block k hk (fun s => ht (hs k hk s))⟩
theorem Only.trans (h : Only S w w') (h' : Only T w' w'') (hs : ∀ k, k < w.heap.size → T k → S k) : Only S w w'' :=
  ⟨h'.os.trans h.os, h'.tape.trans h.tape, h'.output.trans h.output, Nat.le_trans h.size h'.size, fun k hk hn => (h'.block k (Nat.lt_of_lt_of_le hk h.size) (fun t => hn (hs k hk t))).trans (h.block k hk hn)⟩
theorem Only.then (h : Only S w w') (h' : Only S w' w'') : Only S w w'' := h.trans h' (fun _ _ s => s)
theorem Only.alloc (h : Only S w w') (o : Obj) : Only S w (w'.alloc o) :=
  ⟨h.os, h.tape, h.output, Nat.le_trans h.size (by simp), fun k hk hn => (Below.heap_alloc w' o k (Nat.lt_of_lt_of_le hk h.size)).trans (h.block k hk hn)⟩
theorem Only.drew (h : Only S w w') : Only S w w'.drew := ⟨h.os, h.tape, h.output, h.size, h.block⟩
theorem Only.drewN (h : Only S w w') (n : Nat) : Only S w (w'.drewN n) := ⟨h.os, h.tape, h.output, h.size, h.block⟩
theorem Only.setCell (h : Only S w w') {p : Addr} (hp : p.block < w.heap.size → S p.block) (u : Value) : Only S w (w'.setCell p u) :=
  ⟨h.os, h.tape, h.output, by simpa [World.setCell] using h.size, fun k hk hn => (Below.heap_setCell w' p u k (fun e => hn (e ▸ hp (e ▸ hk)))).trans (h.block k hk hn)⟩
theorem Only.setRow (h : Only S w w') {g : Nat} (hp : g < w.heap.size → S g) (cs : Array Value) : Only S w (w'.setRow g cs) :=
  ⟨h.os, h.tape, h.output, by simpa using h.size, fun k hk hn => (setRow_other w' g k cs (fun e => hn (e ▸ hp (e ▸ hk)))).trans (h.block k hk hn)⟩
theorem Only.of_below {B : Nat} (h : Below B w w') : Only (fun k => B ≤ k) w w' := ⟨h.os, h.tape, h.output, h.size, fun k _ hn => h.block k (by omega)⟩
theorem Only.below {B : Nat} (h : Only S w w') (hB : B ≤ w.heap.size) (hs : ∀ k, S k → B ≤ k) : Below B w w' := ⟨h.os, h.tape, h.output, h.size, fun k hk => h.block k (by omega) (fun s => by have := hs k s; omega)⟩
theorem Only.grown {row : Option Nat} (h : Only S w w') (hg : w'.grownBy w'' row) (hr : ∀ k, row = some k → k < w.heap.size → S k) : Only S w w'' :=
  ⟨hg.os.trans h.os, hg.tape.trans h.tape, hg.output.trans h.output, Nat.le_trans h.size hg.size, fun k hk hn => (hg.block k (Nat.lt_of_lt_of_le hk h.size) (fun e => hn (hr k e.symm hk))).trans (h.block k hk hn)⟩
theorem Blk.only {g : Nat} {t : TypeId} {cs : List Value} (h : Blk w g t cs) (hb : Only S w w') (hg : ¬ S g) : Blk w' g t cs := (hb.block g h.lt hg).trans h
theorem Blk.alloc {g : Nat} {t : TypeId} {cs : List Value} (h : Blk w g t cs) (o : Obj) : Blk (w.alloc o) g t cs := (Below.heap_alloc w o g h.lt).trans h
theorem Blk.drew {g : Nat} {t : TypeId} {cs : List Value} (h : Blk w g t cs) : Blk w.drew g t cs := h
theorem Blk.drewN {g : Nat} {t : TypeId} {cs : List Value} (h : Blk w g t cs) (n : Nat) : Blk (w.drewN n) g t cs := h
theorem Blk.far {g : Nat} {t : TypeId} {cs : List Value} (h : Blk w g t cs) {p : Addr} (hp : g ≠ p.block) (u : Value) : Blk (w.setCell p u) g t cs := (Below.heap_setCell w p u g hp).trans h
theorem Blk.farRow {g : Nat} {t : TypeId} {cs : List Value} (h : Blk w g t cs) {g' : Nat} (hp : g ≠ g') (ds : Array Value) : Blk (w.setRow g' ds) g t cs := (setRow_other w g' g ds hp).trans h
theorem Blk.below {g : Nat} {t : TypeId} {cs : List Value} {B : Nat} (h : Blk w g t cs) (hb : Below B w w') (hg : g < B) : Blk w' g t cs := (hb.block g hg).trans h
theorem Blk.grown {g : Nat} {t : TypeId} {cs : List Value} {row : Option Nat} (h : Blk w g t cs) (hb : w.grownBy w' row) (hg : some g ≠ row) : Blk w' g t cs := (hb.block g h.lt hg).trans h
end

/-- A byte as a value. -/
def b8 (c : UInt8) : Value := .int .u8 (c.toNat : Int)

/-- The slice value v reads as the bytes l: its cells lie in a row of some block. -/
def IsBytes (w : World) (v : Value) (l : List UInt8) : Prop :=
  ∃ (A : Option Addr) (c : Nat), v = .slice A l.length c ∧ l.length ≤ c ∧
    (l ≠ [] → ∃ b o, A = some ⟨b, o, none⟩ ∧ ∀ (j : Nat) (u : UInt8), l[j]? = some u → w.cell? ⟨b, o + j, none⟩ = some (b8 u))

/-- The slice value v reads as the numbers l. -/
def IsInts (w : World) (v : Value) (l : List Int) : Prop :=
  ∃ (A : Option Addr) (c : Nat), v = .slice A l.length c ∧ l.length ≤ c ∧
    (l ≠ [] → ∃ b o, A = some ⟨b, o, none⟩ ∧ ∀ (j : Nat) (u : Int), l[j]? = some u → w.cell? ⟨b, o + j, none⟩ = some (.int .i64 u))
/-- The same, in blocks below B. -/
def IntsBelow (B : Nat) (w : World) (v : Value) (l : List Int) : Prop :=
  ∃ (A : Option Addr) (c : Nat), v = .slice A l.length c ∧ l.length ≤ c ∧ c ≤ 9223372036854775807 ∧
    (l ≠ [] → ∃ b o, A = some ⟨b, o, none⟩ ∧ b < B ∧ ∀ (j : Nat) (u : Int), l[j]? = some u → w.cell? ⟨b, o + j, none⟩ = some (.int .i64 u))
theorem IntsBelow.keep {B : Nat} {w w' : World} {v : Value} {l : List Int} (h : IntsBelow B w v l) (hb : Below B w w') : IntsBelow B w' v l := by
  obtain ⟨A, c, hv, hl, hc, hx⟩ := h
  refine ⟨A, c, hv, hl, hc, fun hne => ?_⟩
  obtain ⟨b, o, hA, hlt, hcell⟩ := hx hne
  exact ⟨b, o, hA, hlt, fun j u hu => (hb.cell (p := ⟨b, o + j, none⟩) hlt).trans (hcell j u hu)⟩

theorem Addr.add_mk (b o k : Nat) : (⟨b, o, none⟩ : Addr).add k = ⟨b, o + k, none⟩ := by
  unfold Addr.add; split <;> simp_all

/-- A stretch of a block of bytes. -/
theorem IsBytes.of_blk {w : World} {g : Nat} {t : TypeId} {bs : List UInt8} (h : Blk w g t (bs.map b8)) (o n c : Nat) (hn : o + n ≤ bs.length) (hc : n ≤ c) :
    IsBytes w (.slice (some ⟨g, o, none⟩) n c) ((bs.drop o).take n) := by
  have hl : ((bs.drop o).take n).length = n := by simp; omega
  refine ⟨some ⟨g, o, none⟩, c, by rw [hl], by rw [hl]; exact hc, fun _ => ⟨g, o, rfl, fun j u hu => ?_⟩⟩
  rw [h.cell, List.getElem?_map]
  rw [List.getElem?_take] at hu
  split at hu
  · rw [List.getElem?_drop] at hu
    rw [hu]; rfl
  · cases hu

/-- 'copy(dst, s)', s a string, as much as fits. -/
theorem run_copy_string_part {P : Program} (w : World) (dT sT ty elem : TypeId) (g o dLen dCap : Nat) (s : ByteArray) (cs : List Value) (t : TypeId)
    (hu : P.underlying dT = some (.slice elem)) (hs : (P.info? elem).map (·.size) = some 1) (hg : Blk w g t cs) (hfit : o + dLen ≤ cs.length) :
    (Builtin.copy_ #[dT, sT] ty #[.slice (some ⟨g, o, none⟩) dLen dCap, .string s]).run P w =
      .ok (.int .i64 ((min s.data.toList.length dLen : Nat) : Int)) (w.setRow g (cs.take o ++ (s.data.toList.take dLen).map b8 ++ cs.drop (o + min s.data.toList.length dLen)).toArray) := by
  have hsz : s.size = s.data.toList.length := (Array.length_toList).symm
  have hlen : ((s.data.toList.take dLen).map b8).length = min s.data.toList.length dLen := by rw [List.length_map, List.length_take, Nat.min_comm]
  have hone : ∀ v ∈ (s.data.toList.take dLen).map b8, v.oneCell' = true := by
    intro v hv
    obtain ⟨b, _, rfl⟩ := List.mem_map.1 hv
    rfl
  have hst := run_storeCells_at P g o t ((s.data.toList.take dLen).map b8) 0 cs.toArray w hg (by rw [hlen]; simp; omega) hone
  rw [hlen] at hst
  simp only [Nat.add_zero] at hst
  have hf : (Builtin.firstCells 1 (Nat.min s.size dLen) (.string s)).run P w = .ok ((s.data.toList.take dLen).map b8).toArray w := by
    have e : (s.extract 0 (Nat.min s.size dLen)).data.map (fun b => Value.int .u8 (b.toNat : Int)) = ((s.data.toList.take dLen).map b8).toArray := by
      apply Array.toList_inj.1
      simp only [ByteArray.data_extract, Array.toList_map, Array.toList_extract, List.extract_eq_take_drop, List.drop_zero, Nat.sub_zero]
      congr 1
      rw [hsz]
      show List.take (min s.data.toList.length dLen) _ = _
      rcases Nat.le_total s.data.toList.length dLen with h | h
      · rw [Nat.min_eq_left h, List.take_of_length_le (Nat.le_refl _), List.take_of_length_le h]
      · rw [Nat.min_eq_right h]
    show (Sem.pure _).run P w = _
    simp only [e]
    rfl
  cases hq : P.info? elem with
  | none => simp [hq] at hs
  | some i =>
    have hi : i.size = 1 := by simpa [hq] using hs
    have hmin : ((Nat.min s.size dLen : Nat) : Int) = ((min s.data.toList.length dLen : Nat) : Int) := by rw [hsz]
    generalize (s.data.toList.take dLen).map b8 = vs at hst hf ⊢
    generalize min s.data.toList.length dLen = m at hst hmin ⊢
    simp [Builtin.copy_, run_underlying hu, Builtin.lenOf, sizeOf, typeInfo, hq, hi]
    rw [hf]
    simp [hst, hmin, goInt]
end Go.Proofs.YtfadgnopfjajbaaGreatDoor
namespace Go.Proofs.YtfadgnopfjajbaaGreatDoor
open Go.RowKit
theorem mixed : Tryz.prog.follows .mixedOrders = true := by kernel_rfl
theorem copy_string_ex {P : Program} (w : World) (dT sT ty elem : TypeId) (g o dLen dCap : Nat) (s : List UInt8) (cs : List Value) (t : TypeId) (n : Nat) (hn : n = min s.length dLen)
    (hu : P.underlying dT = some (.slice elem)) (hs : (P.info? elem).map (·.size) = some 1) (hg : Blk w g t cs) (hfit : o + dLen ≤ cs.length) :
    ∃ w', (Builtin.copy_ #[dT, sT] ty #[.slice (some ⟨g, o, none⟩) dLen dCap, .string ⟨s.toArray⟩]).run P w = .ok (.int .i64 (n : Int)) w' ∧
      Blk w' g t (cs.take o ++ (s.take n).map b8 ++ cs.drop (o + n)) ∧ Only (fun k => k = g) w w' ∧ w'.heap.size = w.heap.size := by
  have h := run_copy_string_part (P := P) w dT sT ty elem g o dLen dCap ⟨s.toArray⟩ cs t hu hs hg hfit
  simp only [← hn] at h
  have htk : s.take dLen = s.take n := by
    rw [hn]
    rcases Nat.le_total s.length dLen with h | h
    · rw [Nat.min_eq_left h, List.take_of_length_le h, List.take_of_length_le (Nat.le_refl _)]
    · rw [Nat.min_eq_right h]
  rw [htk] at h
  exact ⟨_, h, hg.row _, (Only.refl (fun k => k = g) w).setRow (fun _ => rfl) _, by simp⟩
theorem extract_drop (l : List UInt8) (n m : Nat) (h : l.length = m) : (⟨l.toArray⟩ : ByteArray).extract n m = ⟨(l.drop n).toArray⟩ := by
  subst h
  rw [Lib.extract_eq]
  simp [List.take_of_length_le]
theorem ints_tail {B : Nat} {w w' : World} {z : Int} {zs : List Int} {b o c : Nat} (hl : (z :: zs).length ≤ c) (_hc : c ≤ 9223372036854775807) (hb : b < B)
    (hcell : ∀ (j : Nat) (u : Int), (z :: zs)[j]? = some u → w.cell? ⟨b, o + j, none⟩ = some (.int .i64 u)) (hw : Below B w w') :
    IntsBelow B w' (.slice (if c = 1 then some ⟨b, o, none⟩ else some ⟨b, o + 1, none⟩) zs.length (c - 1)) zs := by
  simp only [List.length_cons] at hl
  refine ⟨_, c - 1, rfl, by omega, by omega, fun hne => ?_⟩
  have : zs.length ≠ 0 := fun h => hne (List.eq_nil_of_length_eq_zero h)
  rw [if_neg (by omega)]
  refine ⟨b, o + 1, rfl, hb, fun j u hu => ?_⟩
  rw [show o + 1 + j = o + (j + 1) by omega]
  exact (hw.cell (p := ⟨b, o + (j + 1), none⟩) hb).trans (hcell (j + 1) u (by simpa using hu))
def SrcPost (B s g o m : Nat) (w : World) (all : List UInt8) (joined : Bool) (cs : List Value) (eofV : Value) (e : Ending) (w' : World) : Prop :=
  ∃ (n : Nat) (sz' : Value) (zs' : List Int), 1 ≤ n ∧ n ≤ m ∧ n ≤ all.length ∧
    e = .returned (.tuple #[.int .i64 n, if joined && (all.drop n).isEmpty then eofV else .nilIface]) ∧
    Blk w' s 61 [.string ⟨(all.drop n).toArray⟩, sz', .bool joined] ∧ IntsBelow B w' sz' zs' ∧
    Blk w' g 5 (cs.take o ++ (all.take n).map b8 ++ cs.drop (o + n)) ∧ Only (fun k => k = s ∨ k = g) w w'
set_option maxRecDepth 100000 in
set_option maxHeartbeats 400000 in
theorem srcRead_some (B s g o m c : Nat) (w : World) (c0 : UInt8) (left : List UInt8) (sz : Value) (zs : List Int) (joined : Bool) (cs : List Value) (eofV : Value)
    (hs : Blk w s 61 [.string ⟨(c0 :: left).toArray⟩, sz, .bool joined]) (hz : IntsBelow B w sz zs) (hsB : B ≤ s) (hgB : B ≤ g) (hE : w.cell? ⟨0, 0, none⟩ = some eofV) (hEB : 0 < B)
    (hg : Blk w g 5 cs) (ho : o + m ≤ cs.length) (hsg : s ≠ g) (hll : left.length < 4611686018427387904)
    (hm : 1 ≤ m) (hm2 : m ≤ 4096) (hmc : m ≤ c) (hc : c ≤ 4096) :
    Calls Tryz.prog 135 [.pointer (some ⟨s, 0, none⟩), .slice (some ⟨g, o, none⟩) m c].toArray w (SrcPost B s g o m w (c0 :: left) joined cs eofV) := by
  have hBw : B ≤ w.heap.size := by have := hs.lt; omega
  refine enter 71 Tryz.func135 rfl rfl (by simp) ?_
  have h0 := hs.cell 0
  have h1 := hs.cell 1
  have h2 := hs.cell 2
  have hf := hs.frozen 1
  obtain ⟨A, cz, rfl, hlz, hcz, hzz⟩ := hz
  simp at h0 h1 h2
  go_wp
  refine wp_if_false rfl (by simp [lk]) ?_
  go_wp
  refine join (fun a w' => ∃ (f : Nat → Value) (size : Int) (sz' : Value) (zs' : List Int), 1 ≤ size ∧ a = Fr 71 [(0, .pointer (some ⟨s, 0, none⟩)), (1, .slice (some ⟨g, o, none⟩) m c), (6, .int .i64 size)] f ∧
     Blk w' s 61 [.string ⟨(c0 :: left).toArray⟩, sz', .bool joined] ∧ IntsBelow B w' sz' zs' ∧ Blk w' g 5 cs ∧ Only (fun k => k = s ∨ k = g) w w') ?_ ?_
  · clear h0 h1 h2 hf hs hg hzz hlz hcz
    rintro a w1 ⟨f, size, sz', zs', hsize, rfl, hs1, hz1, hg1, hO1⟩
    obtain ⟨k, hk, hk1, hk2⟩ : ∃ k : Nat, (if (m : Int) < size then (m : Int) else size) = (k : Int) ∧ 1 ≤ k ∧ k ≤ m := by
      split
      · exact ⟨m, rfl, hm, Nat.le_refl _⟩
      · exact ⟨size.toNat, by omega, by omega, by omega⟩
    obtain ⟨n, hn⟩ : ∃ n, n = min (c0 :: left).length k := ⟨_, rfl⟩
    have hn1 : 1 ≤ n := by simp at hn; omega
    have hn2 : n ≤ k := by omega
    have hn3 : n ≤ left.length + 1 := by simp at hn; omega
    have hkc : k ≤ c := by omega
    obtain ⟨w2, hcp, hg2, hO2, hsz2⟩ := copy_string_ex (P := Tryz.prog) w1.drew 63 9 3 5 g o k c (c0 :: left) cs 5 n hn Tryz.underlying63 (by kernel_rfl) hg1 (by omega)
    have hs2 : Blk w2 s 61 [.string ⟨(c0 :: left).toArray⟩, sz', .bool joined] := Blk.only (w := w1.drew) hs1 hO2 hsg
    have hO12 : Only (fun k => k = s ∨ k = g) w w2 := (hO1.drew).trans hO2 (fun _ _ h => .inr h)
    have hz2 : IntsBelow B w2 sz' zs' := hz1.keep ((((Only.refl _ w1).drew).trans hO2 (fun _ _ h => h)).below (by have := hO1.size; omega) (fun k hk => by omega))
    have hE2 : w2.cell? ⟨0, 0, none⟩ = some eofV := ((hO12.below (B := B) hBw (fun k hk => by rcases hk with rfl | rfl <;> assumption)).cell (p := ⟨0, 0, none⟩) hEB).trans hE
    have h0 := hs1.cell 0
    have k0 := hs2.cell 0
    have k2 := hs2.cell 2
    have kf := hs2.frozen 0
    simp at h0 k0 k2
    clear hn hsz2
    go_wp
    refine draw_tail 10 mixed (by kernel_rfl) ?_
    simp only [List.take_succ_cons, List.take_zero, List.drop_succ_cons, List.drop_zero]
    iterate 10 still_step
    refine wpStill_nil ?_
    clear hk
    have hO3 := fun u => Only.setCell (p := ⟨s, 0, none⟩) hO12 (fun _ => .inl rfl) u
    have hs3 := fun u => hs2.set 0 u
    have hg3 := fun u => hg2.far (p := ⟨s, 0, none⟩) (Ne.symm hsg) u
    have hz3 : ∀ u, IntsBelow B (w2.setCell ⟨s, 0, none⟩ u) sz' zs' := fun u => hz2.keep ((Below.refl B w2).setCell (p := ⟨s, 0, none⟩) hsB u)
    have HO3 := Lib.hid hO3
    have Hs3 := Lib.hid hs3
    have Hg3 := Lib.hid hg3
    have Hz3 := Lib.hid hz3
    clear hO3 hs3 hg3 hz3
    have hEu : ∀ u, (w2.setCell ⟨s, 0, none⟩ u).cell? ⟨0, 0, none⟩ = some eofV := fun u => by
      rw [World.cell?_setCell_other]
      · exact hE2
      · intro e; injection e; omega
    have hx : (⟨(c0 :: left).toArray⟩ : ByteArray).extract n (left.length + 1) = ⟨((c0 :: left).drop n).toArray⟩ := extract_drop (c0 :: left) n (left.length + 1) rfl
    obtain ⟨lf, hlf⟩ : ∃ lf, lf = (c0 :: left).drop n := ⟨_, rfl⟩
    rw [← hlf] at hx
    have Hlf := Lib.hid hlf
    clear hlf
    cases joined
    · go_wp
      refine wp_if_false rfl (by simp [lk]) ?_
      go_wp
      refine ret2 rfl rfl rfl ?_
      exact ⟨n, sz', zs', hn1, by omega, hn3, by simp [lk], by rw [← Hlf.out]; exact Hs3.out _, Hz3.out _, Hg3.out _, HO3.out _⟩
    · have hemp : (⟨lf.toArray⟩ : ByteArray).toList.isEmpty = lf.isEmpty := by rw [Lib.toList_data]
      go_wp
      refine wp_if lf.isEmpty rfl (by simp only [lk]; simp) (fun ht => ?_) (fun hf => ?_)
      · go_wp
        refine draw_still mixed (by kernel_rfl) ?_
        iterate 4 still_step
        refine wpStill_nil ?_
        go_wp
        refine ret2 rfl rfl rfl ?_
        exact ⟨n, sz', zs', hn1, by omega, hn3, by simp [lk, ← Hlf.out, ht], by rw [← Hlf.out]; exact Hs3.out _, Hz3.out _, Hg3.out _, (HO3.out _).drew⟩
      · go_wp
        refine ret2 rfl rfl rfl ?_
        exact ⟨n, sz', zs', hn1, by omega, hn3, by simp [lk, ← Hlf.out, hf], by rw [← Hlf.out]; exact Hs3.out _, Hz3.out _, Hg3.out _, HO3.out _⟩
  · rcases zs with _ | ⟨z, zs⟩
    · refine wp_if_false rfl (by simp [lk]) ?_
      go_wp
      exact ⟨_, m, _, [], by omega, Fr_forget _ _ _ [(0, _), (1, _), (6, _)] (tells_all ⟨rfl, rfl, rfl, trivial⟩), hs, ⟨A, cz, rfl, hlz, hcz, hzz⟩, hg, Only.refl _ _⟩
    · obtain ⟨b, oz, rfl, hbB, hcell⟩ := hzz (by simp)
      have hz0 := hcell 0 z (by simp)
      simp only [Nat.add_zero] at hz0
      have hmx : (1 : Int) ≤ max 1 z := by omega
      refine wp_if_true rfl (by simp [lk]) ?_
      have hlen : 1 ≤ cz := by simp at hlz; omega
      go_wp
      all_goals
        refine ⟨_, _, _, zs, ?_, Fr_forget _ _ _ [(0, _), (1, _), (6, _)] (tells_all ⟨rfl, rfl, rfl, trivial⟩), hs.set 1 _, ints_tail hlz hcz hbB hcell ((Below.refl B w).setCell (p := ⟨s, 1, none⟩) hsB _), hg.far (p := ⟨s, 1, none⟩) (Ne.symm hsg) _, (Only.refl _ _).setCell (p := ⟨s, 1, none⟩) (fun _ => .inl rfl) _⟩
        omega
set_option maxRecDepth 100000 in
set_option maxHeartbeats 400000 in
theorem srcRead_none (s : Nat) (w : World) (sz : Value) (joined : Bool) (p : Value) (eofV : Value)
    (hs : Blk w s 61 [.string ⟨#[]⟩, sz, .bool joined]) (hE : w.cell? ⟨0, 0, none⟩ = some eofV) :
    Calls Tryz.prog 135 [.pointer (some ⟨s, 0, none⟩), p].toArray w fun e w' => e = .returned (.tuple #[.int .i64 0, eofV]) ∧ w' = w.drew := by
  refine enter 71 Tryz.func135 rfl rfl (by simp) ?_
  have h0 := hs.cell 0
  simp at h0
  go_wp
  refine wp_if_true rfl (by simp [lk]) ?_
  go_wp
  refine draw_still mixed (by kernel_rfl) ?_
  iterate 3 still_step
  refine wpStill_nil ?_
  go_wp
  refine ret2 rfl rfl rfl ?_
  exact ⟨by simp [lk], rfl⟩
/-- Whatever is left. -/
def SrcAny (B s g o m : Nat) (w : World) (all : List UInt8) (joined : Bool) (cs : List Value) (eofV : Value) (e : Ending) (w' : World) : Prop :=
  ∃ (n : Nat) (errV sz' : Value) (zs' : List Int), n ≤ m ∧ n ≤ all.length ∧ e = .returned (.tuple #[.int .i64 n, errV]) ∧
    Blk w' s 61 [.string ⟨(all.drop n).toArray⟩, sz', .bool joined] ∧ IntsBelow B w' sz' zs' ∧
    Blk w' g 5 (cs.take o ++ (all.take n).map b8 ++ cs.drop (o + n)) ∧ Only (fun k => k = s ∨ k = g) w w' ∧
    ((errV = .nilIface ∧ 1 ≤ n) ∨ (errV = eofV ∧ all.drop n = []))
theorem srcRead_any (B s g o m c : Nat) (w : World) (left : List UInt8) (sz : Value) (zs : List Int) (joined : Bool) (cs : List Value) (eofV : Value)
    (hs : Blk w s 61 [.string ⟨left.toArray⟩, sz, .bool joined]) (hz : IntsBelow B w sz zs) (hsB : B ≤ s) (hgB : B ≤ g) (hE : w.cell? ⟨0, 0, none⟩ = some eofV) (hEB : 0 < B)
    (hg : Blk w g 5 cs) (ho : o + m ≤ cs.length) (hsg : s ≠ g) (hll : left.length < 4611686018427387904)
    (hm : 1 ≤ m) (hm2 : m ≤ 4096) (hmc : m ≤ c) (hc : c ≤ 4096) :
    Calls Tryz.prog 135 [.pointer (some ⟨s, 0, none⟩), .slice (some ⟨g, o, none⟩) m c].toArray w (SrcAny B s g o m w left joined cs eofV) := by
  rcases left with _ | ⟨c0, left⟩
  · refine (srcRead_none s w sz joined _ eofV hs hE).mono ?_
    rintro e w' ⟨rfl, rfl⟩
    exact ⟨0, eofV, sz, zs, by omega, by simp, rfl, hs, hz.keep (Below.refl B w).drew, by simpa using hg.drew, (Only.refl _ w).drew, .inr ⟨rfl, rfl⟩⟩
  · refine (srcRead_some B s g o m c w c0 left sz zs joined cs eofV hs hz hsB hgB hE hEB hg ho hsg (by simp at hll; omega) hm hm2 hmc hc).mono ?_
    rintro e w' ⟨n, sz', zs', h1, h2, h3, rfl, h5, h6, h7, h8⟩
    refine ⟨n, _, sz', zs', h2, h3, rfl, h5, h6, h7, h8, ?_⟩
    split
    · rename_i h
      simp only [Bool.and_eq_true] at h
      exact .inr ⟨rfl, List.isEmpty_iff.1 h.2⟩
    · exact .inl ⟨rfl, h1⟩
end Go.Proofs.YtfadgnopfjajbaaGreatDoor
namespace Go.Proofs.YtfadgnopfjajbaaGreatDoor
open Go.RowKit

section
variable {P : Program} {ops : Array Oper} {Q : Exit → Act → World → Prop} {S : World → Prop} {late : List Nat}

/-- Whatever order is picked from here on; S behind every operation that is not late. -/
def wpAnyT (P : Program) (ops : Array Oper) (Q : Exit → Act → World → Prop) (S : World → Prop) (late : List Nat) : Nat → Array Bool → Act → World → Prop
  | 0, listed, a, w => Region.ready .any ops listed = [] ∧ Q .normal a w
  | fuel + 1, listed, a, w =>
    (Region.ready .any ops listed = [] → Q .normal a w) ∧
    ∀ i ∈ Region.ready .any ops listed, wpOp P ops Q i (fun a' w' => (late.contains i = false → S w') ∧ wpAnyT P ops Q S late fuel (listed.setIfInBounds i true) a' w') a w

theorem wpAny_of_T : ∀ (fuel : Nat) (listed : Array Bool) (a : Act) (w : World), wpAnyT P ops Q S late fuel listed a w → wpAny P .any ops Q fuel listed a w
  | 0, _, _, _, h => h
  | fuel + 1, _, _, _, h => ⟨h.1, fun i hi => wpOp_mono (fun a' w' h' => wpAny_of_T fuel _ a' w' h'.2) (h.2 i hi)⟩

/-- Operation j waits for operation i. -/
def waits (ops : Array Oper) (j i : Nat) : Bool :=
  match ops[j]? with
  | some oj => oj.after.any fun e => Region.binds .any e && e.on == i
  | none => false
/-- All late operations wait for i. -/
def lateB (ops : Array Oper) (late : List Nat) (i : Nat) : Bool := late.all fun j => j == i || waits ops j i

theorem T_first {i : Nat} {oi : Oper} {v : Value} (hi : ops[i]? = some oi) (hsel : ∀ (j : Nat) (o : Oper) cs b, ops[j]? = some o → o.op ≠ .select cs b)
    (hQ : ∀ c a w, Q (.panic c) (a.put oi.dst v) w → Q (.panic c) a w) (hlate : lateB ops late i = true) :
    ∀ (fuel : Nat) (listed : Array Bool) (a : Act) (w : World),
      (∀ j oj, ops[j]? = some oj → j ≠ i → listed.getD j true = false → (∀ e ∈ oj.after, Region.binds .any e = true → e.on ≠ i) → oi.apart ops oj = true) →
      i ∈ Region.ready .any ops listed → YieldsIf P ops S oi v a → S w →
      wpAnyT P ops Q S late fuel (listed.setIfInBounds i true) (a.put oi.dst v) w → wpAnyT P ops Q S late (fuel + 1) listed a w := by
  intro fuel
  induction fuel with
  | zero =>
    intro listed a w _ hr hy hS H
    refine ⟨fun h => (by rw [h] at hr; cases hr), fun j hj => ?_⟩
    by_cases hji : j = i
    · subst hji; exact hy.wpOp hi hS ⟨fun _ => hS, H⟩
    · have := ready_mono hj hji
      rw [H.1] at this
      cases this
  | succ fuel ih =>
    intro listed a w hfree hr hy hS H
    refine ⟨fun h => (by rw [h] at hr; cases hr), fun j hj => ?_⟩
    by_cases hji : j = i
    · subst hji; exact hy.wpOp hi hS ⟨fun _ => hS, H⟩
    · have h1 := H.2 j (ready_mono hj hji)
      obtain ⟨hjun, oj, hoj, hall⟩ := mem_ready.1 hj
      have hnot : ∀ e ∈ oj.after, Region.binds .any e = true → e.on ≠ i := fun e he hb heq => by
        have h1 := hall e he hb
        have h0 := (mem_ready.1 hr).1
        rw [heq] at h1
        rcases Nat.lt_or_ge i listed.size with h' | h'
        · simp [h'] at h0 h1; rw [h0] at h1; cases h1
        · simp [Array.getElem?_eq_none h'] at h1
      have hnl : late.contains j = false := by
        rcases hc : late.contains j with _ | _
        · rfl
        · exfalso
          have hm : j ∈ late := by simpa using hc
          have h2 := List.all_eq_true.1 hlate j hm
          rcases Bool.or_eq_true_iff.1 h2 with h2 | h2
          · exact hji (by simpa using h2)
          · unfold waits at h2
            simp only [hoj] at h2
            obtain ⟨e, he, hb⟩ := Array.any_eq_true'.1 h2
            simp only [Bool.and_eq_true, beq_iff_eq] at hb
            exact hnot e he hb.1 hb.2
      have h2 := wpOp_putIf hoj (hfree j oj hoj hji hjun hnot) (fun cs b => hsel i oi cs b hi) (fun cs b => hsel j oj cs b hoj) hQ hy h1
      have hfree' : ∀ k ok, ops[k]? = some ok → k ≠ i → (listed.setIfInBounds j true).getD k true = false →
          (∀ e ∈ ok.after, Region.binds .any e = true → e.on ≠ i) → oi.apart ops ok = true := fun k ok hk hki hun hno => by
        refine hfree k ok hk hki ?_ hno
        by_cases hjk : j = k
        · subst hjk; exact hjun
        · rw [getD_set_ne true hjk] at hun; exact hun
      refine wpOp_mono (fun a' w' h3 => ⟨fun _ => h3.2.1 hnl, ih (listed.setIfInBounds j true) a' w' hfree' (ready_mono hr (Ne.symm hji)) h3.1 (h3.2.1 hnl) ?_⟩) h2
      rw [Array.setIfInBounds_comm _ _ hji]
      exact h3.2.2

/-- Which operations have come up: those in the list. -/
def marked (n : Nat) (came : List Nat) : Array Bool := ((List.range n).map fun i => came.contains i).toArray
theorem marked_cons (n i : Nat) (came : List Nat) : marked n (i :: came) = (marked n came).setIfInBounds i true := by
  apply Array.ext
  · simp [marked]
  · intro j h1 h2
    simp [marked] at h1
    by_cases hij : i = j
    · subst hij; simp [marked]
    · simp [marked, hij, Ne.symm hij]

/-- The walk stands behind the operations in 'came'. -/
def HeldAt (P : Program) (ops : Array Oper) (Q : Exit → Act → World → Prop) (S : World → Prop) (late : List Nat) (came : List Nat) (a : Act) (w : World) : Prop :=
  wpAnyT P ops Q S late (ops.size - came.length) (marked ops.size came) a w

/-- What a reading operation comes to. -/
def valK (w : World) (K : Value → Prop) : Result Next → Prop
  | .ok (.value v) w' => w' = w ∧ K v
  | _ => False
theorem valK_value (w : World) (K : Value → Prop) (v : Value) : valK w K (.ok (.value v) w) = K v := by simp [valK]

/-- Into a region that draws its order. -/
theorem held_start {id : Nat} {a : Act} {w : World} (S : World → Prop) (late : List Nat) (hm : P.follows .mixedOrders = true) (h : HeldAt P ops Q S late [] a w.drew) : (Code.region id ops true).wp P Q a w := by
  refine wp_region_any hm (wpAny_of_T (S := S) (late := late) _ _ _ _ ?_)
  have e : marked ops.size [] = Array.replicate ops.size false := by
    apply Array.ext
    · simp [marked]
    · intro i h1 h2; simp [marked]
  unfold HeldAt at h
  rw [e] at h
  exact h

/-- May operation i be taken now? -/
def takeB (ops : Array Oper) (late came : List Nat) (i : Nat) : Bool :=
  decide (came.length < ops.size) && Region.noSelect ops && Region.free .any ops (marked ops.size came) i && (Region.ready .any ops (marked ops.size came)).contains i && lateB ops late i

theorem held_take {l : List Oper} {came : List Nat} {a : Act} {w : World} (i : Nat) (o : Oper) (v : Value) (ho : l[i]? = some o) (hB : takeB l.toArray late came i = true) (hS : S w)
    (hQ : ∀ c (a : Act) (d : Option Tmp) (v : Value) w, Q (.panic c) (a.put d v) w → Q (.panic c) a w)
    (hv : ∀ w, S w → ∀ K : Value → Prop, K v → if Region.wanted o (yielded l.toArray a.tmps) then valK w K ((execOp a.eval o).run P w) else K undef)
    (h : HeldAt P l.toArray Q S late (i :: came) (a.put o.dst v) w) : HeldAt P l.toArray Q S late came a w := by
  simp only [takeB, Bool.and_eq_true, decide_eq_true_eq] at hB
  obtain ⟨⟨⟨⟨hlen, hsel⟩, hfree⟩, hready⟩, hlate⟩ := hB
  have hi : l.toArray[i]? = some o := by simpa using ho
  have hy : YieldsIf P l.toArray S o v a := by
    cases hw : Region.wanted o (yielded l.toArray a.tmps) with
    | true =>
      refine .inl ⟨hw, fun w hS => ?_⟩
      have h1 := hv w hS (· = v) rfl
      rw [if_pos hw] at h1
      unfold valK at h1
      split at h1
      · rename_i x w' hx
        rw [hx, h1.1, h1.2]
      · exact h1.elim
    | false =>
      refine .inr ⟨hw, ?_⟩
      have h1 := hv w hS (· = v) rfl
      rw [if_neg (by simp [hw])] at h1
      exact h1.symm
  unfold HeldAt at h ⊢
  have e : l.toArray.size - came.length = (l.toArray.size - (i :: came).length) + 1 := by simp at hlen ⊢; omega
  rw [e]
  rw [marked_cons] at h
  exact T_first hi (Region.noSelect_spec hsel) (fun c a w => hQ c a o.dst v w) hlate _ _ _ _ (Region.free_spec hi hfree) (by simpa using hready) hy hS h

/-- The same in a frame with told slots. -/
theorem take {l : List Oper} {came : List Nat} {n : Nat} {t : List (Nat × Value)} {f : Nat → Value} {w : World} (i : Nat) (o : Oper) (d : Nat) (v : Value) (ho : l[i]? = some o) (hd : o.dst = some d) (hB : takeB l.toArray late came i = true) (hS : S w)
    (hQ : ∀ c (a : Act) (d : Option Tmp) (v : Value) w, Q (.panic c) (a.put d v) w → Q (.panic c) a w)
    (hv : ∀ w, S w → ∀ K : Value → Prop, K v → if Region.wanted o (yielded l.toArray (Fr n t f).tmps) then valK w K ((execOp (Fr n t f).eval o).run P w) else K undef)
    (h : HeldAt P l.toArray Q S late (i :: came) (Fr n ((d, v) :: t) f) w) : HeldAt P l.toArray Q S late came (Fr n t f) w :=
  held_take i o v ho hB hS hQ hv (by rw [hd, Fr_put]; exact h)

/-- Does operation i come up alone now? -/
def aloneB (ops : Array Oper) (came : List Nat) (i : Nat) : Bool :=
  decide (came.length < ops.size) && decide (Region.ready .any ops (marked ops.size came) = [i])

theorem held_alone {l : List Oper} {came : List Nat} {a : Act} {w : World} (i : Nat) (o : Oper) (ho : l[i]? = some o) (hB : aloneB l.toArray came i = true)
    (h : wpList P l.toArray (Exit.then (fun a' w' => (late.contains i = false → S w') ∧ HeldAt P l.toArray Q S late (i :: came) a' w') Q) [o] a w) : HeldAt P l.toArray Q S late came a w := by
  simp only [aloneB, Bool.and_eq_true, decide_eq_true_eq] at hB
  obtain ⟨hlen, hready⟩ := hB
  have hi : l.toArray[i]? = some o := by simpa using ho
  unfold HeldAt at h ⊢
  have e : l.toArray.size - came.length = (l.toArray.size - (i :: came).length) + 1 := by simp at hlen ⊢; omega
  rw [e]
  refine ⟨fun h0 => (by rw [hready] at h0; cases h0), fun j hj => ?_⟩
  rw [hready] at hj
  have : j = i := by simpa using hj
  subst this
  simp only [marked_cons] at h
  unfold wpOp
  simp only [hi]
  simp only [wpList] at h
  split
  · rename_i hw
    rw [if_pos hw] at h
    rcases h with h | ⟨h1, a0, w0, h2⟩
    · refine .inl ?_
      unfold Oper.wp at h ⊢
      generalize (execOp a.eval o).run P w = r at h ⊢
      cases r with
      | ok n w' =>
        cases n <;> simp only [Oper.upon, Exit.then] at h ⊢ <;> exact h
      | halt x w' => cases x <;> simp only [Oper.upon, Exit.then] at h ⊢ <;> exact h
    · exact .inr ⟨h1, a0, w0, h2⟩
  · rename_i hw
    rw [if_neg hw] at h
    exact h

theorem held_done {l : List Oper} {came : List Nat} {a : Act} {w : World} (hB : Region.ready .any l.toArray (marked l.toArray.size came) = []) (h : Q .normal a w) : HeldAt P l.toArray Q S late came a w := by
  unfold HeldAt
  cases hn : l.toArray.size - came.length with
  | zero => exact ⟨hB, h⟩
  | succ n => exact ⟨fun _ => h, by rw [hB]; simp⟩

/-- A panic's post does not look at the frame. -/
theorem bodyPost_put {P : Program} {fn : Func} {R : Ending → World → Prop} (c : List PanicEntry) (a : Act) (d : Option Tmp) (v : Value) (w : World) (h : bodyPost P fn R (.panic c) (a.put d v) w) : bodyPost P fn R (.panic c) a w := by
  cases d <;> exact h
end
attribute [go_sem] valK_value
end Go.Proofs.YtfadgnopfjajbaaGreatDoor
namespace Go.Proofs.YtfadgnopfjajbaaGreatDoor
open Go.RowKit

/-- The state of the buffered reader and of the source behind it. -/
structure BSt where
  rb : Nat
  buf : Nat
  s : Nat
  r : Nat
  v : Nat
  bb : List UInt8
  err : Bool
  lb : Int
  lr : Int
  left : List UInt8
  sz : Value
  zs : List Int
  joined : Bool

/-- The cells of a bufio.Reader. -/
def rbCells (eofV : Value) (b : BSt) : List Value :=
  [.slice (some ⟨b.buf, 0, none⟩) 4096 4096, .iface 59 (.pointer (some ⟨b.s, 0, none⟩)), .int .i64 b.r, .int .i64 b.v, if b.err then eofV else .nilIface, .int .i64 b.lb, .int .i64 b.lr]

structure BInv (B : Nat) (eofV : Value) (w : World) (b : BSt) : Prop where
  rb : Blk w b.rb 163 (rbCells eofV b)
  buf : Blk w b.buf 5 (b.bb.map b8)
  len : b.bb.length = 4096
  src : Blk w b.s 61 [.string ⟨b.left.toArray⟩, b.sz, .bool b.joined]
  sizes : IntsBelow B w b.sz b.zs
  rv : b.r ≤ b.v
  v4 : b.v ≤ 4096
  end_ : b.err = true → b.left = []
  Brb : B ≤ b.rb
  Bbuf : B ≤ b.buf
  Bs : B ≤ b.s
  small : b.left.length < 4611686018427387904
  eof : w.cell? ⟨0, 0, none⟩ = some eofV
  eofB : 0 < B

/-- What has been read into the buffer and not been handed out. -/
def BSt.pend (b : BSt) : List UInt8 := (b.bb.take b.v).drop b.r
/-- All that is still to come. -/
def BSt.rest (b : BSt) : List UInt8 := b.pend ++ b.left
/-- The blocks that reading writes. -/
def BSt.own (b : BSt) (k : Nat) : Prop := k = b.rb ∨ k = b.buf ∨ k = b.s

theorem ne_rb_buf {B : Nat} {eofV : Value} {w : World} {b : BSt} (h : BInv B eofV w b) : b.rb ≠ b.buf := h.rb.ne h.buf (by decide)
theorem ne_rb_s {B : Nat} {eofV : Value} {w : World} {b : BSt} (h : BInv B eofV w b) : b.rb ≠ b.s := h.rb.ne h.src (by decide)
theorem ne_buf_s {B : Nat} {eofV : Value} {w : World} {b : BSt} (h : BInv B eofV w b) : b.buf ≠ b.s := h.buf.ne h.src (by decide)

/-- 'copy(b.buf, b.buf[r:v])'. -/
theorem copy_down {P : Program} (w : World) (dT elem t ty : TypeId) (g r v c c' : Nat) (bb : List UInt8)
    (hu : P.underlying dT = some (.slice elem)) (hs : (P.info? elem).map (·.size) = some 1) (hg : Blk w g t (bb.map b8)) (hl : bb.length = 4096) (hrv : r ≤ v) (hv : v ≤ 4096) :
    ∃ w', (Builtin.copy_ #[dT, dT] ty #[.slice (some ⟨g, 0, none⟩) 4096 c, .slice (if 4096 = r then some ⟨g, 0, none⟩ else some ⟨g, r, none⟩) (v - r) c']).run P w = .ok (.int .i64 ((v - r : Nat) : Int)) w' ∧
      Blk w' g t (((bb.take v).drop r ++ bb.drop (v - r)).map b8) ∧ Only (fun k => k = g) w w' := by
  have hlen : ((bb.take v).drop r).length = v - r := by simp; omega
  have hcl : (((bb.take v).drop r).map b8).length = v - r := by rw [List.length_map, hlen]
  obtain ⟨o, ho, hor⟩ : ∃ o, (if 4096 = r then some (⟨g, 0, none⟩ : Addr) else some ⟨g, r, none⟩) = some ⟨g, o, none⟩ ∧ (o = r ∨ v - r = 0) := by
    split
    · exact ⟨0, rfl, .inr (by omega)⟩
    · exact ⟨r, rfl, .inl rfl⟩
  rw [ho]
  have h := run_copy_row (P := P) w dT dT ty elem g 0 4096 c ⟨g, o, none⟩ (v - r) c' (bb.map b8).toArray t (((bb.take v).drop r).map b8) hu hs hg
    (by rw [hcl]; show v - r = min (v - r) 4096; omega)
    (fun j x hx => by
      have hj : j < v - r := by
        rcases Nat.lt_or_ge j (v - r) with h | h
        · exact h
        · rw [List.getElem?_eq_none (by rw [hcl]; exact h)] at hx; cases hx
      rcases hor with rfl | h0
      · rw [Addr.add_mk, hg.cell]
        rw [List.getElem?_map, List.getElem?_drop, List.getElem?_take] at hx
        rw [List.getElem?_map]
        split at hx
        · exact hx
        · simp at hx
      · omega)
    (by rw [hcl]; simp; omega)
    (fun x hx => by obtain ⟨y, _, rfl⟩ := List.mem_map.1 hx; rfl)
  rw [hcl] at h
  refine ⟨_, h, ?_, (Only.refl (fun k => k = g) w).setRow (fun _ => rfl) _⟩
  have e : (((bb.take v).drop r ++ bb.drop (v - r)).map b8) = ((bb.map b8).toArray.toList.take 0 ++ ((bb.take v).drop r).map b8 ++ (bb.map b8).toArray.toList.drop (0 + (v - r))) := by simp
  rw [e]
  exact hg.row _
end Go.Proofs.YtfadgnopfjajbaaGreatDoor
namespace Go.Proofs.YtfadgnopfjajbaaGreatDoor
open Go.RowKit
def FillPost (B : Nat) (eofV : Value) (w : World) (b : BSt) (e : Ending) (w' : World) : Prop :=
  e = .returned (.tuple #[]) ∧ ∃ b' : BSt, BInv B eofV w' b' ∧ b'.rb = b.rb ∧ b'.buf = b.buf ∧ b'.s = b.s ∧ b'.r = 0 ∧ b'.rest = b.rest ∧ b.v - b.r ≤ b'.v ∧ b'.bb.take (b.v - b.r) = b.pend ∧
    (b.v - b.r < b'.v ∨ b'.err = true) ∧ Only b.own w w'
theorem fill_close {B : Nat} {eofV : Value} {w w3 : World} (b : BSt) (n : Nat) (bb1 : List UInt8) (err3 : Bool) (sz2 : Value) (zs2 : List Int) (hb : BInv B eofV w b)
    (hrb : Blk w3 b.rb 163 [.slice (some ⟨b.buf, 0, none⟩) 4096 4096, .iface 59 (.pointer (some ⟨b.s, 0, none⟩)), .int .i64 0, .int .i64 (((b.v - b.r : Nat) : Int) + (n : Int)), if err3 then eofV else .nilIface, .int .i64 b.lb, .int .i64 b.lr])
    (hbuf : Blk w3 b.buf 5 ((bb1.map b8).take (b.v - b.r) ++ (b.left.take n).map b8 ++ (bb1.map b8).drop (b.v - b.r + n)))
    (hl : bb1.length = 4096) (htk : bb1.take (b.v - b.r) = (b.bb.take b.v).drop b.r) (hn : n ≤ 4096 - (b.v - b.r)) (hn2 : n ≤ b.left.length)
    (hs : Blk w3 b.s 61 [.string ⟨(b.left.drop n).toArray⟩, sz2, .bool b.joined]) (hz : IntsBelow B w3 sz2 zs2)
    (he : err3 = true → b.left.drop n = []) (hp : 1 ≤ n ∨ err3 = true) (hO : Only b.own w w3) : FillPost B eofV w b (.returned (.tuple #[])) w3 := by
  have hBw : B ≤ w.heap.size := by have := hb.rb.lt; have := hb.Brb; omega
  have hbel : Below B w w3 := hO.below hBw (fun k hk => by rcases hk with rfl | rfl | rfl; exact hb.Brb; exact hb.Bbuf; exact hb.Bs)
  have hv4 := hb.v4
  have hrv := hb.rv
  have hl1 : (bb1.take (b.v - b.r)).length = b.v - b.r := by rw [List.length_take]; omega
  have hl2 : (b.left.take n).length = n := by rw [List.length_take]; omega
  have hpl : ((b.bb.take b.v).drop b.r).length = b.v - b.r := by rw [← htk]; exact hl1
  refine ⟨rfl, { b with r := 0, v := b.v - b.r + n, bb := bb1.take (b.v - b.r) ++ b.left.take n ++ bb1.drop (b.v - b.r + n), err := err3, left := b.left.drop n, sz := sz2, zs := zs2 }, ?_, rfl, rfl, rfl, rfl, ?_, Nat.le_add_right _ _, ?_, ?_, hO⟩
  · refine ⟨?_, ?_, ?_, hs, hz, Nat.zero_le _, ?_, he, hb.Brb, hb.Bbuf, hb.Bs, ?_, (hbel.cell (p := ⟨0, 0, none⟩) hb.eofB).trans hb.eof, hb.eofB⟩
    · exact hrb
    · have e : ((bb1.take (b.v - b.r) ++ b.left.take n ++ bb1.drop (b.v - b.r + n)).map b8) = ((bb1.map b8).take (b.v - b.r) ++ (b.left.take n).map b8 ++ (bb1.map b8).drop (b.v - b.r + n)) := by
        simp [List.map_take, List.map_drop]
      show Blk w3 b.buf 5 ((bb1.take (b.v - b.r) ++ b.left.take n ++ bb1.drop (b.v - b.r + n)).map b8)
      rw [e]; exact hbuf
    · simp only [List.length_append, hl1, hl2, List.length_drop, hl]; omega
    · show b.v - b.r + n ≤ 4096; omega
    · have := hb.small
      show (b.left.drop n).length < _
      rw [List.length_drop]; omega
  · show ((bb1.take (b.v - b.r) ++ b.left.take n ++ bb1.drop (b.v - b.r + n)).take (b.v - b.r + n)).drop 0 ++ b.left.drop n = (b.bb.take b.v).drop b.r ++ b.left
    rw [List.drop_zero, List.take_append_of_le_length (by simp only [List.length_append, hl1, hl2]; omega), List.take_of_length_le (by simp only [List.length_append, hl1, hl2]; omega), htk, List.append_assoc, List.take_append_drop]
  · show (bb1.take (b.v - b.r) ++ b.left.take n ++ bb1.drop (b.v - b.r + n)).take (b.v - b.r) = _
    rw [List.append_assoc, List.take_append_of_le_length (by omega), List.take_of_length_le (by omega), htk]; rfl
  · rcases hp with hp | hp
    · exact .inl (by show b.v - b.r < b.v - b.r + n; omega)
    · exact .inr hp
theorem method_read (a : Addr) (w : World) : (method 342 59 (.pointer (some a)) "Read").run Tryz.prog w = .ok (135, .pointer (some a)) w := by kernel_rfl
set_option maxRecDepth 100000 in
set_option maxHeartbeats 800000 in
theorem fill_any (B : Nat) (eofV : Value) (w : World) (b : BSt) (hb : BInv B eofV w b) (hroom : b.v - b.r < 4096) (herr : b.err = false) (heV : ∃ t x, eofV = .iface t x) :
    Calls Tryz.prog 113 [.pointer (some ⟨b.rb, 0, none⟩)].toArray w (FillPost B eofV w b) := by
  have n1 := ne_rb_buf hb
  have n2 := ne_rb_s hb
  have n3 := ne_buf_s hb
  obtain ⟨hrb, hbuf, hlen, hsrc, hsz, hrv, hv4, hend, hBrb, hBbuf, hBs, hsmall, heof, heofB⟩ := id hb
  refine enter 99 Tryz.func113 rfl rfl (by simp) ?_
  unfold rbCells at hrb
  rw [herr] at hrb
  obtain ⟨rb, buf, s, r, v, bb, err, lb, lr, left, sz, zs, joined⟩ := b
  dsimp only at *
  have hc := hrb.cell
  have hf := hrb.frozen
  have HB := Lib.hid hb
  clear hb
  go_wp
  refine join (fun a w' => ∃ (f : Nat → Value) (bb1 : List UInt8), a = Fr 99 [(0, .pointer (some ⟨rb, 0, none⟩))] f ∧
     Blk w' rb 163 [.slice (some ⟨buf, 0, none⟩) 4096 4096, .iface 59 (.pointer (some ⟨s, 0, none⟩)), .int .i64 0, .int .i64 ((v - r : Nat) : Int), .nilIface, .int .i64 lb, .int .i64 lr] ∧
     Blk w' buf 5 (bb1.map b8) ∧ bb1.length = 4096 ∧ bb1.take (v - r) = (bb.take v).drop r ∧ Only (fun k => k = rb ∨ k = buf) w w') ?_ ?_
  · clear hc hf hrb hbuf hlen
    rintro a w1 ⟨f, bb1, rfl, hrb1, hbuf1, hlen1, htk, hO1⟩
    have hsrc1 : Blk w1 s 61 _ := hsrc.only hO1 (by rintro (h | h) <;> omega)
    have hBw : B ≤ w.heap.size := by have := hsrc.lt; omega
    have hbel : Below B w w1 := hO1.below hBw (fun k hk => by rcases hk with rfl | rfl <;> assumption)
    have hsz1 := hsz.keep hbel
    have heof1 : w1.cell? ⟨0, 0, none⟩ = some eofV := (hbel.cell (p := ⟨0, 0, none⟩) heofB).trans heof
    have hc := hrb1.cell
    have hf := hrb1.frozen
    have hroomi : ((v - r : Nat) : Int) < 4096 := by omega
    have hroom2 : ((v - r : Nat) : Int) ≤ 4096 := by omega
    have hroom3 : ¬ 4096 = v - r := by omega
    go_wp
    refine draw_still mixed (by kernel_rfl) ?_
    iterate 10 still_step
    refine wpStill_nil ?_
    go_wp
    refine wp_if_false rfl (by simp [lk]; omega) ?_
    go_wp
    refine wp_loop_once ?_
    go_wp
    refine wp_if_true rfl (by simp [lk]) ?_
    refine wp_skip ?_
    simp only [Exit.then]
    go_wp
    refine held_start (fun w' => Blk w' rb 163 [.slice (some ⟨buf, 0, none⟩) 4096 4096, .iface 59 (.pointer (some ⟨s, 0, none⟩)), .int .i64 0, .int .i64 ((v - r : Nat) : Int), .nilIface, .int .i64 lb, .int .i64 lr]) [] mixed ?_
    refine take 0 _ _ ?tv1 rfl rfl (by kernel_rfl) hrb1 (by intro c a d v w h; cases d <;> exact h) ?th1 ?tn1
    case th1 => intro w' hS K hK; have hc := Blk.cell hS; go_simp; exact hK
    refine take 1 _ _ ?tv2 rfl rfl (by kernel_rfl) hrb1 (by intro c a d v w h; cases d <;> exact h) ?th2 ?tn2
    case th2 => intro w' hS K hK; have hc := Blk.cell hS; go_simp; exact hK
    refine take 2 _ _ ?tv3 rfl rfl (by kernel_rfl) hrb1 (by intro c a d v w h; cases d <;> exact h) ?th3 ?tn3
    case th3 => intro w' hS K hK; have hc := Blk.cell hS; go_simp; exact hK
    refine take 3 _ _ ?tv4 rfl rfl (by kernel_rfl) hrb1 (by intro c a d v w h; cases d <;> exact h) ?th4 ?tn4
    case th4 => intro w' hS K hK; have hc := Blk.cell hS; go_simp; exact hK
    refine take 4 _ _ ?tv5 rfl rfl (by kernel_rfl) hrb1 (by intro c a d v w h; cases d <;> exact h) ?th5 ?tn5
    case th5 => intro w' hS K hK; have hc := Blk.cell hS; go_simp; exact hK
    refine take 5 _ _ ?tv6 rfl rfl (by kernel_rfl) hrb1 (by intro c a d v w h; cases d <;> exact h) ?th6 ?tn6
    case th6 => intro w' hS K hK; have hc := Blk.cell hS; go_simp; exact hK
    refine take 6 _ _ ?tv7 rfl rfl (by kernel_rfl) hrb1 (by intro c a d v w h; cases d <;> exact h) ?th7 ?tn7
    case th7 => intro w' hS K hK; have hc := Blk.cell hS; go_simp; exact hK
    refine take 7 _ _ ?tv8 rfl rfl (by kernel_rfl) hrb1 (by intro c a d v w h; cases d <;> exact h) ?th8 ?tn8
    case th8 => intro w' hS K hK; have hc := Blk.cell hS; go_simp; exact hK
    refine take 8 _ _ ?tv9 rfl rfl (by kernel_rfl) hrb1 (by intro c a d v w h; cases d <;> exact h) ?th9 ?tn9
    case th9 => intro w' hS K hK; have hc := Blk.cell hS; go_simp; exact hK
    refine take 9 _ _ ?tv10 rfl rfl (by kernel_rfl) hrb1 (by intro c a d v w h; cases d <;> exact h) ?th10 ?tn10
    case th10 => intro w' hS K hK; have hc := Blk.cell hS; go_simp; exact hK
    refine take 10 _ _ ?tv11 rfl rfl (by kernel_rfl) hrb1 (by intro c a d v w h; cases d <;> exact h) ?th11 ?tn11
    case th11 => intro w' hS K hK; have hc := Blk.cell hS; go_simp; exact hK
    refine take 11 _ _ ?tv12 rfl rfl (by kernel_rfl) hrb1 (by intro c a d v w h; cases d <;> exact h) ?th12 ?tn12
    case th12 => intro w' hS K hK; have hc := Blk.cell hS; go_simp; exact hK
    refine take 12 _ _ ?tv13 rfl rfl (by kernel_rfl) hrb1 (by intro c a d v w h; cases d <;> exact h) ?th13 ?tn13
    case th13 => intro w' hS K hK; have hc := Blk.cell hS; go_simp; exact hK
    refine take 13 _ _ ?tv14 rfl rfl (by kernel_rfl) hrb1 (by intro c a d v w h; cases d <;> exact h) ?th14 ?tn14
    case th14 => intro w' hS K hK; have hc := Blk.cell hS; go_simp; exact hK
    refine take 14 _ _ ?tv15 rfl rfl (by kernel_rfl) hrb1 (by intro c a d v w h; cases d <;> exact h) ?th15 ?tn15
    case th15 => intro w' hS K hK; have hc := Blk.cell hS; go_simp; exact hK
    refine held_alone 15 _ rfl (by kernel_rfl) ?_
    have hmr := fun w => method_read ⟨s, 0, none⟩ w
    go_wp
    refine (srcRead_any B s buf (v - r) (4096 - (v - r)) (4096 - (v - r)) w1.drew.drew left sz zs joined (bb1.map b8) eofV hsrc1 hsz1 hBs hBbuf heof1 heofB hbuf1 (by simp; omega) (Ne.symm n3) hsmall (by omega) (by omega) (by omega) (by omega)).mono ?_
    rintro e w2 ⟨n, errV, sz2, zs2, hn1, hn2, rfl, hs2, hz2, hb2, hO2, hcase⟩
    clear hmr
    dsimp only
    have hrb2 := hrb1.only (w' := w2) (S := fun k => k = s ∨ k = buf) (Only.mk hO2.os hO2.tape hO2.output hO2.size hO2.block) (by rintro (h | h) <;> omega)
    go_wp
    refine ⟨fun _ => hrb2, ?_⟩
    refine take 16 _ _ ?tv16 rfl rfl (by kernel_rfl) hrb2 (by intro c a d v w h; cases d <;> exact h) ?th16 ?tn16
    case th16 => intro w' hS K hK; go_simp; exact hK
    refine take 17 _ _ ?tv17 rfl rfl (by kernel_rfl) hrb2 (by intro c a d v w h; cases d <;> exact h) ?th17 ?tn17
    case th17 => intro w' hS K hK; go_simp; exact hK
    refine take 18 _ _ ?tv18 rfl rfl (by kernel_rfl) hrb2 (by intro c a d v w h; cases d <;> exact h) ?th18 ?tn18
    case th18 => intro w' hS K hK; go_simp; exact hK
    refine take 19 _ _ ?tv19 rfl rfl (by kernel_rfl) hrb2 (by intro c a d v w h; cases d <;> exact h) ?th19 ?tn19
    case th19 => intro w' hS K hK; go_simp; exact hK
    refine take 20 _ _ ?tv20 rfl rfl (by kernel_rfl) hrb2 (by intro c a d v w h; cases d <;> exact h) ?th20 ?tn20
    case th20 => intro w' hS K hK; go_simp; exact hK
    refine held_done (by kernel_rfl) ?_
    have hc2 := hrb2.cell
    have hf2 := hrb2.frozen
    have hn0 : ¬ (n : Int) < 0 := by omega
    have hn0' : decide ((n : Int) < 0) = false := by simp
    clear hc hf
    have hsum : ((v - r : Nat) : Int) + (n : Int) ≤ 4096 := by omega
    have hsum0 : (0 : Int) ≤ ((v - r : Nat) : Int) + (n : Int) := by omega
    have hO : Only (fun k => k = rb ∨ k = buf ∨ k = s) w w2 := (hO1.mono (fun k _ h => h.elim .inl (fun h => .inr (.inl h)))).trans (T := fun k => k = s ∨ k = buf) ((Only.refl _ w1).drew.drew.then hO2) (fun k _ h => h.elim (fun h => .inr (.inr h)) (fun h => .inr (.inl h)))
    obtain ⟨te, xe, rfl⟩ := heV
    go_wp
    refine wp_if_false rfl (by simp [lk]) ?_
    rcases hcase with ⟨rfl, hn⟩ | ⟨rfl, hd⟩
    · have hn' : (0 : Int) < (n : Int) := by omega
      go_wp
      refine wp_if_false rfl (by simp [lk]) ?_
      go_wp
      refine wp_if_true rfl (by simp [lk]; omega) ?_
      go_wp
      refine ret0 rfl ?_
      exact fill_close _ n bb1 false sz2 zs2 HB.out (hrb2.set 3 _) (hb2.far (p := ⟨rb, 3, none⟩) (Ne.symm n1) _) hlen1 htk hn1 hn2 (hs2.far (p := ⟨rb, 3, none⟩) (Ne.symm n2) _) (hz2.keep ((Below.refl B w2).setCell (p := ⟨rb, 3, none⟩) hBrb _)) (fun h => by cases h) (.inl hn) (hO.setCell (p := ⟨rb, 3, none⟩) (fun _ => .inl rfl) _)
    · go_wp
      refine wp_if_true rfl (by simp [lk]) ?_
      go_wp
      refine ret0 rfl ?_
      exact fill_close _ n bb1 true sz2 zs2 HB.out ((hrb2.set 3 _).set 4 _) ((hb2.far (p := ⟨rb, 3, none⟩) (Ne.symm n1) _).far (p := ⟨rb, 4, none⟩) (Ne.symm n1) _) hlen1 htk hn1 hn2 ((hs2.far (p := ⟨rb, 3, none⟩) (Ne.symm n2) _).far (p := ⟨rb, 4, none⟩) (Ne.symm n2) _) (hz2.keep (((Below.refl B w2).setCell (p := ⟨rb, 3, none⟩) hBrb _).setCell (p := ⟨rb, 4, none⟩) hBrb _)) (fun _ => hd) (.inr rfl) ((hO.setCell (p := ⟨rb, 3, none⟩) (fun _ => .inl rfl) _).setCell (p := ⟨rb, 4, none⟩) (fun _ => .inl rfl) _)
  · refine wp_if (decide (0 < r)) rfl (by simp [lk]) (fun ht => ?_) (fun hf => ?_)
    · simp at ht
      obtain ⟨w1, hcp, hbuf1, hO1⟩ := copy_down (P := Tryz.prog) w.drew 63 5 5 3 buf r v 4096 (4096 - r) bb Tryz.underlying63 (by kernel_rfl) hbuf hlen hrv hv4
      have hrb1 := Blk.only (w := w.drew) hrb hO1 n1
      have hc1 := hrb1.cell
      have hf1 := hrb1.frozen
      have hv4i : (v : Int) ≤ 4096 := by omega
      have hrvi : (r : Int) ≤ v := by omega
      go_wp
      refine draw_tail 17 mixed (by kernel_rfl) ?_
      simp only [List.take_succ_cons, List.take_zero, List.drop_succ_cons, List.drop_zero]
      iterate 17 still_step
      refine wpStill_nil ?_
      go_wp
      refine draw_tail 11 mixed (by kernel_rfl) ?_
      simp only [List.take_succ_cons, List.take_zero, List.drop_succ_cons, List.drop_zero]
      iterate 11 still_step
      refine wpStill_nil ?_
      go_wp
      refine ⟨_, (bb.take v).drop r ++ bb.drop (v - r), Fr_forget _ _ _ [(0, _)] (tells_all ⟨rfl, trivial⟩), ?_, (hbuf1.far (p := ⟨rb, 3, none⟩) (Ne.symm n1) _).far (p := ⟨rb, 2, none⟩) (Ne.symm n1) _, ?_, ?_, ?_⟩
      · rw [show (v : Int) - (r : Int) = ((v - r : Nat) : Int) by omega]
        exact ((hrb1.set 3 (.int .i64 ((v - r : Nat) : Int))).set 2 (.int .i64 0)).drew
      · simp; omega
      · rw [List.take_append_of_le_length (by simp; omega), List.take_of_length_le (by simp; omega)]
      · exact ((((Only.refl _ w).drew.trans hO1 (fun _ _ h => .inr h)).setCell (p := ⟨rb, 3, none⟩) (fun _ => .inl rfl) _).setCell (p := ⟨rb, 2, none⟩) (fun _ => .inl rfl) _).drew
    · go_wp
      have hr0 : r = 0 := by simpa using hf
      subst hr0
      exact ⟨_, bb, Fr_forget _ _ _ [(0, _)] (tells_all ⟨rfl, trivial⟩), hrb, hbuf, hlen, rfl, Only.refl _ _⟩
end Go.Proofs.YtfadgnopfjajbaaGreatDoor
