/-
  The walks of ErrorList.Add and of impl.list: a slice of faults becomes a list of pointers to errors, each in a block of its own.
-/
import Derived.Test.YtdifjpcfmmipoaaChecked
import Derived.Test.YtdifjpcfmmipoaaWords
import Derived.KernelRfl
import Derived.WalkLawsBesides
import Derived.Deep.RegionLaw
import Derived.BigRegion
import Derived.Deep.DrawnRows
import Derived.Deep.AppendLies
namespace Go.Proofs.Ytdifjpcfmmipoaa
open Go.RowKit
attribute [local go_sem ↓] Go.wp_at_zero Go.wp_at_succ

theorem infoPtr : (Try.prog.info? 41).map (fun i => (i.zero, i.size, i.bytes)) = some (some (.pointer none), 1, 8) := by kernel_rfl

/-- The cells of an error: no file, no offset, the fault's line, column and message. -/
def errCells (f : Fau) : Array Value := #[.string ⟨#[]⟩, .int .i64 0, .int .i64 f.line, .int .i64 f.col, .string f.msg]

/-- Only block g, the row, and what is new, has turned. -/
structure Two (g : Nat) (row : Option Nat) (w w' : World) : Prop where
  os : w'.os = w.os
  tape : w'.tape = w.tape
  output : w'.output = w.output
  size : w.heap.size ≤ w'.heap.size
  block : ∀ k, k < w.heap.size → k ≠ g → some k ≠ row → w'.heap[k]? = w.heap[k]?

theorem Two.of {g : Nat} {row : Option Nat} {w w0 w1 : World} (h0 : Below w.heap.size w w0) (h1 : w0.grownBy w1 row) (x : Value) : Two g row w (w1.setCell ⟨g, 0, none⟩ x) :=
  ⟨h1.os.trans h0.os, h1.tape.trans h0.tape, h1.output.trans h0.output, by have := h0.size; have := h1.size; simp [World.setCell]; omega,
    fun k hk hg hr => (Below.heap_setCell _ _ _ _ hg).trans ((h1.block k (Nat.lt_of_lt_of_le hk h0.size) hr).trans (h0.block k hk))⟩

/-- What Add leaves: the list is one longer, its last pointer leads to the new error. -/
def Added (g base n : Nat) (v : Value) (xs : List Value) (f : Fau) (w : World) (e : Ending) (w' : World) : Prop :=
  e = .returned (.tuple #[]) ∧ ∃ b v', w'.cell? ⟨g, 0, none⟩ = some v' ∧ w'.frozen? ⟨g, 0, none⟩ = false ∧ w'.ownsRow base 41 1 v' (n + 1) (xs ++ [.pointer (some ⟨b, 0, none⟩)]) ∧
    w'.heap[b]? = some (.cells (errCells f) 43 (0, 0)) ∧ w.heap.size ≤ b ∧ Two g v.ownBlock w w' ∧ (v'.ownBlock = v.ownBlock ∨ ∃ q, v'.ownBlock = some q ∧ w.heap.size ≤ q)

theorem ne_own {w : World} {base n : Nat} {e : TypeId} {v : Value} {xs : List Value} (h : w.ownsRow base e 1 v n xs) {k : Nat} (hk : w.heap.size ≤ k) : some k ≠ v.ownBlock := fun e => by
  have := h.lt _ e.symm; omega

theorem added {g base n : Nat} {v : Value} {xs : List Value} {f : Fau} {w W w1 : World} {O1 : Obj} {gg cap : Nat} {O3 : Obj} (hW : w.alloc O1 = W) (hown : w.ownsRow base 41 1 v n xs) (lg : g < w.heap.size) (hg : g < base)
    (hcz : w1.cell? ⟨g, 0, none⟩ = some v) (hfz : w1.frozen? ⟨g, 0, none⟩ = false)
    (hown1 : w1.ownsRow base 41 1 (.slice (some ⟨gg, 0, none⟩) (n + 1) cap) (n + 1) (xs ++ [.pointer (some ⟨W.heap.size, 0, none⟩)]))
    (hgrow : (((W.alloc (.cells (errCells f) 43)).alloc O3).drew).grownBy w1 v.ownBlock) (hat : v.ownBlock = some gg ∨ gg = W.heap.size + 2) :
    Added g base n v xs f w (.returned (.tuple #[])) (w1.setCell ⟨g, 0, none⟩ (.slice (some ⟨gg, 0, none⟩) (n + 1) cap)) := by
  have h0 : Below w.heap.size w (((W.alloc (.cells (errCells f) 43)).alloc O3).drew) := by
    rw [← hW]
    exact ((((Below.refl _ _).alloc (Nat.le_refl _) _).alloc (by simp) _).alloc (by simp; omega) _).drew
  have hz : W.heap.size = w.heap.size + 1 := by rw [← hW]; simp
  have hz2 : w.heap.size + 3 = (((W.alloc (.cells (errCells f) 43)).alloc O3).drew).heap.size := by simp [World.drew, hz]
  refine ⟨rfl, W.heap.size, _, World.cell?_setCell_same _ _ _ hcz, ?_, ownsRow_setCell_below hown1 hg _, ?_, by omega, Two.of h0 hgrow _, ?_⟩
  · rw [World.frozen?_setCell]; exact hfz
  · have e3 : (((W.alloc (.cells (errCells f) 43)).alloc O3).drew).heap[W.heap.size]? = some (.cells (errCells f) 43 (0, 0)) := by
      have := heap_alloc_new W (.cells (errCells f) 43)
      exact (Below.heap_alloc _ O3 _ (by simp)).trans this
    exact (Below.heap_setCell _ _ _ _ (by show _ ≠ g; omega)).trans ((hgrow.block _ (by omega) (ne_own hown (by omega))).trans e3)
  · rcases hat with h | h
    · exact .inl h.symm
    · exact .inr ⟨gg, rfl, by omega⟩

set_option maxRecDepth 100000 in
set_option maxHeartbeats 1600000 in
theorem add_any (g base n : Nat) (v : Value) (xs : List Value) (f : Fau) (w : World) (hc : w.cell? ⟨g, 0, none⟩ = some v) (hf : w.frozen? ⟨g, 0, none⟩ = false)
    (hown : w.ownsRow base 41 1 v n xs) (hbase : base ≤ w.heap.size) (hn : n + 1 ≤ 2147483647) (hg : g < base) (ag : v.ownBlock ≠ some g) :
    Calls Try.prog 25 #[.pointer (some ⟨g, 0, none⟩), .agg #[.string ⟨#[]⟩, .int .i64 0, .int .i64 f.line, .int .i64 f.col], .string f.msg] w (Added g base n v xs f w) := by
  obtain ⟨i0, hi0, hz0, hz1, hz2⟩ := info_parts infoPtr
  have lg := World.block_lt_of_cell? w _ hc
  go_enter Try.func25, Try.ntmps25
  have lh : v.ownBlock ≠ some w.heap.size := fun e => by have := hown.lt _ e; omega
  go_wp2_with fail
  generalize hW : w.alloc _ = W
  have HW := hide hW
  have k1 : W.cell? ⟨g, 0, none⟩ = some v := by rw [← hW, World.cell?_alloc_lt _ _ _ lg]; exact hc
  have k2 : W.frozen? ⟨g, 0, none⟩ = false := by rw [← hW, World.frozen?_alloc_past _ _ _ lg]; exact hf
  have c0 : W.cell? ⟨w.heap.size, 0, none⟩ = some (.string ⟨#[]⟩) := by rw [← hW]; simp
  have c1 : W.cell? ⟨w.heap.size, 1, none⟩ = some (.int .i64 0) := by rw [← hW]; simp
  have c2 : W.cell? ⟨w.heap.size, 2, none⟩ = some (.int .i64 f.line) := by rw [← hW]; simp
  have c3 : W.cell? ⟨w.heap.size, 3, none⟩ = some (.int .i64 f.col) := by rw [← hW]; simp
  have hz : W.heap.size = w.heap.size + 1 := by rw [← hW]; simp
  have HZ := hide hz
  have l1 : g < W.heap.size := by omega
  have l2 : w.heap.size < W.heap.size := by omega
  have hownW : W.ownsRow base 41 1 v n xs := by rw [← hW]; exact hown.alloc _
  clear hz hW
  go_region_law
    ((refine step_append_lies _ (by rfl) _ _ _ (by rfl) base 41 i0 _ 1 8 Try.underlying33 hi0 hz0 hz1 hz2 rfl (by omega) v n xs (by rfl) (((hownW.alloc _).alloc _).drew)
        ⟨W.heap.size + 1, 0, none⟩ 1 1 [.pointer (some ⟨W.heap.size, 0, none⟩)] (by rfl) (by rfl) (World.news_of_block (cs := #[.pointer (some ⟨W.heap.size, 0, none⟩)]) (t := 41) (fr := (0, 0)) (by have := heap_alloc_new (W.alloc (.cells (errCells f) 43)) (.cells #[.pointer (some ⟨W.heap.size, 0, none⟩)] 41); rw [World.size_alloc] at this; exact this)) (by simp [Value.oneCell'])
        (by omega) (by unfold maxLen; omega) (by omega) (by simp; omega) (W.heap.size + 2) (by simp) ?_; intro gg cap w1 hown1 hgrow hat hlt
      have hcz : w1.cell? ⟨g, 0, none⟩ = some v := (hgrow.cell_far ⟨g, 0, none⟩ (by simp; omega) (Ne.symm ag)).trans (((((Below.refl W.heap.size W).alloc (Nat.le_refl _) _).alloc (by simp) _).drew.cell (p := ⟨g, 0, none⟩) l1).trans k1)
      have hfz : w1.frozen? ⟨g, 0, none⟩ = false := (hgrow.frozen_far ⟨g, 0, none⟩ (by simp; omega) (Ne.symm ag)).trans (((((Below.refl W.heap.size W).alloc (Nat.le_refl _) _).alloc (by simp) _).drew.frozen (p := ⟨g, 0, none⟩) l1).trans k2)))
  all_goals
    go_end0
    exact added HW.out hown lg hg hcz hfz hown1 hgrow hat

/-- The errors of the faults fs lie in the blocks bs, from block B on. -/
def Errs (w : World) (B : Nat) (bs : List Nat) (fs : List Fau) : Prop :=
  bs.length = fs.length ∧ ∀ (i b : Nat) (f : Fau), bs[i]? = some b → fs[i]? = some f → B ≤ b ∧ w.heap[b]? = some (.cells (errCells f) 43 (0, 0))

def ptrs (bs : List Nat) : List Value := bs.map fun b => .pointer (some ⟨b, 0, none⟩)

theorem Errs.nil_ (w : World) (B : Nat) : Errs w B [] [] := ⟨rfl, fun i b f h => by simp at h⟩
theorem Errs.snoc {w : World} {B : Nat} {bs : List Nat} {fs : List Fau} {b : Nat} {f : Fau} (h : Errs w B bs fs) (hb : B ≤ b) (hc : w.heap[b]? = some (.cells (errCells f) 43 (0, 0))) : Errs w B (bs ++ [b]) (fs ++ [f]) := by
  refine ⟨by simp [h.1], fun i b' f' h1 h2 => ?_⟩
  rcases Nat.lt_trichotomy i bs.length with hi | hi | hi
  · rw [List.getElem?_append_left hi] at h1
    rw [List.getElem?_append_left (by rw [← h.1]; exact hi)] at h2
    exact h.2 i b' f' h1 h2
  · subst hi
    have e1 : b' = b := by simpa using h1.symm
    have e2 : f' = f := by rw [h.1] at h2; simpa using h2.symm
    subst e1; subst e2
    exact ⟨hb, hc⟩
  · rw [List.getElem?_eq_none (by simp; omega)] at h1
    cases h1
theorem Errs.keep {w w' : World} {B : Nat} {bs : List Nat} {fs : List Fau} (h : Errs w B bs fs) (hk : ∀ b c, B ≤ b → w.heap[b]? = some (.cells c 43 (0, 0)) → w'.heap[b]? = w.heap[b]?) : Errs w' B bs fs :=
  ⟨h.1, fun i b f h1 h2 => by
    obtain ⟨h3, h4⟩ := h.2 i b f h1 h2
    exact ⟨h3, (hk b _ h3 h4).trans h4⟩⟩
theorem Errs.mono {w : World} {B B' : Nat} {bs : List Nat} {fs : List Fau} (h : Errs w B bs fs) (hB : B' ≤ B) : Errs w B' bs fs :=
  ⟨h.1, fun i b f h1 h2 => by
    obtain ⟨h3, h4⟩ := h.2 i b f h1 h2
    exact ⟨Nat.le_trans hB h3, h4⟩⟩
theorem lt_of_heap {w : World} {b : Nat} {o : Obj} (h : w.heap[b]? = some o) : b < w.heap.size := by
  rcases Nat.lt_or_ge b w.heap.size with h' | h'
  · exact h'
  · rw [Array.getElem?_eq_none h'] at h; cases h
theorem Errs.alloc {w : World} {B : Nat} {bs : List Nat} {fs : List Fau} (h : Errs w B bs fs) (o : Obj) : Errs (w.alloc o) B bs fs :=
  h.keep fun b _ _ hc => Below.heap_alloc w o b (lt_of_heap hc)
theorem Errs.drew {w : World} {B : Nat} {bs : List Nat} {fs : List Fau} (h : Errs w B bs fs) : Errs w.drew B bs fs := h
/-- A row of another element type lies in another block. -/
theorem own_ne {w : World} {base n b : Nat} {e t : TypeId} {v : Value} {xs : List Value} {c : Array Value} (h : w.ownsRow base e 1 v n xs) (hb : w.heap[b]? = some (.cells c t (0, 0))) (hne : e ≠ t) : some b ≠ v.ownBlock := by
  rcases h.2 with ⟨rfl, _⟩ | ⟨g', cap, cur, rfl, _, hh, _⟩
  · simp [Value.ownBlock]
  · intro he
    have : b = g' := by simpa [Value.ownBlock] using he
    subst this
    rw [hh] at hb
    injection hb with hb
    injection hb with _ ht
    exact hne ht
theorem Errs.two {w w' : World} {g B base n : Nat} {v : Value} {xs : List Value} {bs : List Nat} {fs : List Fau} (h : Errs w B bs fs) (hT : Two g v.ownBlock w w') (hg : g < B)
    (hown : w.ownsRow base 41 1 v n xs) : Errs w' B bs fs :=
  h.keep fun b _ hB hc => hT.block b (lt_of_heap hc) (by omega) (own_ne hown hc (by decide))

theorem own_mono {w : World} {base base' n : Nat} {e : TypeId} {v : Value} {xs : List Value} (h : w.ownsRow base e 1 v n xs) (hb : base' ≤ base) : w.ownsRow base' e 1 v n xs := by
  rcases h with ⟨h1, h2 | ⟨g, cap, cur, h2, h3, h4⟩⟩
  · exact ⟨h1, .inl h2⟩
  · exact ⟨h1, .inr ⟨g, cap, cur, h2, Nat.le_trans hb h3, h4⟩⟩

/-- What impl.list leaves: a list of pointers to the errors of the faults. -/
def Listed (fs : List Fau) (n : Nat) (w : World) (e : Ending) (w' : World) : Prop :=
  ∃ v bs, e = .returned v ∧ w'.ownsRow w.heap.size 41 1 v n (ptrs bs) ∧ Errs w' w.heap.size bs fs ∧ Below w.heap.size w w'

/-- The loop's state behind k rounds. -/
def LRel (w : World) (fs : List Fau) (k : Nat) (wr : World) : Prop :=
  Below w.heap.size w wr ∧ ∃ v bs, wr.cell? ⟨w.heap.size, 0, none⟩ = some v ∧ wr.frozen? ⟨w.heap.size, 0, none⟩ = false ∧ wr.ownsRow (w.heap.size + 1) 41 1 v k (ptrs bs) ∧ Errs wr (w.heap.size + 1) bs (fs.take k) ∧ w.heap.size < wr.heap.size

theorem LRel.start (w : World) (fs : List Fau) (o : TypeId) : LRel w fs 0 (w.alloc (.cells #[.slice none 0 0] o)) :=
  ⟨(Below.refl _ _).alloc (Nat.le_refl _) _, .slice none 0 0, [], by simp, by simp, ⟨rfl, .inl ⟨rfl, rfl⟩⟩, Errs.nil_ _ _, by simp⟩

theorem LRel.step {w W w' : World} {fs : List Fau} {k b : Nat} {f : Fau} {v v' : Value} {bs : List Nat} (hf : fs[k]? = some f) (hb : Below w.heap.size w W) (hlt : w.heap.size < W.heap.size)
    (hown : W.ownsRow (w.heap.size + 1) 41 1 v k (ptrs bs)) (hE : Errs W (w.heap.size + 1) bs (fs.take k))
    (h1 : w'.cell? ⟨w.heap.size, 0, none⟩ = some v') (h2 : w'.frozen? ⟨w.heap.size, 0, none⟩ = false) (h3 : w'.ownsRow (w.heap.size + 1) 41 1 v' (k + 1) (ptrs bs ++ [.pointer (some ⟨b, 0, none⟩)]))
    (h4 : w'.heap[b]? = some (.cells (errCells f) 43 (0, 0))) (h5 : W.heap.size ≤ b) (h6 : Two w.heap.size v.ownBlock W w') : LRel w fs (k + 1) w' := by
  refine ⟨⟨h6.os.trans hb.os, h6.tape.trans hb.tape, h6.output.trans hb.output, Nat.le_trans hb.size h6.size, fun i hi => (h6.block i (by omega) (by omega) ?_).trans (hb.block i hi)⟩, v', bs ++ [b], h1, h2, ?_, ?_, ?_⟩
  · intro e
    have := hown.lt _ e.symm
    omega
  · simpa [ptrs] using h3
  · rw [List.take_add_one, hf]
    exact (hE.two h6 (by omega) hown).snoc (by omega) h4
  · have := h6.size; omega

theorem LRel.done {w wr : World} {fs : List Fau} {n : Nat} {v : Value} (h : LRel w fs n wr) (hn : fs.length = n) (hv : wr.cell? ⟨w.heap.size, 0, none⟩ = some v) : Listed fs n w (.returned v) wr := by
  obtain ⟨hb, v', bs, h1, _, h3, h4, _⟩ := h
  rw [h1] at hv
  obtain rfl := Option.some.inj hv
  subst hn
  rw [List.take_length] at h4
  exact ⟨v', bs, rfl, own_mono h3 (by omega), h4.mono (by omega), hb⟩

set_option maxRecDepth 100000 in
set_option maxHeartbeats 1600000 in
theorem list_any (A : Option Addr) (n c : Nat) (fs : List Fau) (w : World) (hr : FRow w w.heap.size A n fs) (hn : n ≤ 2147483647) :
    Calls Try.prog 20 #[.slice A n c] w (Listed fs n w) := by
  go_enter Try.func20, Try.ntmps20
  go_wp2
  go_loopw [8] (fun i wr => ∃ k : Nat, k ≤ n ∧ i = .int .i64 k ∧ LRel w fs k wr) (fun i _ => n - (intOf i).toNat)
  case atStart => exact ⟨0, Nat.zero_le _, rfl, LRel.start _ _ _⟩
  case round =>
    obtain ⟨k, hk, rfl, hR⟩ := hrel
    by_cases hlt : k < n
    · obtain ⟨b, o, f, rfl, hB, hf, hat⟩ := hr.at_ hlt
      have hR' := hR
      obtain ⟨hb, v, bs, g1, g2, hown, hE, hz⟩ := hR'
      have h0 : wr.cell? ⟨b, o + k * 3, none⟩ = some (.int .i64 f.line) := (hb.cell (p := ⟨b, _, none⟩) hB).trans hat.line
      have h1 : wr.cell? ⟨b, o + k * 3 + 1, none⟩ = some (.int .i64 f.col) := (hb.cell (p := ⟨b, _, none⟩) hB).trans hat.col
      have h2 : wr.cell? ⟨b, o + k * 3 + 2, none⟩ = some (.string f.msg) := (hb.cell (p := ⟨b, _, none⟩) hB).trans hat.msg
      have ag : v.ownBlock ≠ some w.heap.size := fun e => by have := hown.lt _ e; omega
      have CT := hide (add_any w.heap.size (w.heap.size + 1) k v (ptrs bs) f (wr.alloc (.cells #[.int .i64 f.line, .int .i64 f.col, .string f.msg] 27)) ((World.cell?_alloc_lt _ _ _ hz).trans g1)
        ((World.frozen?_alloc_past _ _ _ hz).trans g2) (hown.alloc _) (by simp; omega) (by omega) (by omega) ag)
      have HS := hide fun (b' : Nat) (v' : Value) (w' : World) q1 q2 q3 q4 q5 q6 => LRel.step (b := b') (v' := v') (w' := w') hf (hb.alloc hb.size (.cells #[.int .i64 f.line, .int .i64 f.col, .string f.msg] 27)) (by simp; omega) (hown.alloc _) (hE.alloc _) q1 q2 q3 q4 q5 q6
      clear hf hE hown hat hr hR g1 g2 hb
      go_wp2_with (go_at_call 25; refine CT.out.mono ?_; rintro e w' ⟨rfl, b', v', q1, q2, q3, q4, q5, q6, _⟩)
      go_roundw
      case rel => exact ⟨k + 1, by omega, by go_num, HS.out b' v' w' q1 q2 q3 q4 q5 q6⟩
      case measure => simp [intOf]; omega
    · obtain rfl : k = n := by omega
      obtain ⟨_, v, bs, g1, _⟩ := id hR
      have HD := hide (hR.done hr.1 g1)
      clear hr hR
      go_wp2
      go_ret
      exact HD.out

end Go.Proofs.Ytdifjpcfmmipoaa
