/-
  The walk of sort.Sort over a pointer to a list of errors, and its state made whole: a list of errors, sorted through a pointer to it, comes to the same errors in the order of their faults.
-/
import Derived.Test.YtdifjpcfmmipoaaPtrPdq
namespace Go.Proofs.Ytdifjpcfmmipoaa
open Go.RowKit Go.Sort Go.Lib

theorem enter_len : ∀ args w, (callFunc 62 args).run Try.prog w = .ok (.enter 62 args) w := enters_of Try.func62 (by kernel_rfl) rfl

section
variable {B n pb g c : Nat} {A : Option Addr} {lt : Nat → Nat → Bool} {St : Array Nat → World → Prop}

set_option maxRecDepth 1000000 in
set_option maxHeartbeats 2000000 in
theorem sort_ptr (R : Rig B n pb g A c lt St) {d : Array Nat} {w : World} (hS : St d w) (h2 : 2 ≤ n) :
    Calls Try.prog 26 #[.iface 44 (.pointer (some ⟨pb, 0, none⟩))] w fun e w' => e = .returned (.tuple #[]) ∧ ∃ d', PermIn 0 n d d' ∧ SortedIn lt 0 n d' ∧ St d' w' := by
  have hn := R.small
  have hd := R.size hS
  have hlen := len_any A n c w
  have m0 := find_len pb A n c w (R.ptr hS)
  have eN := enter_len
  have hb := Try.bits_Len (n : Int) w (by omega) (by omega)
  rw [show ((n : Int)).toNat = n by omega] at hb
  have hlim : Lib.bitLen n < 4611686018427387904 := Nat.lt_of_le_of_lt (Lib.bitLen_le n 62 (by omega) (by omega)) (by omega)
  have hp := pdq_ptr R (n + 1) 0 n (Lib.bitLen n) d w (by omega) hS (Nat.zero_le _) (Nat.le_refl _) hlim (Or.inl rfl)
  have HF := hide (pdq_sorts lt R.order d 0 n (Lib.bitLen n) true true (Nat.zero_le _) (by omega) (Or.inl rfl))
  have wr : IntKind.u64.wrap (n : Int) = n := by simp [IntKind.wrap, IntKind.bits, IntKind.signed]; omega
  have h1 : ¬ (n : Int) ≤ 1 := by omega
  clear R hS
  go_enter Try.func26, Try.ntmps26
  go_wp2_with fail
  refine hlen.mono ?_
  rintro e w1 ⟨rfl, rfl⟩
  go_wp2_with fail
  refine hb.mono ?_
  rintro e w1 ⟨rfl, rfl⟩
  go_wp2_with fail
  refine hp.mono ?_
  rintro e w1 ⟨rfl, S1⟩
  go_wp2
  go_end0
  exact ⟨rfl, _, HF.out.1, HF.out.2, S1⟩

set_option maxRecDepth 1000000 in
set_option maxHeartbeats 2000000 in
theorem sort_ptr_tiny (pb n c : Nat) (A : Option Addr) (w : World) (hc : w.cell? ⟨pb, 0, none⟩ = some (.slice A n c)) (hn : n ≤ 1) :
    Calls Try.prog 26 #[.iface 44 (.pointer (some ⟨pb, 0, none⟩))] w fun e w' => e = .returned (.tuple #[]) ∧ w' = w := by
  have hlen := len_any A n c w
  have m0 := find_len pb A n c w hc
  have eN := enter_len
  have h1 : (n : Int) ≤ 1 := by omega
  go_enter Try.func26, Try.ntmps26
  go_wp2_with fail
  refine hlen.mono ?_
  rintro e w1 ⟨rfl, rfl⟩
  go_wp2
  (try simp only [Exit.inBlock, Exit.then])
  refine bodyPost_ret (results_none rfl _ _ _) rfl ?_
  exact ⟨rfl, rfl⟩
end

/-- The list's state under the sort: from world w0, block g alone has been turned; it holds the pointers at the places d. -/
structure PS (w0 : World) (bs : List Nat) (g n m : Nat) (d : Array Nat) (w : World) : Prop where
  size : d.size = n
  grown : w0.grownBy w (some g)
  row : Holds (encP bs) w g 0 d
  lies : ∃ cur, w.heap[g]? = some (.cells cur 41 (0, 0)) ∧ cur.size = m

theorem take_holds {w : World} {bs : List Nat} {g n : Nat} {d : Array Nat} {cur : Array Value} (hH : Holds (encP bs) w g 0 d) (hd : d.size = n) (hb : w.heap[g]? = some (.cells cur 41 (0, 0))) (_hc : n ≤ cur.size) : cur.toList.take n = ptrs (d.toList.map (pk bs)) := by
  apply List.ext_getElem?
  intro j
  by_cases hj : j < n
  · have h1 := (hH j (by omega)).1
    rw [Nat.zero_add, cell_of_row w g j _ _ (0, 0) hb] at h1
    rw [List.getElem?_take_of_lt hj, Array.getElem?_toList, h1]
    have hj' : j < d.size := by omega
    simp [ptrs, encP, hj']
  · rw [List.getElem?_take_eq_none (by omega), List.getElem?_eq_none (by simp [ptrs]; omega)]

theorem rig_of {base n g c m pb : Nat} {bs : List Nat} {fs : List Fau} {w0 : World} (hE : Errs w0 base bs fs) (h0 : 0 < bs.length) (hsz : n < 4611686018427387904) (hg : g < w0.heap.size)
    (hne : ∀ b f, ErrAt w0 b f → g ≠ b) (hp : w0.cell? ⟨pb, 0, none⟩ = some (.slice (some ⟨g, 0, none⟩) n c)) (hpg : pb ≠ g) :
    Rig w0.heap.size n pb g (some ⟨g, 0, none⟩) c (ltP fs) (PS w0 bs g n m) where
  small := hsz
  old := hg
  order := swo_ltP fs
  size h := h.size
  heap h := h.grown.size
  ptr h := h.grown.cell hp (fun e => by injection e with e; exact hpg e)
  grown := fun {d w w' row} h hw hr => by
    have hlt : g < w.heap.size := Nat.lt_of_lt_of_le hg h.grown.size
    have hng : some g ≠ row := fun e => absurd (hr g e.symm) (by omega)
    have hb := hw.block g hlt hng
    refine ⟨h.size, ⟨hw.os.trans h.grown.os, hw.tape.trans h.grown.tape, hw.output.trans h.grown.output, Nat.le_trans h.grown.size hw.size, fun k hk hk2 => (hw.block k (Nat.lt_of_lt_of_le hk h.grown.size) (fun e => absurd (hr k e.symm) (by omega))).trans (h.grown.block k hk hk2)⟩, fun j hj => ?_, ?_⟩
    · have := h.row j hj
      exact ⟨(World.cell?_of_block (w := w) hb).trans this.1, (World.frozen?_of_block (w := w) hb).trans this.2⟩
    · obtain ⟨cur, hc, hm⟩ := h.lies
      exact ⟨cur, hb.trans hc, hm⟩
  less := fun {d w} h i j hi hj => by
    have ea := fun k => (hE.at_ h0 k).2
    have eb : ∀ k, ErrAt w (pk bs k) (fk fs k) := fun k => (h.grown.block _ (lt_of_heap (ea k)) (fun e => by injection e with e; exact hne _ _ (ea k) e.symm)).trans (ea k)
    exact less_any g 0 c n i j (pk bs d[i]!) (pk bs d[j]!) (fk fs d[i]!) (fk fs d[j]!) w hi hj hsz (h.row i (by have := h.size; omega)).1 (h.row j (by have := h.size; omega)).1 (eb _) (eb _)
  swap := fun {d w} h i j hi hj => by
    have hs := h.size
    have hi' : i < d.size := by omega
    have hj' : j < d.size := by omega
    refine (swap_any g 0 c n w (encP bs d[i]!) (encP bs d[j]!) i j hi hj hsz (h.row i hi').1 (h.row j hj').1 (h.row i hi').2 (h.row j hj').2 ⟨_, rfl⟩ ⟨_, rfl⟩).mono fun e w' hw => ?_
    obtain ⟨rfl, q, rfl⟩ := hw
    have e1 : ((w.setCell ⟨g, 0 + i, none⟩ (encP bs d[j]!)).setCell ⟨g, 0 + j, none⟩ (encP bs d[i]!)).drewN q = sortWorld (encP bs) w g 0 q (swp d i j) #[] := by
      rw [← sortWorld_plain]
      have h1 := swapM_world (encP bs) w 0 q g 0 d i j hi' hj'
      rw [show putRow (encP bs) (Sort.ahead w 0) g 0 d = w from putRow_self (encP bs) w g 0 d h.row, Nat.zero_add q] at h1
      exact h1
    rw [e1]
    obtain ⟨cur, hc, hm⟩ := h.lies
    have hg1 : w.grownBy (sortWorld (encP bs) w g 0 q (swp d i j) #[]) (some g) := sortWorld_grown
    refine ⟨rfl, ⟨by rw [size_swp, hs], h.grown.trans hg1, ?_, _, sortWorld_row hc, by simp [putCells, hm]⟩, hg1⟩
    rw [← sortWorld_plain]
    exact holds_putRow (encP bs) _ g 0 d _ (holds_ahead _ _ _ _ _ _ h.row) (size_swp _ _ _)

/-- **A list of errors, sorted through a pointer to it.** -/
theorem sortPtr_any (base n pb : Nat) (v : Value) (bs : List Nat) (fs : List Fau) (w : World) (hown : w.ownsRow base 41 1 v n (ptrs bs)) (hE : Errs w base bs fs) (hsz : n < 4611686018427387904)
    (hp : w.cell? ⟨pb, 0, none⟩ = some v) (hpv : some pb ≠ v.ownBlock) :
    Calls Try.prog 26 #[.iface 44 (.pointer (some ⟨pb, 0, none⟩))] w (SortedErr base n v fs w) := by
  have hl : bs.length = n := by have := hown.1; simpa [ptrs] using this
  by_cases h2 : 2 ≤ n
  · obtain ⟨g, c, rfl, hb, hg⟩ := hown.form (by omega)
    have hne : ∀ b f, ErrAt w b f → g ≠ b := fun b f he e => own_ne hown he (by decide) (by rw [e]; rfl)
    rcases hown.2 with ⟨hv, _⟩ | ⟨g', cap, cur, hv, hb', hh, hn, hcap, hcur, htake⟩
    · cases hv
    simp only [Value.slice.injEq, Option.some.injEq, Addr.mk.injEq, and_true, true_and] at hv
    obtain ⟨rfl, rfl⟩ := hv
    have R := rig_of (m := cur.size) hE (by omega) hsz hg hne hp (fun e => hpv (by rw [e]; rfl))
    have S0 : PS w bs g n cur.size (Array.range n) w := ⟨by simp, World.grownBy.refl _ _, own_holds hown, cur, hh, rfl⟩
    refine (sort_ptr R S0 h2).mono fun e w' h => ?_
    obtain ⟨rfl, d', hP, hS, S1⟩ := h
    have hd := S1.size
    obtain ⟨cur', hc', hm'⟩ := S1.lies
    have hfs : d'.toList.map (fk fs) = srt fs := by
      have hlf : fs.length = n := by rw [← hE.1]; exact hl
      rw [srt_of_places (fk fs) n d' hP hS, ← hlf, range_fk]
    refine ⟨rfl, d'.toList.map (pk bs), ⟨by simp [ptrs, hd], .inr ⟨g, c, cur', rfl, hb', hc', hn, hcap, by rw [hm', hcur], ?_⟩⟩, ?_, S1.grown⟩
    · rw [Nat.mul_one]
      exact take_holds S1.row hd hc' (by rw [hm', hcur]; omega)
    · rw [← hfs]
      refine ⟨by simp, fun i b f h1 h2 => ?_⟩
      rw [List.getElem?_map] at h1 h2
      obtain ⟨x, hx, rfl⟩ := Option.map_eq_some_iff.1 h1
      rw [hx] at h2
      obtain rfl : fk fs x = f := by simpa using h2
      obtain ⟨q1, q2⟩ := hE.at_ (by omega) x
      exact ⟨q1, (S1.grown.block _ (lt_of_heap q2) (fun e => by injection e with e; exact hne _ _ q2 e.symm)).trans q2⟩
  · obtain ⟨A, c, rfl⟩ : ∃ A c, v = .slice A n c := by
      rcases hown.2 with ⟨rfl, rfl⟩ | ⟨g, cap, _, rfl, _⟩
      · exact ⟨_, _, rfl⟩
      · exact ⟨_, _, rfl⟩
    refine (sort_ptr_tiny pb n c A w hp (by omega)).mono fun e w' h => ?_
    obtain ⟨rfl, rfl⟩ := h
    have hs : srt fs = fs := by
      have hlf : fs.length ≤ 1 := by rw [← hE.1]; omega
      match fs, hlf with
      | [], _ => simp [srt]
      | [f], _ => simp [srt]
    exact ⟨rfl, bs, hown, by rw [hs]; exact hE, World.grownBy.refl _ _⟩

end Go.Proofs.Ytdifjpcfmmipoaa
