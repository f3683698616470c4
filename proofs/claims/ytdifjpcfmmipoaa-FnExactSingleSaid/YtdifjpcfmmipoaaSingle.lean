/-
  The walk of impl.Single: of each line's faults the first one, in the order of the lines.
-/
import Derived.Test.YtdifjpcfmmipoaaRemove
import Derived.Test.YtdifjpcfmmipoaaSortImpl
namespace Go.Proofs.Ytdifjpcfmmipoaa
open Go.RowKit Go.Sort

set_option maxRecDepth 1000000 in
set_option maxHeartbeats 4000000 in
theorem remove_none (base pb : Nat) (w : World) (hp : w.cell? ⟨pb, 0, none⟩ = some (.slice none 0 0)) (hfp : w.frozen? ⟨pb, 0, none⟩ = false) (hpb : base ≤ pb) (hB : base ≤ w.heap.size) :
    Calls Try.prog 24 #[.pointer (some ⟨pb, 0, none⟩)] w (Removed base pb [] w) := by
  have lp := World.block_lt_of_cell? w _ hp
  have CS := hide (sort_ptr_tiny pb 0 0 none w hp (Nat.zero_le _))
  have c1 : (w.alloc (.cells #[.string ⟨#[]⟩, .int .i64 0, .int .i64 0, .int .i64 0] 39)).cell? ⟨pb, 0, none⟩ = some (.slice none 0 0) := by rw [World.cell?_alloc_lt _ _ _ lp]; exact hp
  have f1 : (w.alloc (.cells #[.string ⟨#[]⟩, .int .i64 0, .int .i64 0, .int .i64 0] 39)).frozen? ⟨pb, 0, none⟩ = false := by rw [World.frozen?_alloc_past _ _ _ lp]; exact hfp
  have HR : Hid (Removed base pb [] w (.returned (.tuple #[])) ((w.setCell ⟨pb, 0, none⟩ (.slice none 0 0)).alloc (.cells #[.string ⟨#[]⟩, .int .i64 0, .int .i64 0, .int .i64 0] 39))) :=
    ⟨rfl, .slice none 0 0, [], by rw [World.cell?_alloc_lt _ _ _ (by simpa using lp)]; exact World.cell?_setCell_same _ _ _ hp, ⟨by simp [ptrs, sgl, srt, sng], .inl ⟨rfl, by simp [sgl, srt, sng]⟩⟩, by simpa [sgl, srt, sng] using Errs.nil_ _ base, ((Below.refl base w).setCell hpb _).alloc (by simpa using hB) _⟩
  go_enter Try.func24, Try.ntmps24
  go_wp2_with fail
  refine CS.out.mono ?_
  rintro e w1 ⟨rfl, rfl⟩
  go_wp2
  go_loopw [3, 13] (fun vi vk wr => vi = .int .i64 0 ∧ vk = .int .i64 0 ∧ wr = w1.alloc (.cells #[.string ⟨#[]⟩, .int .i64 0, .int .i64 0, .int .i64 0] 39)) (fun _ _ _ => 0)
  case atStart => exact ⟨rfl, rfl, rfl⟩
  case round =>
    obtain ⟨rfl, rfl, rfl⟩ := hrel
    go_wp2
    go_end0
    exact HR.out

theorem remove_any (base n pb : Nat) (v : Value) (bs : List Nat) (fs : List Fau) (w : World) (hown : w.ownsRow base 41 1 v n (ptrs bs)) (hE : Errs w base bs fs) (hn : n ≤ 2147483647)
    (hp : w.cell? ⟨pb, 0, none⟩ = some v) (hfp : w.frozen? ⟨pb, 0, none⟩ = false) (hpb : base ≤ pb) (hpv : some pb ≠ v.ownBlock) (hB : base ≤ w.heap.size) :
    Calls Try.prog 24 #[.pointer (some ⟨pb, 0, none⟩)] w (Removed base pb fs w) := by
  rcases hown.2 with ⟨rfl, rfl⟩ | ⟨g, cap, _, rfl, _⟩
  · have hb : bs = [] := by have := hown.1; simpa [ptrs] using this
    have hf : fs = [] := by have := hE.1; rw [hb] at this; exact List.length_eq_zero_iff.1 this.symm
    subst hf
    exact remove_none base pb w hp hfp hpb hB
  · exact remove_some base n pb g cap bs fs w hown hE hn hp hfp hpb (fun e => hpv (by rw [e]; rfl))

set_option maxRecDepth 1000000 in
set_option maxHeartbeats 4000000 in
theorem single_any (A : Option Addr) (n c : Nat) (fs : List Fau) (w : World) (hr : FRow w w.heap.size A n fs) (hn : n ≤ 2147483647) :
    Calls Try.prog 16 #[.slice A n c] w (Faulted (sgl fs) (sgl fs).length w) := by
  have hlen : (sgl fs).length ≤ n := by have := sgl_length fs; have := hr.1; omega
  have CL := hide (list_any A n c fs w hr hn)
  clear hr
  go_enter Try.func16, Try.ntmps16
  go_wp2_with fail
  refine CL.out.mono ?_
  rintro e w1 ⟨v, bs, rfl, h1, h2, hb⟩
  obtain ⟨A', c', rfl⟩ : ∃ A' c', v = .slice A' n c' := by
    rcases h1.2 with ⟨rfl, rfl⟩ | ⟨g, cap, _, rfl, _⟩
    · exact ⟨_, _, rfl⟩
    · exact ⟨_, _, rfl⟩
  have H1 := hide h1
  have H2 := hide h2
  clear h1 h2
  go_wp2_with fail
  have CR := remove_any w.heap.size n w1.heap.size (.slice A' n c') bs fs (w1.alloc (.cells #[.slice A' n c'] 33)) (H1.out.alloc _) (H2.out.alloc _) hn (by simp) (by simp) hb.size (fun e => by have := H1.out.lt _ e.symm; omega) (by have := hb.size; simp; omega)
  refine CR.mono ?_
  rintro e w2 ⟨rfl, v', KB, hc, h3, h4, hb2⟩
  obtain ⟨A2, c2, rfl⟩ : ∃ A2 c2, v' = .slice A2 (sgl fs).length c2 := by
    rcases h3.2 with ⟨rfl, h0⟩ | ⟨g, cap, _, rfl, _⟩
    · exact ⟨_, _, by rw [h0]⟩
    · exact ⟨_, _, rfl⟩
  have CF := faults_any w.heap.size (sgl fs).length _ KB (sgl fs) w2 h3 h4 (by omega)
  clear CR h3 h4
  go_wp2_with fail
  refine CF.mono ?_
  rintro e w3 ⟨A3, c3, rfl, h5, hb3⟩
  go_wp2
  go_ret
  exact ⟨A3, c3, rfl, h5, (((hb.alloc hb.size _).trans hb2).trans (hb3.mono (Nat.le_trans (by have := hb.size; simp; omega) hb2.size)))⟩

end Go.Proofs.Ytdifjpcfmmipoaa
