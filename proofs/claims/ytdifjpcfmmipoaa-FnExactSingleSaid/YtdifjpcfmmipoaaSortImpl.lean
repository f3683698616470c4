/-
  The walks of ErrorList.Sort and impl.Sort: a slice of faults comes back sorted.
-/
import Derived.Test.YtdifjpcfmmipoaaSortVal
import Derived.Test.YtdifjpcfmmipoaaFaults
namespace Go.Proofs.Ytdifjpcfmmipoaa
open Go.RowKit

theorem errSort_any (base n : Nat) (v : Value) (bs : List Nat) (fs : List Fau) (w : World) (hown : w.ownsRow base 41 1 v n (ptrs bs)) (hE : Errs w base bs fs) (hn : n ≤ 2147483647) :
    Calls Try.prog 21 #[v] w (SortedErr base n v fs w) := by
  have CS := hide (sortSort_any base n v bs fs w hown hE (by omega))
  clear hown hE
  go_enter Try.func21, Try.ntmps21
  go_wp2_with (go_at_call 26; refine CS.out.mono ?_; rintro e w1 ⟨rfl, bs', q1, q2, q3⟩)
  go_end0
  exact ⟨rfl, bs', q1, q2, q3⟩

theorem below_own {w w1 w2 : World} {base n : Nat} {e : TypeId} {v : Value} {xs : List Value} (hb : Below base w w1) (hown : w1.ownsRow base e 1 v n xs) (hB : base ≤ w1.heap.size) (hg : w1.grownBy w2 v.ownBlock) : Below base w w2 :=
  hb.grown hg hB fun k hk => (hown.lt k hk).1

theorem srt_len {fs : List Fau} {n : Nat} (h : fs.length = n) : (srt fs).length = n := by rw [srt_length, h]

theorem sortImpl_any (A : Option Addr) (n c : Nat) (fs : List Fau) (w : World) (hr : FRow w w.heap.size A n fs) (hn : n ≤ 2147483647) :
    Calls Try.prog 11 #[.slice A n c] w (Faulted (srt fs) n w) := by
  have CL := hide (list_any A n c fs w hr hn)
  have CS := hide fun (v : Value) (bs : List Nat) (w1 : World) (h1 : w1.ownsRow w.heap.size 41 1 v n (ptrs bs)) (h2 : Errs w1 w.heap.size bs fs) => errSort_any w.heap.size n v bs fs w1 h1 h2 hn
  have CF := hide fun (v : Value) (bs : List Nat) (w2 : World) (h1 : w2.ownsRow w.heap.size 41 1 v n (ptrs bs)) (h2 : Errs w2 w.heap.size bs (srt fs)) => faults_any w.heap.size n v bs (srt fs) w2 h1 h2 hn
  clear hr
  go_enter Try.func11, Try.ntmps11
  go_wp2_with fail
  refine CL.out.mono ?_
  rintro e w1 ⟨v, bs, rfl, h1, h2, hb⟩
  go_wp2_with fail
  refine (CS.out v bs w1 h1 h2).mono ?_
  rintro e w2 ⟨rfl, bs', h3, h4, h5⟩
  have hb2 := below_own hb h1 hb.size h5
  clear h1 h2
  go_wp2_with fail
  refine (CF.out v bs' w2 h3 h4).mono ?_
  rintro e w3 ⟨A', c', rfl, h6, hb3⟩
  clear h3 h4 h5
  go_wp2
  go_ret
  exact ⟨A', c', rfl, h6, hb2.trans (hb3.mono hb2.size)⟩

end Go.Proofs.Ytdifjpcfmmipoaa
