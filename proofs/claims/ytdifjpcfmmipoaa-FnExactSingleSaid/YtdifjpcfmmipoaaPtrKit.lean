/-
  The methods of a list of errors, reached through a pointer to it: what the look-up reads, and the abstract state of a list under sorting.
-/
import Derived.Test.YtdifjpcfmmipoaaSortVal
namespace Go.Proofs.Ytdifjpcfmmipoaa
open Go.RowKit Go.Sort Go.Lib

theorem load_list (pb : Nat) (v : Value) (w : World) (h : w.cell? ⟨pb, 0, none⟩ = some v) : (loadVar 33 ⟨pb, 0, none⟩).run Try.prog w = .ok v w := by
  simp [loadVar, h, go_sem]

theorem nil_chk (ts : Array TypeId) (t : TypeId) (p : Addr) (x y : ByteArray) : Builtin.ssaWrapNilChk_ ts t #[.pointer (some p), .string x, .string y] = pure (.pointer (some p)) := rfl

theorem find_method {P : Program} {T elem : TypeId} {f pb : Nat} {v : Value} {name : String} (hm : ((P.info? T).bind fun ti => (ti.methods.find? (fun x => x.name == name)).map fun m => (m.path, m.func)) = some (#[], some (f, false)))
    (hu : ∀ w, (underlying T).run P w = .ok (.pointer elem) w) (w : World) (hl : (loadVar elem ⟨pb, 0, none⟩).run P w = .ok v w) (k : Nat) :
    Sem.run P (method (k + 1) T (.pointer (some ⟨pb, 0, none⟩)) name) w = .ok (f, v) w := by
  obtain ⟨ti, hti, hm⟩ := Option.bind_eq_some_iff.1 hm
  obtain ⟨m, hm, he⟩ := Option.map_eq_some_iff.1 hm
  obtain ⟨m1, m2, m3, m4⟩ := m
  simp only [Prod.mk.injEq] at he
  obtain ⟨rfl, rfl⟩ := he
  have ht : (typeInfo T).run P w = .ok ti w := by simp [typeInfo, hti, go_sem]
  rw [method]
  simp only [Sem.run_bind, ht, Result.andThen_ok, hm]
  simp only [follow, Sem.run_pure, Result.andThen_ok]
  simp only [receiverAt, Sem.run_bind, hu, Result.andThen_ok, Place.get, Sem.run_pure, strVal]
  simp only [show (#[] : Array FieldStep).isEmpty = true from rfl, if_true, nil_chk, Sem.run_pure, Sem.run_bind, Result.andThen_ok, asAddr, hl]

theorem find_less (pb : Nat) (A : Option Addr) (n c : Nat) (w : World) (h : w.cell? ⟨pb, 0, none⟩ = some (.slice A n c)) :
    Sem.run Try.prog (method 191 44 (.pointer (some ⟨pb, 0, none⟩)) "Less") w = .ok (63, .slice A n c) w :=
  find_method (by kernel_rfl) (fun _ => by kernel_rfl) w (load_list pb _ w h) _
theorem find_swap (pb : Nat) (A : Option Addr) (n c : Nat) (w : World) (h : w.cell? ⟨pb, 0, none⟩ = some (.slice A n c)) :
    Sem.run Try.prog (method 191 44 (.pointer (some ⟨pb, 0, none⟩)) "Swap") w = .ok (64, .slice A n c) w :=
  find_method (by kernel_rfl) (fun _ => by kernel_rfl) w (load_list pb _ w h) _
theorem find_len (pb : Nat) (A : Option Addr) (n c : Nat) (w : World) (h : w.cell? ⟨pb, 0, none⟩ = some (.slice A n c)) :
    Sem.run Try.prog (method 191 44 (.pointer (some ⟨pb, 0, none⟩)) "Len") w = .ok (62, .slice A n c) w :=
  find_method (by kernel_rfl) (fun _ => by kernel_rfl) w (load_list pb _ w h) _

/-- WHAT A SORT THROUGH A POINTER TO A LIST LEANS ON: 'St d w': in world w the list reads as d. What is made anew, or turned in blocks from B on, leaves it; Less compares two places of it; Swap swaps them, and turns block g alone. -/
structure Rig (B n pb g : Nat) (A : Option Addr) (c : Nat) (lt : Nat → Nat → Bool) (St : Array Nat → World → Prop) : Prop where
  small : n < 4611686018427387904
  old : g < B
  order : SWO lt
  size : ∀ {d w}, St d w → d.size = n
  heap : ∀ {d w}, St d w → B ≤ w.heap.size
  ptr : ∀ {d w}, St d w → w.cell? ⟨pb, 0, none⟩ = some (.slice A n c)
  grown : ∀ {d w w' row}, St d w → w.grownBy w' row → (∀ k, row = some k → B ≤ k) → St d w'
  less : ∀ {d w}, St d w → ∀ i j : Nat, i < n → j < n → Calls Try.prog 63 #[.slice A n c, .int .i64 i, .int .i64 j] w fun e w' => e = .returned (.bool (lt d[i]! d[j]!)) ∧ ∃ q, w' = w.drewN q
  swap : ∀ {d w}, St d w → ∀ i j : Nat, i < n → j < n → Calls Try.prog 64 #[.slice A n c, .int .i64 i, .int .i64 j] w fun e w' => e = .returned (.tuple #[]) ∧ St (swp d i j) w' ∧ w.grownBy w' (some g)

section
variable {B n pb g c : Nat} {A : Option Addr} {lt : Nat → Nat → Bool} {St : Array Nat → World → Prop} {d : Array Nat} {w w' : World}
theorem Rig.drew (R : Rig B n pb g A c lt St) (h : St d w) (q : Nat) : St d (w.drewN q) := R.grown (row := none) h ⟨rfl, rfl, rfl, Nat.le_refl _, fun _ _ _ => rfl⟩ (fun _ h => by cases h)
theorem Rig.findL (R : Rig B n pb g A c lt St) (h : St d w) : Sem.run Try.prog (method 191 44 (.pointer (some ⟨pb, 0, none⟩)) "Less") w = .ok (63, .slice A n c) w := find_less pb A n c w (R.ptr h)
theorem Rig.findS (R : Rig B n pb g A c lt St) (h : St d w) : Sem.run Try.prog (method 191 44 (.pointer (some ⟨pb, 0, none⟩)) "Swap") w = .ok (64, .slice A n c) w := find_swap pb A n c w (R.ptr h)
end
theorem enter_less : ∀ args w, (callFunc 63 args).run Try.prog w = .ok (.enter 63 args) w := enters_of Try.func63 (by kernel_rfl) rfl
theorem enter_swap : ∀ args w, (callFunc 64 args).run Try.prog w = .ok (.enter 64 args) w := enters_of Try.func64 (by kernel_rfl) rfl

end Go.Proofs.Ytdifjpcfmmipoaa
