/-
  Words for memory: a slice of faults (three cells each: line, column, message) that reads as a list, below a block number. What keeps such a reading. No program in sight.
-/
import Derived.WalkKit
import Derived.Deep.Draws
import Derived.WalkSmall
namespace Go.Proofs.Ytdifjpcfmmipoaa
open Go.RowKit

/-- A fault as data: its line, its column, its message. -/
structure Fau where
  line : Int
  col : Int
  msg : ByteArray

instance : Inhabited Fau := ⟨⟨0, 0, ByteArray.empty⟩⟩

theorem Fau.eq_of {a b : Fau} (h1 : a.line = b.line) (h2 : a.col = b.col) (h3 : a.msg.data.toList = b.msg.data.toList) : a = b := by
  cases a with
  | mk l c m =>
    cases b with
    | mk l' c' m' =>
      simp only at h1 h2 h3
      subst h1; subst h2
      have h4 : m.data = m'.data := Array.toList_inj.1 h3
      have h5 : m = m' := by cases m; cases m'; simp only at h4; subst h4; rfl
      subst h5; rfl


/-- The three cells of a fault. -/
def Fau.cells (f : Fau) : List Value := [.int .i64 f.line, .int .i64 f.col, .string f.msg]

/-- A FAULT THAT LIES AT PLACE k OF A ROW: its three cells. -/
structure FAt (w : World) (b o : Nat) (f : Fau) : Prop where
  line : w.cell? ⟨b, o, none⟩ = some (.int .i64 f.line)
  col : w.cell? ⟨b, o + 1, none⟩ = some (.int .i64 f.col)
  msg : w.cell? ⟨b, o + 2, none⟩ = some (.string f.msg)

/-- WHAT FITS: every number an int, every text no longer than a text can be. -/
def Fau.ok (f : Fau) : Prop := -9223372036854775808 ≤ f.line ∧ f.line ≤ 9223372036854775807 ∧ -9223372036854775808 ≤ f.col ∧ f.col ≤ 9223372036854775807 ∧ f.msg.size ≤ maxLen

/-- THE SLICE (A, n) READS AS THE FAULTS fs, below block B. -/
def FRow (w : World) (B : Nat) (A : Option Addr) (n : Nat) (fs : List Fau) : Prop :=
  fs.length = n ∧ (0 < n → ∃ b o, A = some ⟨b, o, none⟩ ∧ b < B ∧ ∀ k (hk : k < fs.length), FAt w b (o + k * 3) fs[k])

theorem FAt.keep {w w' : World} {b o : Nat} {f : Fau} (h : FAt w b o f) (hk : ∀ i, w'.cell? ⟨b, i, none⟩ = w.cell? ⟨b, i, none⟩) : FAt w' b o f :=
  ⟨(hk _).trans h.line, (hk _).trans h.col, (hk _).trans h.msg⟩

section
variable {w w' : World} {B B' n : Nat} {A : Option Addr} {fs : List Fau}
theorem FRow.nil_ : FRow w B A 0 [] := ⟨rfl, fun h => absurd h (by omega)⟩
theorem FRow.keep (h : FRow w B A n fs) (hk : ∀ p : Addr, p.block < B → w'.cell? p = w.cell? p) : FRow w' B A n fs :=
  ⟨h.1, fun hn => by
    obtain ⟨b, o, e, hb, hc⟩ := h.2 hn
    exact ⟨b, o, e, hb, fun k hk' => (hc k hk').keep fun i => hk _ hb⟩⟩
theorem FRow.more (h : FRow w B A n fs) (hB : B ≤ B') : FRow w B' A n fs :=
  ⟨h.1, fun hn => by
    obtain ⟨b, o, e, hb, hc⟩ := h.2 hn
    exact ⟨b, o, e, by omega, hc⟩⟩
theorem FRow.below (h : FRow w B A n fs) (hb : Below B w w') : FRow w' B A n fs := h.keep fun _ hp => hb.cell hp
theorem FRow.at_ (h : FRow w B A n fs) {k : Nat} (hk : k < n) : ∃ b o f, A = some ⟨b, o, none⟩ ∧ b < B ∧ fs[k]? = some f ∧ FAt w b (o + k * 3) f := by
  obtain ⟨b, o, e, hb, hc⟩ := h.2 (by omega)
  have hl : k < fs.length := by have := h.1; omega
  exact ⟨b, o, fs[k], e, hb, List.getElem?_eq_getElem hl, hc k hl⟩
end

theorem bcell {W w1 : World} {B : Nat} (hb : Below B W w1) : (∀ b o, b < B → w1.cell? ⟨b, o, none⟩ = W.cell? ⟨b, o, none⟩) ∧ (∀ b o, b < B → w1.frozen? ⟨b, o, none⟩ = W.frozen? ⟨b, o, none⟩) :=
  ⟨fun b o h => hb.cell (p := ⟨b, o, none⟩) h, fun b o h => hb.frozen (p := ⟨b, o, none⟩) h⟩

theorem hide {p : Prop} (h : p) : Hid p := h
theorem ret_bool {a b : Bool} (h : a = b) : Ending.returned (.bool a) = .returned (.bool b) := by rw [h]
theorem ret_int {k : IntKind} {a b : Int} (h : a = b) : Ending.returned (.int k a) = .returned (.int k b) := by rw [h]

end Go.Proofs.Ytdifjpcfmmipoaa
