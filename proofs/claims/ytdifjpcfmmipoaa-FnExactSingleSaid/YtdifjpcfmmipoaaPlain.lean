/-
  Plain laws on lists of faults (a line, a column, a message): their order, the sorted list, and what is left when only the first fault of each line stays. No program in sight.
-/
import Derived.Sort.LotA
import Derived.Test.YtdifjpcfmmipoaaWords
namespace Go.Proofs.Ytdifjpcfmmipoaa
open Go.Sort

/-- The order of faults: by line, then by column, then by message. -/
def ltF (a b : Fau) : Bool :=
  if a.line = b.line then (if a.col = b.col then ltStr a.msg.data.toList b.msg.data.toList else decide (a.col < b.col)) else decide (a.line < b.line)

theorem ltF_line {a b : Fau} (h : a.line ≠ b.line) : ltF a b = decide (a.line < b.line) := by simp [ltF, h]
theorem ltF_col {a b : Fau} (h : a.line = b.line) (h' : a.col ≠ b.col) : ltF a b = decide (a.col < b.col) := by simp [ltF, h, h']
theorem ltF_msg {a b : Fau} (h : a.line = b.line) (h' : a.col = b.col) : ltF a b = ltStr a.msg.data.toList b.msg.data.toList := by simp [ltF, h, h']

theorem ltF_iff {a b : Fau} : ltF a b = true ↔ a.line < b.line ∨ (a.line = b.line ∧ (a.col < b.col ∨ (a.col = b.col ∧ ltStr a.msg.data.toList b.msg.data.toList = true))) := by
  unfold ltF
  by_cases h : a.line = b.line
  · by_cases h' : a.col = b.col
    · simp [h, h']
    · simp [h, h']
  · simp [h]

theorem ltF_false_iff {a b : Fau} : ltF a b = false ↔ b.line < a.line ∨ (a.line = b.line ∧ (b.col < a.col ∨ (a.col = b.col ∧ ltStr a.msg.data.toList b.msg.data.toList = false))) := by
  unfold ltF
  by_cases h : a.line = b.line
  · by_cases h' : a.col = b.col
    · simp [h, h']
    · simp [h, h']; omega
  · simp [h]; omega

theorem swo_ltF : SWO ltF where
  irrefl x := by rw [ltF_msg rfl rfl]; exact swo_ltStr.irrefl _
  trans x y z h1 h2 := by
    rw [ltF_iff] at *
    rcases h1 with h1 | ⟨e1, h1⟩
    · rcases h2 with h2 | ⟨e2, _⟩
      · exact .inl (by omega)
      · exact .inl (by omega)
    · rcases h2 with h2 | ⟨e2, h2⟩
      · exact .inl (by omega)
      · refine .inr ⟨by omega, ?_⟩
        rcases h1 with h1 | ⟨c1, h1⟩
        · rcases h2 with h2 | ⟨c2, _⟩
          · exact .inl (by omega)
          · exact .inl (by omega)
        · rcases h2 with h2 | ⟨c2, h2⟩
          · exact .inl (by omega)
          · exact .inr ⟨by omega, swo_ltStr.trans _ _ _ h1 h2⟩
  ntrans x y z h1 h2 := by
    rw [ltF_false_iff] at *
    rcases h1 with h1 | ⟨e1, h1⟩
    · rcases h2 with h2 | ⟨e2, _⟩
      · exact .inl (by omega)
      · exact .inl (by omega)
    · rcases h2 with h2 | ⟨e2, h2⟩
      · exact .inl (by omega)
      · refine .inr ⟨by omega, ?_⟩
        rcases h1 with h1 | ⟨c1, h1⟩
        · rcases h2 with h2 | ⟨c2, _⟩
          · exact .inl (by omega)
          · exact .inl (by omega)
        · rcases h2 with h2 | ⟨c2, h2⟩
          · exact .inl (by omega)
          · exact .inr ⟨by omega, swo_ltStr.ntrans _ _ _ h1 h2⟩

theorem ltF_anti (x y : Fau) (h1 : ltF x y = false) (h2 : ltF y x = false) : x = y := by
  rw [ltF_false_iff] at h1 h2
  rcases h1 with h1 | ⟨e1, h1⟩
  · rcases h2 with h2 | ⟨e2, _⟩ <;> omega
  · rcases h2 with h2 | ⟨_, h2⟩
    · omega
    · rcases h1 with h1 | ⟨c1, h1⟩
      · rcases h2 with h2 | ⟨c2, _⟩ <;> omega
      · rcases h2 with h2 | ⟨_, h2⟩
        · omega
        · refine Fau.eq_of e1 c1 ?_
          simp only [ltStr, decide_eq_false_iff_not, List.not_lt] at h1 h2
          exact List.le_antisymm h2 h1

/-- Ascending: no later fault stands ahead of an earlier one. -/
def Asc (l : List Fau) : Prop := l.Pairwise fun x y => ltF y x = false

/-- The sorted list. -/
def srt (l : List Fau) : List Fau := l.mergeSort fun x y => !ltF y x

theorem srt_perm (l : List Fau) : (srt l).Perm l := List.mergeSort_perm _ _

theorem srt_asc (l : List Fau) : Asc (srt l) := by
  have h : (srt l).Pairwise fun x y => (!ltF y x) = true := by
    refine List.pairwise_mergeSort ?_ ?_ _
    · intro a b c h1 h2
      simp only [Bool.not_eq_true'] at h1 h2 ⊢
      exact swo_ltF.ntrans c b a h2 h1
    · intro a b
      cases h : ltF b a with
      | false => simp
      | true =>
        have : ltF a b = false := by
          cases h' : ltF a b with
          | false => rfl
          | true => have := swo_ltF.trans _ _ _ h h'; rw [swo_ltF.irrefl] at this; cases this
        simp [this]
  exact h.imp fun h => by simpa using h

/-- There is one ascending list of the same faults. -/
theorem asc_unique {l l' : List Fau} (h : Asc l) (h' : Asc l') (hp : l.Perm l') : l = l' :=
  List.Perm.eq_of_pairwise (le := fun x y => ltF y x = false) (fun a b _ _ h1 h2 => ltF_anti a b h2 h1) h h' hp

theorem srt_of_asc {l : List Fau} (h : Asc l) : srt l = l := asc_unique (srt_asc l) h (srt_perm l)
theorem srt_eq {l l' : List Fau} (h : Asc l') (hp : l'.Perm l) : srt l = l' := asc_unique (srt_asc l) h ((srt_perm l).trans hp.symm)
theorem srt_srt (l : List Fau) : srt (srt l) = srt l := srt_of_asc (srt_asc l)
theorem srt_of_perm {l l' : List Fau} (hp : l.Perm l') : srt l = srt l' := asc_unique (srt_asc l) (srt_asc l') (((srt_perm l).trans hp).trans (srt_perm l').symm)
theorem srt_reverse (l : List Fau) : srt l.reverse = srt l := srt_of_perm l.reverse_perm
theorem srt_length (l : List Fau) : (srt l).length = l.length := (srt_perm l).length_eq
theorem srt_mem {l : List Fau} {f : Fau} : f ∈ srt l ↔ f ∈ l := (srt_perm l).mem_iff

/-- What a sort of the places leaves is the sorted list of what stands at them. -/
theorem srt_of_places (F : Nat → Fau) (n : Nat) (d' : Array Nat) (hp : PermIn 0 n (Array.range n) d') (hs : SortedIn (fun i j => ltF (F i) (F j)) 0 n d') :
    d'.toList.map F = srt ((List.range n).map F) := by
  obtain ⟨hsz, _, hperm⟩ := hp
  have hn : d'.size = n := by simpa using hsz
  have e0 : (Array.range n).extract 0 n = Array.range n := by
    have := Array.extract_size (xs := Array.range n)
    rwa [Array.size_range] at this
  have e1 : d'.extract 0 n = d' := by rw [← hn]; exact Array.extract_size
  rw [e0, e1, Array.toList_range] at hperm
  refine (srt_eq ?_ (hperm.map F)).symm
  unfold Asc
  rw [List.pairwise_iff_getElem]
  intro i j hi hj hij
  have hi' : i < d'.size := by simpa using hi
  have hj' : j < d'.size := by simpa using hj
  have := hs i j (Nat.zero_le _) hij (by omega)
  rw [getElem!_pos d' j hj', getElem!_pos d' i hi'] at this
  simpa using this

/-- Of each run of faults of one line the first one; c: the line of the last one that was kept. -/
def sng : Int → List Fau → List Fau
  | _, [] => []
  | c, f :: r => if f.line = c then sng c r else f :: sng f.line r

theorem sng_sublist : ∀ (l : List Fau) (c : Int), (sng c l).Sublist l
  | [], _ => by simp [sng]
  | f :: r, c => by
    unfold sng
    split
    · exact (sng_sublist r c).trans (List.sublist_cons_self f r)
    · exact (sng_sublist r f.line).cons_cons f

theorem sng_asc {l : List Fau} (h : Asc l) (c : Int) : Asc (sng c l) := h.sublist (sng_sublist l c)

theorem sng_sng : ∀ (l : List Fau) (c : Int), sng c (sng c l) = sng c l
  | [], _ => by simp [sng]
  | f :: r, c => by
    by_cases h : f.line = c
    · rw [show sng c (f :: r) = sng c r by simp [sng, h]]; exact sng_sng r c
    · rw [show sng c (f :: r) = f :: sng f.line r by simp [sng, h]]
      rw [show sng c (f :: sng f.line r) = f :: sng f.line (sng f.line r) by simp [sng, h], sng_sng r f.line]

/-- All faults have a line and a column. -/
def Placed (l : List Fau) : Prop := ∀ f ∈ l, 1 ≤ f.line ∧ 1 ≤ f.col

/-- What is left of a list: the first fault of each line of the sorted list. -/
def sgl (l : List Fau) : List Fau := sng 0 (srt l)

theorem sgl_srt (l : List Fau) : sgl (srt l) = sgl l := by unfold sgl; rw [srt_srt]
theorem srt_sgl (l : List Fau) : srt (sgl l) = sgl l := srt_of_asc (sng_asc (srt_asc l) 0)
theorem sgl_sgl (l : List Fau) : sgl (sgl l) = sgl l := by
  unfold sgl
  rw [srt_of_asc (sng_asc (srt_asc l) 0), sng_sng]
theorem sgl_length (l : List Fau) : (sgl l).length ≤ l.length := by
  have := (sng_sublist (srt l) 0).length_le
  rw [srt_length] at this
  exact this
theorem sgl_mem {l : List Fau} {f : Fau} (h : f ∈ sgl l) : f ∈ l := srt_mem.1 ((sng_sublist _ _).subset h)
theorem sgl_placed {l : List Fau} (h : Placed l) : Placed (sgl l) := fun f hf => h f (sgl_mem hf)
theorem srt_placed {l : List Fau} (h : Placed l) : Placed (srt l) := fun f hf => h f (srt_mem.1 hf)
theorem reverse_placed {l : List Fau} (h : Placed l) : Placed l.reverse := fun f hf => h f (List.mem_reverse.1 hf)

theorem asc_line {f g : Fau} (h : ltF g f = false) : f.line ≤ g.line := by
  rw [ltF_false_iff] at h
  omega

/-- In an ascending list whose lines are c or greater, each line other than c is left. -/
theorem sng_line : ∀ (l : List Fau) (c : Int), ∀ f ∈ l, f.line = c ∨ ∃ g ∈ sng c l, g.line = f.line
  | [], _, f, hf => by cases hf
  | a :: r, c, f, hf => by
    by_cases h : a.line = c
    · rw [show sng c (a :: r) = sng c r by simp [sng, h]]
      rcases List.mem_cons.1 hf with rfl | hf
      · exact .inl h
      · exact sng_line r c f hf
    · rw [show sng c (a :: r) = a :: sng a.line r by simp [sng, h]]
      rcases List.mem_cons.1 hf with rfl | hf
      · exact .inr ⟨f, by simp, rfl⟩
      · rcases sng_line r a.line f hf with h' | ⟨g, hg, he⟩
        · exact .inr ⟨a, by simp, h'.symm⟩
        · exact .inr ⟨g, by simp [hg], he⟩

theorem sgl_line {l : List Fau} (h : Placed l) (f : Fau) (hf : f ∈ l) : ∃ g ∈ sgl l, g.line = f.line := by
  rcases sng_line (srt l) 0 f (srt_mem.2 hf) with h' | h'
  · have := h f hf; omega
  · exact h'

theorem sgl_nil {l : List Fau} (h : Placed l) (hl : l ≠ []) : sgl l ≠ [] := by
  cases l with
  | nil => exact absurd rfl hl
  | cons a r =>
    obtain ⟨g, hg, _⟩ := sgl_line h a (by simp)
    intro e; rw [e] at hg; cases hg

theorem sgl_pos {l : List Fau} (h : Placed l) : decide (0 < (sgl l).length) = decide (0 < l.length) := by
  cases l with
  | nil => simp [sgl, srt, sng]
  | cons a r =>
    have h1 := List.length_pos_iff.2 (sgl_nil h (by simp))
    simp [h1]

/-- In what is left the lines go up. -/
theorem sng_up : ∀ (l : List Fau) (c : Int), Asc l → (∀ f ∈ l, c ≤ f.line) → (∀ f ∈ sng c l, c < f.line) ∧ (sng c l).Pairwise fun x y => x.line < y.line
  | [], _, _, _ => by simp [sng]
  | a :: r, c, ha, hc => by
    have ha' := List.pairwise_cons.1 ha
    by_cases h : a.line = c
    · rw [show sng c (a :: r) = sng c r by simp [sng, h]]
      exact sng_up r c ha'.2 (fun f hf => hc f (by simp [hf]))
    · rw [show sng c (a :: r) = a :: sng a.line r by simp [sng, h]]
      have hlt : c < a.line := by have := hc a (by simp); omega
      obtain ⟨i1, i2⟩ := sng_up r a.line ha'.2 (fun f hf => asc_line (ha'.1 f hf))
      refine ⟨fun f hf => ?_, List.pairwise_cons.2 ⟨i1, i2⟩⟩
      rcases List.mem_cons.1 hf with rfl | hf
      · exact hlt
      · have := i1 f hf; omega

theorem sgl_up {l : List Fau} (h : Placed l) : (sgl l).Pairwise fun x y => x.line < y.line :=
  (sng_up (srt l) 0 (srt_asc l) (fun f hf => by have := srt_placed h f hf; omega)).2

/-- What is left of a line is its first fault. -/
theorem sng_first : ∀ (l : List Fau) (c : Int), Asc l → (∀ f ∈ l, c ≤ f.line) → ∀ g ∈ sng c l, ∀ f ∈ l, f.line = g.line → g.col ≤ f.col
  | [], _, _, _, g, hg, _, _, _ => by simp [sng] at hg
  | a :: r, c, ha, hc, g, hg, f, hf, he => by
    have ha' := List.pairwise_cons.1 ha
    by_cases h : a.line = c
    · rw [show sng c (a :: r) = sng c r by simp [sng, h]] at hg
      have hc' : ∀ f ∈ r, c ≤ f.line := fun f hf => hc f (by simp [hf])
      have hgc := (sng_up r c ha'.2 hc').1 g hg
      rcases List.mem_cons.1 hf with rfl | hf
      · omega
      · exact sng_first r c ha'.2 hc' g hg f hf he
    · rw [show sng c (a :: r) = a :: sng a.line r by simp [sng, h]] at hg
      have hc' : ∀ f ∈ r, a.line ≤ f.line := fun f hf => asc_line (ha'.1 f hf)
      rcases List.mem_cons.1 hg with rfl | hg
      · rcases List.mem_cons.1 hf with rfl | hf
        · omega
        · have := ha'.1 f hf
          rw [ltF_false_iff] at this
          omega
      · have hgc := (sng_up r a.line ha'.2 hc').1 g hg
        rcases List.mem_cons.1 hf with rfl | hf
        · omega
        · exact sng_first r a.line ha'.2 hc' g hg f hf he

theorem sgl_first {l : List Fau} (h : Placed l) {f g : Fau} (hg : g ∈ sgl l) (hf : f ∈ l) (he : f.line = g.line) : g.col ≤ f.col :=
  sng_first (srt l) 0 (srt_asc l) (fun f hf => by have := srt_placed h f hf; omega) g hg f (srt_mem.2 hf) he

/-- Stepping through a list of which the first k have been looked at. -/
theorem sng_cons_same {f : Fau} {r : List Fau} {c : Int} (h : f.line = c) : sng c (f :: r) = sng c r := by simp [sng, h]
theorem sng_cons_new {f : Fau} {r : List Fau} {c : Int} (h : f.line ≠ c) : sng c (f :: r) = f :: sng f.line r := by simp [sng, h]

/-- No fault of an ascending list stands ahead of the one before it. -/
def before (a b : Fau) : Bool := if a.line < b.line then true else if a.line = b.line then decide (a.col < b.col) else false

theorem asc_before {l : List Fau} (h : Asc l) {i : Nat} (hi : i + 1 < l.length) : before l[i + 1] l[i] = false := by
  have := (List.pairwise_iff_getElem.1 h) i (i + 1) (by omega) hi (by omega)
  rw [ltF_false_iff] at this
  unfold before
  rw [if_neg (by omega)]
  split
  · simp; omega
  · rfl

#print axioms sgl_first
#print axioms srt_of_places
end Go.Proofs.Ytdifjpcfmmipoaa
