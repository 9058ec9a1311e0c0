import Derived.WalkKit
import Derived.Maps.OwnSet
namespace Go.Proofs.Qxb6000555a
open Go.RowKit

/-! ### plain lists: the entries (who, year) in the order added -/

def lastRev (nm : ByteArray) : List (ByteArray × Int) → Int
  | [] => -1
  | e :: r => if e.1 = nm then (r.length : Int) else lastRev nm r

/-- the place of the last entry that grades nm, or -1 -/
def lastOf (nm : ByteArray) (es : List (ByteArray × Int)) : Int := lastRev nm es.reverse

def cntRev (nm : ByteArray) : List (ByteArray × Int) → Nat
  | [] => 0
  | e :: r => if e.1 = nm then cntRev nm r + 1 else cntRev nm r

/-- how many entries grade nm -/
def cnt (nm : ByteArray) (es : List (ByteArray × Int)) : Nat := cntRev nm es.reverse

theorem lastOf_nil (nm : ByteArray) : lastOf nm [] = -1 := rfl
theorem cnt_nil (nm : ByteArray) : cnt nm [] = 0 := rfl

theorem lastOf_snoc (nm : ByteArray) (es : List (ByteArray × Int)) (e : ByteArray × Int) : lastOf nm (es ++ [e]) = if e.1 = nm then (es.length : Int) else lastOf nm es := by
  simp [lastOf, lastRev]

theorem cnt_snoc (nm : ByteArray) (es : List (ByteArray × Int)) (e : ByteArray × Int) : cnt nm (es ++ [e]) = if e.1 = nm then cnt nm es + 1 else cnt nm es := by
  simp [cnt, cntRev]

theorem snoc_ind {α : Type} {P : List α → Prop} (h0 : P []) (h1 : ∀ l a, P l → P (l ++ [a])) (l : List α) : P l := by
  have h : ∀ r : List α, P r.reverse := by
    intro r
    induction r with
    | nil => exact h0
    | cons a r ih => rw [List.reverse_cons]; exact h1 _ _ ih
  have := h l.reverse
  rwa [List.reverse_reverse] at this

theorem lastOf_bounds (nm : ByteArray) (es : List (ByteArray × Int)) : -1 ≤ lastOf nm es ∧ lastOf nm es < es.length := by
  induction es using snoc_ind with
  | h0 => simp [lastOf_nil]
  | h1 l a ih =>
    rw [lastOf_snoc]
    simp only [List.length_append, List.length_cons, List.length_nil]
    split <;> omega

theorem cnt_le (nm : ByteArray) (es : List (ByteArray × Int)) : cnt nm es ≤ es.length := by
  induction es using snoc_ind with
  | h0 => simp [cnt_nil]
  | h1 l a ih =>
    rw [cnt_snoc]
    simp only [List.length_append, List.length_cons, List.length_nil]
    split <;> omega

/-- the entry at 'lastOf' grades nm -/
theorem lastOf_at (nm : ByteArray) (es : List (ByteArray × Int)) (i : Nat) (h : lastOf nm es = (i : Int)) : ∃ y, es[i]? = some (nm, y) := by
  induction es using snoc_ind with
  | h0 => rw [lastOf_nil] at h; omega
  | h1 l a ih =>
    rw [lastOf_snoc] at h
    split at h
    · rename_i hn
      have : i = l.length := by omega
      subst this
      exact ⟨a.2, by simp [← hn]⟩
    · have hb := lastOf_bounds nm l
      obtain ⟨y, hy⟩ := ih h
      exact ⟨y, by rw [List.getElem?_append_left (by omega)]; exact hy⟩

/-- behind 'lastOf' no entry grades nm -/
theorem lastOf_after (nm : ByteArray) (es : List (ByteArray × Int)) (j : Nat) (e : ByteArray × Int) (hj : es[j]? = some e) (h : lastOf nm es < (j : Int)) : e.1 ≠ nm := by
  induction es using snoc_ind with
  | h0 => simp at hj
  | h1 l a ih =>
    rw [lastOf_snoc] at h
    have hlt : j < l.length + 1 := by
      have := (List.getElem?_eq_some_iff.1 hj).1
      simpa using this
    split at h
    · omega
    · rename_i hn
      by_cases hjl : j < l.length
      · rw [List.getElem?_append_left hjl] at hj
        exact ih hj h
      · have : j = l.length := by omega
        subst this
        simp at hj
        rw [← hj]; exact hn

/-- 'lastOf' is where the last one stands -/
theorem lastOf_unique (nm : ByteArray) (es : List (ByteArray × Int)) (i : Nat) (y : Int) (hi : es[i]? = some (nm, y)) (hafter : ∀ (j : Nat) (e : ByteArray × Int), i < j → es[j]? = some e → e.1 ≠ nm) : lastOf nm es = (i : Int) := by
  have hb := lastOf_bounds nm es
  have h1 : ¬ lastOf nm es < (i : Int) := fun h => lastOf_after nm es i _ hi h rfl
  have hpos : 0 ≤ lastOf nm es := by omega
  obtain ⟨k, hk⟩ : ∃ k : Nat, lastOf nm es = (k : Int) := ⟨(lastOf nm es).toNat, by omega⟩
  by_cases hki : k = i
  · rw [hk, hki]
  · obtain ⟨y', hy'⟩ := lastOf_at nm es k hk
    exact absurd rfl (hafter k _ (by omega) hy')

theorem lastOf_none (nm : ByteArray) (es : List (ByteArray × Int)) (h : ∀ (j : Nat) (e : ByteArray × Int), es[j]? = some e → e.1 ≠ nm) : lastOf nm es = -1 := by
  have hb := lastOf_bounds nm es
  by_cases hp : 0 ≤ lastOf nm es
  · obtain ⟨y', hy'⟩ := lastOf_at nm es (lastOf nm es).toNat (by omega)
    exact absurd rfl (h _ _ hy')
  · omega

/-! ### rows of cells -/

theorem flat_at {α β : Type} (f : α → List β) (m : Nat) (hf : ∀ a, (f a).length = m) (l : List α) (i j : Nat) (hj : j < m) : (l.flatMap f)[i * m + j]? = (l[i]?).bind (fun a => (f a)[j]?) := by
  induction l generalizing i with
  | nil => simp
  | cons a l ih =>
    rw [List.flatMap_cons]
    cases i with
    | zero =>
      rw [Nat.zero_mul, Nat.zero_add, List.getElem?_append_left (by rw [hf]; exact hj)]
      simp
    | succ i =>
      rw [List.getElem?_append_right (by rw [hf, Nat.succ_mul]; omega), hf]
      have : (i + 1) * m + j - m = i * m + j := by rw [Nat.succ_mul]; omega
      rw [this, ih]
      simp

theorem flat_length {α β : Type} (f : α → List β) (m : Nat) (hf : ∀ a, (f a).length = m) (l : List α) : (l.flatMap f).length = l.length * m := by
  induction l with
  | nil => simp
  | cons a l ih => rw [List.flatMap_cons, List.length_append, ih, hf, List.length_cons, Nat.succ_mul]; omega

/-- a chain's three cells -/
def chCell (es : List (ByteArray × Int)) (nm : ByteArray) : List Value := [.string nm, .int .i64 (lastOf nm es), .int .i64 (cnt nm es)]
def chCells (names : List ByteArray) (es : List (ByteArray × Int)) : List Value := names.flatMap (chCell es)

/-- the rows: row i: year, grade 0, line i, the place of the one before -/
def rowCell (year : Int) (line : Nat) (prev : Int) : List Value := [.int .i64 year, .int .i64 0, .int .i64 line, .int .i64 prev]
def rowsRev : List (ByteArray × Int) → List (Int × Nat × Int)
  | [] => []
  | e :: r => (e.2, r.length, lastRev e.1 r) :: rowsRev r
def rowsOf (es : List (ByteArray × Int)) : List (Int × Nat × Int) := (rowsRev es.reverse).reverse
def rowCells (es : List (ByteArray × Int)) : List Value := (rowsOf es).flatMap fun r => rowCell r.1 r.2.1 r.2.2

theorem rowsOf_nil : rowsOf [] = [] := rfl
theorem rowsOf_snoc (es : List (ByteArray × Int)) (e : ByteArray × Int) : rowsOf (es ++ [e]) = rowsOf es ++ [(e.2, es.length, lastOf e.1 es)] := by
  simp [rowsOf, rowsRev, lastOf]
theorem rowsOf_length (es : List (ByteArray × Int)) : (rowsOf es).length = es.length := by
  induction es using snoc_ind with
  | h0 => rfl
  | h1 l a ih => rw [rowsOf_snoc]; simp [ih]

/-- what stands at place i -/
theorem rowsOf_at (es : List (ByteArray × Int)) (i : Nat) (who : ByteArray) (y : Int) (h : es[i]? = some (who, y)) : (rowsOf es)[i]? = some (y, i, lastOf who (es.take i)) := by
  induction es using snoc_ind with
  | h0 => simp at h
  | h1 l a ih =>
    rw [rowsOf_snoc]
    have hlt : i < l.length + 1 := by
      have := (List.getElem?_eq_some_iff.1 h).1
      simpa using this
    by_cases hil : i < l.length
    · rw [List.getElem?_append_left hil] at h
      rw [List.getElem?_append_left (by rw [rowsOf_length]; exact hil), ih h, List.take_append_of_le_length (by omega)]
    · have : i = l.length := by omega
      subst this
      simp at h
      subst h
      rw [List.getElem?_append_right (by rw [rowsOf_length]; omega), rowsOf_length]
      simp

theorem rowCells_snoc (es : List (ByteArray × Int)) (e : ByteArray × Int) : rowCells (es ++ [e]) = rowCells es ++ rowCell e.2 es.length (lastOf e.1 es) := by
  simp [rowCells, rowsOf_snoc]
theorem rowCells_length (es : List (ByteArray × Int)) : (rowCells es).length = es.length * 4 := by
  rw [rowCells, flat_length _ 4 (fun _ => rfl), rowsOf_length]
theorem chCells_length (names : List ByteArray) (es : List (ByteArray × Int)) : (chCells names es).length = names.length * 3 := by
  rw [chCells, flat_length _ 3 (fun _ => rfl)]
theorem chCells_snoc (names : List ByteArray) (es : List (ByteArray × Int)) (nm : ByteArray) : chCells (names ++ [nm]) es = chCells names es ++ chCell es nm := by
  simp [chCells]
theorem chCells_at (names : List ByteArray) (es : List (ByteArray × Int)) (i : Nat) (nm : ByteArray) (h : names[i]? = some nm) :
    (chCells names es)[i * 3]? = some (.string nm) ∧ (chCells names es)[i * 3 + 1]? = some (.int .i64 (lastOf nm es)) ∧ (chCells names es)[i * 3 + 2]? = some (.int .i64 (cnt nm es)) := by
  have h0 := flat_at (chCell es) 3 (fun _ => rfl) names i 0 (by omega)
  have h1 := flat_at (chCell es) 3 (fun _ => rfl) names i 1 (by omega)
  have h2 := flat_at (chCell es) 3 (fun _ => rfl) names i 2 (by omega)
  rw [h] at h0 h1 h2
  exact ⟨h0, h1, h2⟩
theorem rowCells_at (es : List (ByteArray × Int)) (i : Nat) (who : ByteArray) (y : Int) (h : es[i]? = some (who, y)) :
    (rowCells es)[i * 4]? = some (.int .i64 y) ∧ (rowCells es)[i * 4 + 2]? = some (.int .i64 i) ∧ (rowCells es)[i * 4 + 3]? = some (.int .i64 (lastOf who (es.take i))) := by
  have h0 := flat_at (fun r : Int × Nat × Int => rowCell r.1 r.2.1 r.2.2) 4 (fun _ => rfl) (rowsOf es) i 0 (by omega)
  have h2 := flat_at (fun r : Int × Nat × Int => rowCell r.1 r.2.1 r.2.2) 4 (fun _ => rfl) (rowsOf es) i 2 (by omega)
  have h3 := flat_at (fun r : Int × Nat × Int => rowCell r.1 r.2.1 r.2.2) 4 (fun _ => rfl) (rowsOf es) i 3 (by omega)
  rw [rowsOf_at es i who y h] at h0 h2 h3
  exact ⟨h0, h2, h3⟩

/-- an entry that grades nm changes nm's chain alone -/
theorem chCells_set (names : List ByteArray) (es : List (ByteArray × Int)) (i : Nat) (nm : ByteArray) (y : Int) (hnd : names.Nodup) (h : names[i]? = some nm) :
    chCells names (es ++ [(nm, y)]) = ((chCells names es).set (i * 3 + 1) (.int .i64 es.length)).set (i * 3 + 2) (.int .i64 (cnt nm es + 1 : Nat)) := by
  induction names generalizing i with
  | nil => simp at h
  | cons a l ih =>
    have hnd' := List.nodup_cons.1 hnd
    cases i with
    | zero =>
      simp at h
      subst h
      have hl : chCells l (es ++ [(a, y)]) = chCells l es := by
        unfold chCells
        rw [List.flatMap_def, List.flatMap_def]
        congr 1
        apply List.map_congr_left
        intro b hb
        have : ¬ a = b := fun e => hnd'.1 (e ▸ hb)
        simp [chCell, lastOf_snoc, cnt_snoc, this]
      show chCell (es ++ [(a, y)]) a ++ chCells l (es ++ [(a, y)]) = _
      rw [hl]
      show _ = ((chCell es a ++ chCells l es).set 1 _).set 2 _
      simp [chCell, lastOf_snoc, cnt_snoc]
    | succ i =>
      simp at h
      have hne : ¬ nm = a := fun e => hnd'.1 (e ▸ List.mem_of_getElem? h)
      show chCell (es ++ [(nm, y)]) a ++ chCells l (es ++ [(nm, y)]) = ((chCell es a ++ chCells l es).set _ _).set _ _
      rw [ih i hnd'.2 h]
      have e1 : (i + 1) * 3 + 1 = (i * 3 + 1) + 3 := by omega
      have e2 : (i + 1) * 3 + 2 = (i * 3 + 2) + 3 := by omega
      rw [e1, e2]
      simp [chCell, lastOf_snoc, cnt_snoc, hne]

end Go.Proofs.Qxb6000555a
