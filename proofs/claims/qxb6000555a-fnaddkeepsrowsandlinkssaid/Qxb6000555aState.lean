import Derived.Test.Qxb6000555aRows
import Derived.Test.Qxb6000555aPlain
import Derived.WalkKit
import Derived.ProofKit
import Derived.Maps.OwnSet
namespace Go.Proofs.Qxb6000555a
open Go.RowKit Go.Maps

/-! ### closed facts of the dump -/
theorem info49 : (Try.prog.info? 49).map (fun i => (i.zero, i.size, i.bytes)) = some (some (.agg #[.string ⟨#[]⟩, .int .i64 0, .int .i64 0]), 3, 32) := by kernel_rfl
theorem info52 : (Try.prog.info? 52).map (fun i => (i.zero, i.size, i.bytes)) = some (some (.agg #[.int .i64 0, .int .i64 0, .int .i64 0, .int .i64 0]), 4, 32) := by kernel_rfl
theorem info3 : (Try.prog.info? 3).map (fun i => (i.zero, i.size, i.bytes)) = some (some (.int .i64 0), 1, 8) := by kernel_rfl
theorem info9 : (Try.prog.info? 9).map (fun i => (i.zero, i.size, i.bytes)) = some (some (.string ⟨#[]⟩), 1, 16) := by kernel_rfl
theorem zero3 (w : World) : (zeroValue 3).run Try.prog w = .ok (.int .i64 0) w := by kernel_rfl
theorem laidOut : laidOutB Try.prog = true := by kernel_rfl
theorem law9 : Keyed Try.prog 9 := string_keyed Try.underlying9
theorem row58 : (58 : TypeId) < Try.prog.types.size := of_decide_eq_true (by kernel_rfl)
theorem wide58 : (match Try.prog.underlying 58 with | some (.array _ _) | some (.struct _) => true | _ => false) = true := by kernel_rfl
theorem law58 : Keyed Try.prog 58 := Keyed.of_law (deep_law_laid laidOut (m := 3) (by omega) row58 (by kernel_rfl) wide58)

theorem types_size : Try.prog.types.size = 76 := by kernel_rfl
theorem keyType58 : Try.prog.keyType 58 = true := by kernel_rfl
theorem cells58 : Try.prog.cellsOf 58 = 2 := by kernel_rfl
theorem cellsOf9 : Try.prog.cellsOf 9 = 1 := by kernel_rfl
theorem cellsOf3 : Try.prog.cellsOf 3 = 1 := by kernel_rfl

/-- a gradedYear is a key -/
theorem key58 (who : ByteArray) (y : Int) (hs : who.size ≤ maxLen) (hy : (Lit.int .i64 y).wf = true) : ∃ kl, keyOf Try.prog 58 (.agg #[.string who, .int .i64 y]) = some kl := by
  have hf : (Value.agg #[.string who, .int .i64 y]).formed Try.prog 58 = true := by simp [Value.formed, Try.underlying58, cells58]
  have hd : ∀ d, Try.prog.keyLits (d + 2) 58 [.string who, .int .i64 y] = some [.string who.data.toList, .int .i64 y] := by
    intro d
    simp [Program.keyLits, Try.underlying58, Try.underlying9, Try.underlying3, cells58, cellsOf9, cellsOf3, hs, hy]
  have hl := hd 75
  generalize [Lit.string who.data.toList, Lit.int .i64 y] = ls at hl
  refine ⟨.string (keyBytes ls), ?_⟩
  unfold keyOf
  rw [Try.underlying58]
  simp only [keyType58, hf, types_size, Value.cells]
  simp [hl]

/-! ### what the two maps read as -/
structure IdxIs (D : DataW Unit) (names : List ByteArray) : Prop where
  isMap : IsMap D
  has : ∀ s : ByteArray, Maps.has D (.string s.data.toList) = true ↔ s ∈ names
  val : ∀ (s : ByteArray) (i : Nat), names[i]? = some s → D.atKey (.string s.data.toList) (.lit (.int .i64 0)) = .lit (.int .i64 i)

structure YrsIs (D : DataW Unit) (es : List (ByteArray × Int)) : Prop where
  isMap : IsMap D
  val : ∀ (who : ByteArray) (y : Int) (kl : Lit), keyOf Try.prog 58 (.agg #[.string who, .int .i64 y]) = some kl → Maps.has D kl = true →
    ∃ i : Nat, D.atKey kl (.lit (.int .i64 0)) = .lit (.int .i64 i) ∧ es[i]? = some (who, y)
  has : ∀ (who : ByteArray) (y : Int) (kl : Lit), keyOf Try.prog 58 (.agg #[.string who, .int .i64 y]) = some kl → 32 < cnt who es → (who, y) ∈ es → Maps.has D kl = true

theorem bytes_inj {s t : ByteArray} (h : s.data.toList = t.data.toList) : s = t := by
  cases s; cases t
  simp only [ByteArray.mk.injEq]
  exact Array.toList_inj.1 h

theorem IdxIs.start : IdxIs (.map []) [] := ⟨isMap_empty, fun s => by simp [Maps.has], fun s i h => by simp at h⟩
theorem YrsIs.start : YrsIs (.map []) [] := ⟨isMap_empty, fun _ _ _ _ h => by simp [Maps.has] at h, fun _ _ _ _ _ h => by simp at h⟩

theorem IdxIs.snoc {D : DataW Unit} {names : List ByteArray} (h : IdxIs D names) {who : ByteArray} (hn : who ∉ names) :
    IdxIs (D.put (.string who.data.toList) (.lit (.int .i64 names.length))) (names ++ [who]) := by
  have hk : WideAt.IsKeyLit (.string who.data.toList) := trivial
  refine ⟨h.isMap.put _ _, fun s => ?_, fun s i hi => ?_⟩
  · by_cases e : s = who
    · subst e
      simp [has_put_same h.isMap hk]
    · rw [has_put_other (fun q => e (bytes_inj (by simpa using q))), h.has]
      simp [e]
  · by_cases hil : i < names.length
    · rw [List.getElem?_append_left hil] at hi
      have e : s ≠ who := fun e => hn (e ▸ List.mem_of_getElem? hi)
      rw [atKey_put_other (fun q => e (bytes_inj (by simpa using q)))]
      exact h.val s i hi
    · have hlt : i < names.length + 1 := by
        have := (List.getElem?_eq_some_iff.1 hi).1
        simpa using this
      have : i = names.length := by omega
      subst this
      simp at hi
      subst hi
      exact atKey_put_same h.isMap hk _ _

/-! ### the store of the grades -/
structure GAt (w : World) (N : Nat) (names : List ByteArray) (es : List (ByteArray × Int)) (vc vr : Value) (D1 D2 : DataW Unit) : Prop where
  blk : w.heap[N + 3]? = some (.cells #[.map (some N), vc, vr, .slice none 0 0, .map (some (N + 1)), .map (some (N + 2))] 46 (0, 0))
  chains : w.ownsRow (N + 4) 49 3 vc names.length (chCells names es)
  rows : w.ownsRow (N + 4) 52 4 vr es.length (rowCells es)
  idx : w.ownsMap Try.prog 9 (plainElem Try.prog 3) N names.length D1
  yrs : w.ownsMap Try.prog 58 (plainElem Try.prog 3) (N + 2) (es.length * es.length) D2
  idxIs : IdxIs D1 names
  yrsIs : YrsIs D2 es
  nodup : names.Nodup
  small : ∀ nm ∈ names, nm.size ≤ maxLen
  wf : ∀ e ∈ es, (Lit.int .i64 e.2).wf = true

def IsG (w : World) (N : Nat) (names : List ByteArray) (es : List (ByteArray × Int)) : Prop := ∃ vc vr D1 D2, GAt w N names es vc vr D1 D2

/-- What a call of a method leaves: below N all is as it was; every block of ints is as it was. -/
structure Keep (N : Nat) (w w' : World) : Prop where
  below : Below N w w'
  ints : ∀ (b : Nat) (cs : Array Value), w.heap[b]? = some (.cells cs 3 (0, 0)) → w'.heap[b]? = some (.cells cs 3 (0, 0))

theorem Keep.refl (N : Nat) (w : World) : Keep N w w := ⟨Below.refl _ _, fun _ _ h => h⟩
theorem Keep.trans {N : Nat} {a b c : World} (h : Keep N a b) (k : Keep N b c) : Keep N a c := ⟨h.below.trans k.below, fun i cs hi => k.ints i cs (h.ints i cs hi)⟩
theorem Keep.grown {N : Nat} {a w w' : World} {row : Option Nat} (h : Keep N a w) (hg : w.grownBy w' row) (hN : N ≤ w.heap.size) (hr : ∀ k, row = some k → N ≤ k ∧ ∀ cs, w.heap[k]? ≠ some (.cells cs 3 (0, 0))) : Keep N a w' := by
  refine ⟨h.below.grown hg hN (fun k hk => (hr k hk).1), fun b cs hb => ?_⟩
  have hb' := h.ints b cs hb
  rw [hg.block b (lt_of_block hb') (fun e => (hr b e.symm).2 cs hb')]
  exact hb'
theorem Keep.alloc {N : Nat} {a w : World} (h : Keep N a w) (hN : N ≤ w.heap.size) (o : Obj) : Keep N a (w.alloc o) :=
  h.grown (World.grownBy_alloc w o none) hN (fun k hk => by cases hk)
theorem grownBy_setCell (w : World) (p : Addr) (u : Value) : w.grownBy (w.setCell p u) (some p.block) :=
  ⟨rfl, rfl, rfl, by simp [World.setCell], fun k _ hk => Below.heap_setCell _ _ _ _ (fun e => hk (by rw [e]))⟩

section
variable {w : World} {N : Nat} {names : List ByteArray} {es : List (ByteArray × Int)} {vc vr : Value} {D1 D2 : DataW Unit}

theorem GAt.lt (h : GAt w N names es vc vr D1 D2) : N + 3 < w.heap.size := lt_of_block h.blk
theorem GAt.c0 (h : GAt w N names es vc vr D1 D2) : w.cell? ⟨N + 3, 0, none⟩ = some (.map (some N)) := by simp [World.cell?, h.blk]
theorem GAt.c1 (h : GAt w N names es vc vr D1 D2) : w.cell? ⟨N + 3, 1, none⟩ = some vc := by simp [World.cell?, h.blk]
theorem GAt.c2 (h : GAt w N names es vc vr D1 D2) : w.cell? ⟨N + 3, 2, none⟩ = some vr := by simp [World.cell?, h.blk]
theorem GAt.c5 (h : GAt w N names es vc vr D1 D2) : w.cell? ⟨N + 3, 5, none⟩ = some (.map (some (N + 2))) := by simp [World.cell?, h.blk]
theorem GAt.f1 (h : GAt w N names es vc vr D1 D2) : w.frozen? ⟨N + 3, 1, none⟩ = false := by simp [World.frozen?, h.blk]
theorem GAt.f2 (h : GAt w N names es vc vr D1 D2) : w.frozen? ⟨N + 3, 2, none⟩ = false := by simp [World.frozen?, h.blk]

/-- the chains' row is another block than the rows' row, the maps and the struct -/
theorem own_type {base : Nat} {e : TypeId} {size : Nat} {v : Value} {n : Nat} {xs : List Value} {k : Nat} (h : w.ownsRow base e size v n xs) (hk : v.ownBlock = some k) : ∃ cur, w.heap[k]? = some (.cells cur e (0, 0)) := by
  rcases h.2 with ⟨rfl, _⟩ | ⟨g, cap, cur, rfl, _, hg, _⟩
  · simp [Value.ownBlock] at hk
  · simp [Value.ownBlock] at hk
    subst hk
    exact ⟨cur, hg⟩

/-- a slice that owns at least one element is written out -/
theorem own_shape {base : Nat} {e : TypeId} {size : Nat} {v : Value} {n : Nat} {xs : List Value} (h : w.ownsRow base e size v n xs) (hn : 0 < n) : ∃ g cap, v = .slice (some ⟨g, 0, none⟩) n cap := by
  rcases h.2 with ⟨_, h0⟩ | ⟨g, cap, cur, hv, _⟩
  · omega
  · exact ⟨g, cap, hv⟩

/-- its length, nil or not -/
theorem own_len {base : Nat} {e : TypeId} {size : Nat} {v : Value} {n : Nat} {xs : List Value} (h : w.ownsRow base e size v n xs) : ∃ a cap, v = .slice a n cap := by
  rcases h.2 with ⟨hv, h0⟩ | ⟨g, cap, cur, hv, _⟩
  · subst h0; exact ⟨_, _, hv⟩
  · exact ⟨_, cap, hv⟩

/-- the three cells of chain i -/
theorem GAt.chain (h : GAt w N names es vc vr D1 D2) {i : Nat} {nm : ByteArray} (hi : names[i]? = some nm) :
    ∃ g cap, vc = .slice (some ⟨g, 0, none⟩) names.length cap ∧ w.cell? ⟨g, i * 3, none⟩ = some (.string nm) ∧ w.cell? ⟨g, i * 3 + 1, none⟩ = some (.int .i64 (lastOf nm es)) ∧ w.cell? ⟨g, i * 3 + 2, none⟩ = some (.int .i64 (cnt nm es)) := by
  have hlt : i < names.length := (List.getElem?_eq_some_iff.1 hi).1
  obtain ⟨g, cap, hv⟩ := own_shape h.chains (by omega)
  have hown := h.chains
  rw [hv] at hown
  obtain ⟨a0, a1, a2⟩ := chCells_at names es i nm hi
  exact ⟨g, cap, hv, by rw [hown.cellAt _ (by omega), a0], by rw [hown.cellAt _ (by omega), a1], by rw [hown.cellAt _ (by omega), a2]⟩

/-- the cells of row i -/
theorem GAt.row (h : GAt w N names es vc vr D1 D2) {i : Nat} {who : ByteArray} {y : Int} (hi : es[i]? = some (who, y)) :
    ∃ g cap, vr = .slice (some ⟨g, 0, none⟩) es.length cap ∧ w.cell? ⟨g, i * 4, none⟩ = some (.int .i64 y) ∧ w.cell? ⟨g, i * 4 + 2, none⟩ = some (.int .i64 i) ∧ w.cell? ⟨g, i * 4 + 3, none⟩ = some (.int .i64 (lastOf who (es.take i))) := by
  have hlt : i < es.length := (List.getElem?_eq_some_iff.1 hi).1
  obtain ⟨g, cap, hv⟩ := own_shape h.rows (by omega)
  have hown := h.rows
  rw [hv] at hown
  obtain ⟨a0, a1, a2⟩ := rowCells_at es i who y hi
  exact ⟨g, cap, hv, by rw [hown.cellAt _ (by omega), a0], by rw [hown.cellAt _ (by omega), a1], by rw [hown.cellAt _ (by omega), a2]⟩

/-- Where other blocks alone are written, and new ones made, the store stays what it is. -/
theorem GAt.kept {w' : World} {row : Option Nat} (h : GAt w N names es vc vr D1 D2) (hg : w.grownBy w' row) (h0 : some N ≠ row) (h2 : some (N + 2) ≠ row) (h3 : some (N + 3) ≠ row) (hc : vc.ownBlock = none ∨ vc.ownBlock ≠ row) (hr : vr.ownBlock = none ∨ vr.ownBlock ≠ row) : GAt w' N names es vc vr D1 D2 :=
  ⟨(hg.block _ h.lt h3).trans h.blk, h.chains.kept hg hc, h.rows.kept hg hr, h.idx.kept hg h0, h.yrs.kept hg h2, h.idxIs, h.yrsIs, h.nodup, h.small, h.wf⟩

theorem GAt.fresh {w' : World} (h : GAt w N names es vc vr D1 D2) (hg : w.grownBy w' none) : GAt w' N names es vc vr D1 D2 :=
  h.kept hg (by simp) (by simp) (by simp) (by cases hv : vc.ownBlock <;> simp) (by cases hv : vr.ownBlock <;> simp)

/-- a block of ints is none of the store's -/
theorem GAt.ints {b : Nat} {cs : Array Value} {w' : World} (h : GAt w N names es vc vr D1 D2) (hb : w.heap[b]? = some (.cells cs 3 (0, 0))) (hg : w.grownBy w' (some b)) : GAt w' N names es vc vr D1 D2 := by
  refine h.kept hg ?_ ?_ ?_ ?_ ?_
  · obtain ⟨es, clock, hm, _⟩ := h.idx
    rintro ⟨⟩; rw [hm] at hb; simp at hb
  · obtain ⟨es, clock, hm, _⟩ := h.yrs
    rintro ⟨⟩; rw [hm] at hb; simp at hb
  · rintro ⟨⟩; rw [h.blk] at hb; simp at hb
  · right; intro e
    obtain ⟨cur, hc⟩ := own_type h.chains e
    rw [hc] at hb; simp at hb
  · right; intro e
    obtain ⟨cur, hc⟩ := own_type h.rows e
    rw [hc] at hb; simp at hb
end

theorem IsG.ints {w w' : World} {N : Nat} {names : List ByteArray} {es : List (ByteArray × Int)} {b : Nat} {cs : Array Value} (h : IsG w N names es) (hb : w.heap[b]? = some (.cells cs 3 (0, 0))) (hg : w.grownBy w' (some b)) : IsG w' N names es := by
  obtain ⟨vc, vr, D1, D2, h⟩ := h
  exact ⟨vc, vr, D1, D2, h.ints hb hg⟩
theorem IsG.fresh {w w' : World} {N : Nat} {names : List ByteArray} {es : List (ByteArray × Int)} (h : IsG w N names es) (hg : w.grownBy w' none) : IsG w' N names es := by
  obtain ⟨vc, vr, D1, D2, h⟩ := h
  exact ⟨vc, vr, D1, D2, h.fresh hg⟩
theorem IsG.lt {w : World} {N : Nat} {names : List ByteArray} {es : List (ByteArray × Int)} (h : IsG w N names es) : N + 3 < w.heap.size := by
  obtain ⟨vc, vr, D1, D2, h⟩ := h
  exact h.lt

end Go.Proofs.Qxb6000555a
