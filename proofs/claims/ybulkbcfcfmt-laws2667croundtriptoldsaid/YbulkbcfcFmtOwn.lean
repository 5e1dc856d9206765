/-
  Slices of bytes that the call itself owns, by their numbers: append, as laws for the walk; the bytes of a varint. No program in sight.
-/
import Derived.WalkKit
import Derived.WalkSmall
import Derived.Maps.AppendAt
import Derived.Lib.AppendStr
import Derived.Laws.CopyOwn
import Derived.Laws.OwnMore
namespace Go.Proofs.YbulkbcfcFmt
open Go.RowKit

theorem hid {p : Prop} (h : p) : Hid p := h

/-- Numbers as the cells of a row of bytes. -/
def bv (xs : List Int) : List Value := xs.map (Value.int .u8)

theorem bv_length (xs : List Int) : (bv xs).length = xs.length := by simp [bv]
theorem bv_append (xs ys : List Int) : bv (xs ++ ys) = bv xs ++ bv ys := by simp [bv]
theorem bv_get {xs : List Int} {j : Nat} {u : Value} (h : (bv xs)[j]? = some u) : ∃ x, xs[j]? = some x ∧ u = .int .u8 x := by
  unfold bv at h
  rw [List.getElem?_map] at h
  obtain ⟨x, hx, e⟩ := Option.map_eq_some_iff.1 h
  exact ⟨x, hx, e.symm⟩
theorem bv_one (xs : List Int) : ∀ u ∈ bv xs, u.oneCell' = true := ints_oneCell .u8 xs

/-- At block g the bytes xs, n of them, as the slice of n bytes and capacity cap that begins there. -/
def Row (w : World) (g n cap : Nat) (xs : List Int) : Prop := xs.length = n ∧ w.ownsRow 0 5 1 (.slice (some ⟨g, 0, none⟩) n cap) n (bv xs)

section
variable {w w' : World} {g n cap : Nat} {xs : List Int}

theorem Row.block (h : Row w g n cap xs) : ∃ cur, w.heap[g]? = some (.cells cur 5 (0, 0)) ∧ n ≤ cap ∧ cap ≤ maxLen ∧ cur.size = cap * 1 ∧ cur.toList.take (n * 1) = bv xs := by
  rcases h.2.2 with ⟨e, _⟩ | ⟨g', cap', cur, e, _, hg, hn, hm, hs, ht⟩
  · cases e
  · cases e
    exact ⟨cur, hg, hn, hm, hs, ht⟩
theorem Row.lt (h : Row w g n cap xs) : g < w.heap.size := by
  obtain ⟨cur, hg, _⟩ := h.block
  exact (Array.getElem?_eq_some_iff.1 hg).1
theorem Row.len (h : Row w g n cap xs) : xs.length = n := h.1
theorem Row.of_block (h : Row w g n cap xs) (e : w'.heap[g]? = w.heap[g]?) : Row w' g n cap xs := by
  obtain ⟨cur, hg, hn, hm, hs, ht⟩ := h.block
  exact ⟨h.1, h.2.1, .inr ⟨g, cap, cur, rfl, Nat.zero_le _, e.trans hg, hn, hm, hs, ht⟩⟩
theorem Row.alloc (h : Row w g n cap xs) (o : Obj) : Row (w.alloc o) g n cap xs := h.of_block (Below.heap_alloc w o g h.lt)
theorem Row.drew (h : Row w g n cap xs) : Row w.drew g n cap xs := h.of_block rfl
theorem Row.cell (h : Row w g n cap xs) {j : Nat} {x : Int} (hx : xs[j]? = some x) : w.cell? ⟨g, j, none⟩ = some (.int .u8 x) := by
  have hj : j < xs.length := (List.getElem?_eq_some_iff.1 hx).1
  have hn := h.1
  rw [h.2.cellAt j (by omega)]
  unfold bv
  rw [List.getElem?_map, hx]
  rfl
end

/-- A block that is full. -/
theorem Row.full {w : World} {g n : Nat} {xs : List Int} (h : w.heap[g]? = some (.cells (bv xs).toArray 5 (0, 0))) (hn : xs.length = n) (hm : n ≤ maxLen) : Row w g n n xs :=
  ⟨hn, by rw [bv_length]; omega, .inr ⟨g, n, _, rfl, Nat.zero_le _, h, Nat.le_refl _, hm, by rw [List.size_toArray, bv_length]; omega, by
    rw [List.take_of_length_le (by rw [Array.length_toList, List.size_toArray, bv_length]; omega)]⟩⟩

/-- A block just made, nothing in it yet. -/
theorem Row.made (w : World) (c : Array Value) (cap : Nat) (hc : c.size = cap) (hm : cap ≤ maxLen) : Row (w.alloc (.cells c 5)) w.heap.size 0 cap [] :=
  ⟨rfl, World.ownsRow_made w c cap (Nat.zero_le _) hm (by omega)⟩

/-- From w to w': new blocks, and writes to block g alone; the slice that lay at g lies at g' now: at g, or in a new block. -/
structure Grew (w : World) (g : Nat) (w' : World) (g' : Nat) : Prop where
  grown : w.grownBy w' (some g)
  lies : g' = g ∨ w.heap.size ≤ g'

section
variable {w w1 w2 : World} {g g1 g2 : Nat}
theorem Grew.refl (w : World) (g : Nat) : Grew w g w g := ⟨⟨rfl, rfl, rfl, Nat.le_refl _, fun _ _ _ => rfl⟩, .inl rfl⟩
theorem Grew.size (h : Grew w g w1 g1) : w.heap.size ≤ w1.heap.size := h.grown.size
theorem Grew.keep (h : Grew w g w1 g1) {k : Nat} (hk : k < w.heap.size) (hne : k ≠ g) : w1.heap[k]? = w.heap[k]? := h.grown.block k hk (by simp; omega)
theorem Grew.ne (h : Grew w g w1 g1) {k : Nat} (hk : k < w.heap.size) (hne : k ≠ g) : k ≠ g1 := by rcases h.lies with e | e <;> omega
theorem Grew.trans (h : Grew w g w1 g1) (k : Grew w1 g1 w2 g2) : Grew w g w2 g2 :=
  ⟨⟨k.grown.os.trans h.grown.os, k.grown.tape.trans h.grown.tape, k.grown.output.trans h.grown.output, Nat.le_trans h.size k.size, fun i hi hne => by
      have hne' : i ≠ g := fun e => hne (by rw [e])
      exact (k.keep (Nat.lt_of_lt_of_le hi h.size) (h.ne hi hne')).trans (h.keep hi hne')⟩,
    by have := h.size; rcases k.lies with e | e <;> rcases h.lies with e' | e' <;> omega⟩
theorem Grew.alloc (h : Grew w g w1 g1) (o : Obj) : Grew w g (w1.alloc o) g1 :=
  ⟨⟨h.grown.os, h.grown.tape, h.grown.output, by simp; have := h.size; omega, fun i hi hne => (Below.heap_alloc w1 o i (Nat.lt_of_lt_of_le hi h.size)).trans (h.grown.block i hi hne)⟩, h.lies⟩
theorem Grew.drew (h : Grew w g w1 g1) : Grew w g w1.drew g1 := ⟨⟨h.grown.os, h.grown.tape, h.grown.output, h.size, fun i hi hne => h.grown.block i hi hne⟩, h.lies⟩
theorem Grew.drewN (h : Grew w g w1 g1) (q : Nat) : Grew w g (w1.drewN q) g1 := ⟨⟨h.grown.os, h.grown.tape, h.grown.output, h.size, fun i hi hne => h.grown.block i hi hne⟩, h.lies⟩
/-- What is below the row is as it was. -/
theorem Grew.below (h : Grew w g w1 g1) {B : Nat} (hB : B ≤ g) (hw : B ≤ w.heap.size) : Below B w w1 :=
  ⟨h.grown.os, h.grown.tape, h.grown.output, h.size, fun k hk => h.keep (by omega) (by omega)⟩
end

section
variable {P : Program} {T : TypeId}

/-- append(s, x...): s of the call's own, x a slice whose bytes are known: what the builtin's run gives. -/
theorem run_app (w : World) (ty : TypeId) (ht : P.underlying T = some (.slice 5)) (hi : (P.info? 5).map (fun i => (i.zero, i.size, i.bytes)) = some (some (.int .u8 0), 1, 1))
    (g n cap : Nat) (xs : List Int) (hown : Row w g n cap xs) (ad : Addr) (m c : Nat) (ys : List Int) (hm : ys.length = m)
    (hnews : ∀ j y, ys[j]? = some y → w.cell? (ad.add j) = some (.int .u8 y)) (hbound : n + m ≤ 100000) :
    ∃ g' n' cap' w', (Builtin.append_ #[T, T] ty #[.slice (some ⟨g, 0, none⟩) n cap, .slice (some ad) m c]).run P w = .ok (.slice (some ⟨g', 0, none⟩) n' cap') w' ∧ Row w' g' n' cap' (xs ++ ys) ∧ Grew w g w' g' := by
  obtain ⟨i, hi, hz0, hz1, hz2⟩ := info_parts hi
  obtain ⟨v', w', hr, h1, h2, h3, h4⟩ := run_append_own_at (P := P) w 0 T ty 5 i (.int .u8 0) 1 1 ht hi hz0 hz1 hz2 rfl (by decide) _ n (bv xs) hown.2 ad m c (bv ys) (by rw [bv_length]; omega)
    (fun j u hj => by obtain ⟨y, hy, rfl⟩ := bv_get hj; exact hnews j y hy) (bv_one ys) (by unfold maxLen; omega) (by omega) (Nat.zero_le _)
  rcases h1.2 with ⟨rfl, _⟩ | ⟨g', cap', cur, rfl, hrest⟩
  · exact absurd (h3.1 rfl).1 (by simp)
  · refine ⟨g', n + m, cap', w', hr, ⟨by rw [List.length_append, hown.1, hm], ?_⟩, h2, ?_⟩
    · rw [bv_append]
      exact h1
    · simp only [Value.ownBlock, Option.some.injEq] at h4
      omega

theorem run_app_string (w : World) (U ty : TypeId) (ht : P.underlying T = some (.slice 5)) (hu : P.underlying U = some .string) (hi : (P.info? 5).map (fun i => (i.zero, i.size, i.bytes)) = some (some (.int .u8 0), 1, 1))
    (g n cap : Nat) (xs : List Int) (hown : Row w g n cap xs) (t : ByteArray) (ys : List Int) (hy : t.data.toList.map (fun b => (b.toNat : Int)) = ys) (hbound : n + ys.length ≤ 100000) :
    ∃ g' n' cap' w', (Builtin.append_ #[T, U] ty #[.slice (some ⟨g, 0, none⟩) n cap, .string t]).run P w = .ok (.slice (some ⟨g', 0, none⟩) n' cap') w' ∧ Row w' g' n' cap' (xs ++ ys) ∧ Grew w g w' g' := by
  obtain ⟨i, hi, hz0, hz1, hz2⟩ := info_parts hi
  have hlen : t.size = ys.length := by rw [← hy, List.length_map, Array.length_toList]; rfl
  have hst : Lib.strCells t = bv ys := by
    subst hy
    unfold Lib.strCells bv
    rw [List.map_map]
    rfl
  obtain ⟨v', w', hr, h1, h2, h3⟩ := Lib.run_append_own_string (P := P) w 0 T U ty 5 i ht hu hi hz0 hz1 hz2 _ n (bv xs) hown.2 t (by unfold maxLen; omega) (by omega) (Nat.zero_le _)
  have hat : v'.ownBlock = some g ∨ v'.ownBlock = some w.heap.size := by
    obtain ⟨cur, hg, hn, hm, hs, htk⟩ := hown.block
    by_cases hroom : n + t.size ≤ cap
    · have := Lib.run_append_room_string (P := P) w T U ty 5 i ht hu hi hz1 g n cap cur hg t hroom (by omega)
      rw [hr] at this
      cases this
      exact .inl rfl
    · have := Lib.run_append_grow_string (P := P) w T U ty 5 i _ ht hu hi hz0 ⟨g, 0, none⟩ n cap (bv xs) (by rw [hz1, bv_length, hown.1]; omega) (hown.2.cells (g := g) rfl) t (by omega) (by omega) (by rw [hz2]; exact growslice_fits (by omega) (by omega))
      rw [hr] at this
      cases this
      exact .inr rfl
  rcases h1.2 with ⟨rfl, _⟩ | ⟨g', cap', cur, rfl, hrest⟩
  · exact absurd (h3.1 rfl).1 (by simp)
  · refine ⟨g', n + t.size, cap', w', hr, ⟨by rw [List.length_append, hown.1, hlen], ?_⟩, h2, ?_⟩
    · rw [bv_append, ← hst]
      exact h1
    · simp only [Value.ownBlock, Option.some.injEq] at hat
      omega

theorem wp_app (w : World) {o : Oper} {a : Act} {K : Act → World → Prop} {Q : Exit → Act → World → Prop} (s x : Operand)
    (ho : o.op = .call { callee := .builtin .append, args := #[s, x], argTypes := #[T, T] }) (ht : P.underlying T = some (.slice 5)) (hi : (P.info? 5).map (fun i => (i.zero, i.size, i.bytes)) = some (some (.int .u8 0), 1, 1))
    (g n cap : Nat) (xs : List Int) (hs : a.eval s = .slice (some ⟨g, 0, none⟩) n cap) (hown : Row w g n cap xs) (ad : Addr) (m c : Nat) (ys : List Int) (hx : a.eval x = .slice (some ad) m c) (hm : ys.length = m)
    (hnews : ∀ j y, ys[j]? = some y → w.cell? (ad.add j) = some (.int .u8 y)) (hbound : n + m ≤ 100000)
    (h : ∀ g' n' cap' w', Row w' g' n' cap' (xs ++ ys) → Grew w g w' g' → K (a.put o.dst (.slice (some ⟨g', 0, none⟩) n' cap')) w') : o.wp P a w K Q := by
  obtain ⟨g', n', cap', w', hr, h1, h2⟩ := run_app (P := P) w o.type ht hi g n cap xs hown ad m c ys hm hnews hbound
  unfold Oper.wp execOp
  simp only [ho, resolve, invoke, builtin, Sem.run_bind, Sem.run_pure, Result.andThen_ok, List.map_toArray, List.map_cons, List.map_nil, hs, hx, hr]
  exact h g' n' cap' w' h1 h2

/-- At a plain region's list of operations. -/
theorem wpList_app (w : World) {ops : Array Oper} {rest : List Oper} {o : Oper} {a : Act} {Q : Exit → Act → World → Prop} (hgd : o.guard = none) (s x : Operand)
    (ho : o.op = .call { callee := .builtin .append, args := #[s, x], argTypes := #[T, T] }) (ht : P.underlying T = some (.slice 5)) (hi : (P.info? 5).map (fun i => (i.zero, i.size, i.bytes)) = some (some (.int .u8 0), 1, 1))
    (g n cap : Nat) (xs : List Int) (hs : a.eval s = .slice (some ⟨g, 0, none⟩) n cap) (hown : Row w g n cap xs) (ad : Addr) (m c : Nat) (ys : List Int) (hx : a.eval x = .slice (some ad) m c) (hm : ys.length = m)
    (hnews : ∀ j y, ys[j]? = some y → w.cell? (ad.add j) = some (.int .u8 y)) (hbound : n + m ≤ 100000)
    (h : ∀ g' n' cap' w', Row w' g' n' cap' (xs ++ ys) → Grew w g w' g' → wpList P ops Q rest (a.put o.dst (.slice (some ⟨g', 0, none⟩) n' cap')) w') : wpList P ops Q (o :: rest) a w :=
  wpList_plain hgd fun _ hK => wp_app w s x ho ht hi g n cap xs hs hown ad m c ys hx hm hnews hbound fun g' n' cap' w' h1 h2 => hK _ _ (h g' n' cap' w' h1 h2)

/-- At a step of a region that draws its order. -/
theorem step_app (w : World) {ops : Array Oper} {o : Oper} {a : Act} {K : Act → World → Prop} {Q : Exit → Act → World → Prop} {E : Prop} (hgd : o.guard = none) (s x : Operand)
    (ho : o.op = .call { callee := .builtin .append, args := #[s, x], argTypes := #[T, T] }) (ht : P.underlying T = some (.slice 5)) (hi : (P.info? 5).map (fun i => (i.zero, i.size, i.bytes)) = some (some (.int .u8 0), 1, 1))
    (g n cap : Nat) (xs : List Int) (hs : a.eval s = .slice (some ⟨g, 0, none⟩) n cap) (hown : Row w g n cap xs) (ad : Addr) (m c : Nat) (ys : List Int) (hx : a.eval x = .slice (some ad) m c) (hm : ys.length = m)
    (hnews : ∀ j y, ys[j]? = some y → w.cell? (ad.add j) = some (.int .u8 y)) (hbound : n + m ≤ 100000)
    (h : ∀ g' n' cap' w', Row w' g' n' cap' (xs ++ ys) → Grew w g w' g' → K (a.put o.dst (.slice (some ⟨g', 0, none⟩) n' cap')) w') : if Region.wanted o (yielded ops a.tmps) = true then Oper.wp P o a w K Q else E := by
  have hw : Region.wanted o (yielded ops a.tmps) = true := by simp [Region.wanted, hgd]
  rw [if_pos hw]
  exact wp_app w s x ho ht hi g n cap xs hs hown ad m c ys hx hm hnews hbound h

/-- append(s, nil...): nothing. -/
theorem wpList_app_nil (w : World) {ops : Array Oper} {rest : List Oper} {o : Oper} {a : Act} {Q : Exit → Act → World → Prop} (hgd : o.guard = none) (s x : Operand)
    (ho : o.op = .call { callee := .builtin .append, args := #[s, x], argTypes := #[T, T] }) (ht : P.underlying T = some (.slice 5)) (hi : (P.info? 5).map (fun i => (i.zero, i.size, i.bytes)) = some (some (.int .u8 0), 1, 1))
    (g n cap : Nat) (xs : List Int) (hs : a.eval s = .slice (some ⟨g, 0, none⟩) n cap) (hown : Row w g n cap xs) (m c : Nat) (hx : a.eval x = .slice none m c) (hm : m = 0) (hc : c = 0)
    (h : wpList P ops Q rest (a.put o.dst (.slice (some ⟨g, 0, none⟩) n cap)) w) : wpList P ops Q (o :: rest) a w := by
  obtain ⟨i, hi, hz0, hz1, hz2⟩ := info_parts hi
  subst hm hc
  refine wpList_plain hgd fun K hK => ?_
  have hr := run_append_owned_none (P := P) w 0 T o.type 5 i 1 ht hi _ n (bv xs) hown.2
  unfold Oper.wp execOp
  simp only [ho, resolve, invoke, builtin, Sem.run_bind, Sem.run_pure, Result.andThen_ok, List.map_toArray, List.map_cons, List.map_nil, hs, hx, hr]
  exact hK _ _ h

/-- append(s, t...), t a string. -/
theorem wpList_app_string (w : World) {ops : Array Oper} {rest : List Oper} {o : Oper} {a : Act} {Q : Exit → Act → World → Prop} (hgd : o.guard = none) (s x : Operand) (U : TypeId)
    (ho : o.op = .call { callee := .builtin .append, args := #[s, x], argTypes := #[T, U] }) (ht : P.underlying T = some (.slice 5)) (hu : P.underlying U = some .string) (hi : (P.info? 5).map (fun i => (i.zero, i.size, i.bytes)) = some (some (.int .u8 0), 1, 1))
    (g n cap : Nat) (xs : List Int) (hs : a.eval s = .slice (some ⟨g, 0, none⟩) n cap) (hown : Row w g n cap xs) (t : ByteArray) (ys : List Int) (hx : a.eval x = .string t) (hy : t.data.toList.map (fun b => (b.toNat : Int)) = ys) (hbound : n + ys.length ≤ 100000)
    (h : ∀ g' n' cap' w', Row w' g' n' cap' (xs ++ ys) → Grew w g w' g' → wpList P ops Q rest (a.put o.dst (.slice (some ⟨g', 0, none⟩) n' cap')) w') : wpList P ops Q (o :: rest) a w := by
  refine wpList_plain hgd fun K hK => ?_
  obtain ⟨g', n', cap', w', hr, h1, h2⟩ := run_app_string (P := P) w U o.type ht hu hi g n cap xs hown t ys hy hbound
  unfold Oper.wp execOp
  simp only [ho, resolve, invoke, builtin, Sem.run_bind, Sem.run_pure, Result.andThen_ok, List.map_toArray, List.map_cons, List.map_nil, hs, hx, hr]
  exact hK _ _ (h g' n' cap' w' h1 h2)
end

/-- The one byte of a new block, where append looks for it. -/
theorem one_cell {w : World} {k : Nat} {b : Int} {t : TypeId} (h : w.heap[k]? = some (.cells #[.int .u8 b] t (0, 0))) : ∀ j y, [b][j]? = some y → w.cell? ((⟨k, 0, none⟩ : Addr).add j) = some (.int .u8 y) := by
  intro j y hj
  match j, hj with
  | 0, hj =>
    simp at hj
    subst hj
    rw [Addr.add_lit, cell_of_row w k (0 + 0) _ t (0, 0) h]
    rfl

/-- The bytes of a block that is known whole, where append looks for them. -/
theorem box_cells {w : World} {k : Nat} {ys : List Int} {t : TypeId} (h : w.heap[k]? = some (.cells (bv ys).toArray t (0, 0))) : ∀ j y, ys[j]? = some y → w.cell? ((⟨k, 0, none⟩ : Addr).add j) = some (.int .u8 y) := by
  intro j y hj
  rw [Addr.add_lit, cell_of_row w k (0 + j) _ t (0, 0) h]
  simp [bv, hj]

theorem or128 (m : Fin 256) : bits BinOp.or IntKind.u8 (m.val : Int) 128 = ((m.val % 128 + 128 : Nat) : Int) := by
  revert m
  decide +kernel

theorem or128' (z : Int) (h0 : 0 ≤ z) : bits BinOp.or IntKind.u8 (z % 256) 128 = z % 128 + 128 := by
  have h := or128 ⟨z.toNat % 256, Nat.mod_lt _ (by omega)⟩
  simp only at h
  have e : ((z.toNat % 256 : Nat) : Int) = z % 256 := by omega
  rw [e] at h
  rw [h]
  omega

theorem and1 (m : Fin 256) : bits BinOp.and IntKind.u8 (m.val : Int) 1 = ((m.val % 2 : Nat) : Int) := by
  revert m
  decide +kernel

theorem and1' (z : Int) (h0 : 0 ≤ z) (h1 : z ≤ 255) : bits BinOp.and IntKind.u8 z 1 = z % 2 := by
  have h := and1 ⟨z.toNat, by omega⟩
  simp only at h
  have e : (z.toNat : Int) = z := by omega
  rw [e] at h
  rw [h]
  omega

/-! ### The bytes of a varint -/

/-- Seven bits a byte, the least first; every byte but the last bears 128. Fuel: one less than the number of bytes that may be wanted. -/
def uvF : Nat → Nat → List Int
  | 0, x => [(x : Int)]
  | n + 1, x => if x < 128 then [(x : Int)] else ((x % 128 + 128 : Nat) : Int) :: uvF n (x / 128)

def uv (x : Nat) : List Int := uvF 9 x

theorem uvF_length (n x : Nat) : (uvF n x).length ≤ n + 1 ∧ 1 ≤ (uvF n x).length := by
  induction n generalizing x with
  | zero => simp [uvF]
  | succ n ih =>
    unfold uvF
    split
    · simp
    · have := ih (x / 128); simp; omega

theorem uv_length (x : Nat) : (uv x).length ≤ 10 ∧ 1 ≤ (uv x).length := uvF_length 9 x

theorem uvF_small {n x : Nat} (h : x < 128) : uvF n x = [(x : Int)] := by
  cases n with
  | zero => rfl
  | succ n => unfold uvF; rw [if_pos h]

theorem uvF_step {n x : Nat} (h : ¬ x < 128) : uvF (n + 1) x = ((x % 128 + 128 : Nat) : Int) :: uvF n (x / 128) := by
  show (if x < 128 then _ else _) = _
  rw [if_neg h]

/-- One round of the loop that writes a varint. -/
theorem uv_round {ys rs : List Int} {z : Int} {n : Nat} (hl : ¬ z < 128) (hz : z.toNat < 128 ^ (n + 1)) (h : ys ++ uvF n z.toNat = rs) :
    ∃ m, n = m + 1 ∧ (z / 128).toNat < 128 ^ (m + 1) ∧ (ys ++ [z % 128 + 128]) ++ uvF m (z / 128).toNat = rs := by
  cases n with
  | zero => simp at hz; omega
  | succ m =>
    refine ⟨m, rfl, ?_, ?_⟩
    · rw [show (z / 128).toNat = z.toNat / 128 from by omega]
      rw [Nat.pow_succ 128 (m + 1)] at hz
      exact Nat.div_lt_of_lt_mul (by rw [Nat.mul_comm]; exact hz)
    · rw [← h, uvF_step (by omega), List.append_assoc]
      have e1 : ((z.toNat % 128 + 128 : Nat) : Int) = z % 128 + 128 := by omega
      have e2 : (z / 128).toNat = z.toNat / 128 := by omega
      rw [e1, e2]
      rfl

end Go.Proofs.YbulkbcfcFmt
