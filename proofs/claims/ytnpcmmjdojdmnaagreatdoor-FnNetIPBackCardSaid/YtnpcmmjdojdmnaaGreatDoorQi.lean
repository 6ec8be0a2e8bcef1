/- Laws on append onto a row that the call itself made, from whatever source (a slice, nil, a text): as one operation of a walk, and as one step of a region that draws its order. -/
import Derived.WalkKit
import Derived.Deep.AppendSrc
import Derived.Deep.RegionLaw
namespace Go.Proofs.YtnpcmmjdojdmnaaGreatDoor
open Go Go.RowKit

section
variable {P : Program} (w : World)

theorem run_append_src_own (base : Nat) (t tx ty e : TypeId) (i : TypeInfo) (z : Value) (size bytes : Nat) (ht : P.underlying t = some (.slice e)) (hi : P.info? e = some i) (hz : i.zero = some z)
    (hsize : i.size = size) (hby : i.bytes = bytes) (hzs : z.cells.size = size)
    (g n cap : Nat) (xs : List Value) (hown : w.ownsRow base e size (.slice (some ⟨g, 0, none⟩) n cap) n xs)
    (x : Value) (m : Nat) (news : List Value) (hs : Src P size tx x m news w)
    (h63 : n + m ≤ maxLen) (hbytes : (n + m) * bytes ≤ 140737488355328) (hbase : base ≤ w.heap.size) :
    ∃ g' cap' w', (Builtin.append_ #[t, tx] ty #[.slice (some ⟨g, 0, none⟩) n cap, x]).run P w = .ok (.slice (some ⟨g', 0, none⟩) (n + m) cap') w' ∧
      w'.ownsRow base e size (.slice (some ⟨g', 0, none⟩) (n + m) cap') (n + m) (xs ++ news) ∧ w.grownBy w' (some g) ∧ (g' = g ∨ g' = w.heap.size) := by
  subst hsize
  subst hby
  have hl := hs.newsLen
  have hlen : (xs ++ news).length = (n + m) * i.size := by rw [List.length_append, hown.1, hl, Nat.add_mul]
  have holds : ∀ j u, xs[j]? = some u → w.cell? ((⟨g, 0, none⟩ : Addr).add j) = some u := hown.cells (g := g) rfl
  have hown' := hown
  rcases hown.2 with ⟨h, _⟩ | ⟨g', cap', cur, h, hbg, hg, hnc, hcm, hcs, htake⟩
  · simp at h
  · simp only [Value.slice.injEq, Option.some.injEq, Addr.mk.injEq, and_true, true_and] at h
    obtain ⟨rfl, rfl⟩ := h
    by_cases hroom : n + m ≤ cap
    · have hfit : n * i.size + news.length ≤ cur.size := by rw [hl, hcs, ← Nat.add_mul]; exact Nat.mul_le_mul_right _ hroom
      have hst := run_storeCells_at P g (n * i.size) e news 0 cur w hg (by simpa using hfit) hs.one
      simp only [Nat.add_zero] at hst
      have hr : (Builtin.append_ #[t, tx] ty #[.slice (some ⟨g, 0, none⟩) n cap, x]).run P w = .ok (.slice (some ⟨g, 0, none⟩) (n + m) cap) (w.setRow g (cur.toList.take (n * i.size) ++ news ++ cur.toList.drop (n * i.size + news.length)).toArray) := by
        rcases hs.kind with ⟨e', hk⟩ | hk <;> simp [Builtin.append_, run_underlying ht, run_underlying hk, sizeOf, typeInfo, hi, hs.len, hroom, hs.cells, Addr.add_lit, hst]
      refine ⟨_, _, _, hr, ⟨hlen, .inr ⟨g, cap, _, rfl, hbg, setRow_heap w g cur _ e _ hg, hroom, hcm, ?_, ?_⟩⟩, ⟨rfl, rfl, rfl, by simp, fun k _ hk => setRow_other w g k _ (fun e => hk (by simp [e]))⟩, .inl rfl⟩
      · simp only [List.size_toArray, List.length_append, List.length_take, List.length_drop, Array.length_toList]
        omega
      · rw [htake, ← hlen]
        exact List.take_left
    · have hold : (Builtin.firstCells i.size n (.slice (some ⟨g, 0, none⟩) n cap)).run P w.drew = .ok xs.toArray w.drew := run_firstCells_some w.drew i.size n ⟨g, 0, none⟩ n cap xs hown.1 (by simpa using holds)
      have hsm : n + m ≤ 9223372036854775807 := by simp only [maxLen] at h63; omega
      have hr := run_append_grow_src (P := P) w t tx ty e i z ht hi hz (some ⟨g, 0, none⟩) n cap xs hold x m news hs (by omega) (by omega) (growslice_fits (by omega) hbytes)
      have hge := grownCap_ge w (n + m) cap e
      have hcm' : grownCap w (n + m) cap e ≤ maxLen := grownCap_le_maxLen w (n + m) cap e h63
      refine ⟨_, _, _, hr, ⟨hlen, .inr ⟨w.heap.size, _, _, rfl, hbase, heap_alloc_new w.drew _, hge, hcm', ?_, ?_⟩⟩, ⟨rfl, rfl, rfl, by simp, fun k hk _ => Below.heap_alloc w.drew _ k hk⟩, .inr rfl⟩
      · simp only [Array.size_append, List.size_toArray, List.length_append, size_zeroCells, hzs, hown.1, hl, ← Nat.add_mul]
        congr 1
        omega
      · simp only [Array.toList_append]
        rw [← hlen]
        exact List.take_left

theorem wp_append_src_own {o : Oper} {a : Act} {K : Act → World → Prop} {Q : Exit → Act → World → Prop} (s xo : Operand) (t tx : TypeId)
    (ho : o.op = .call { callee := .builtin .append, args := #[s, xo], argTypes := #[t, tx] })
    (base : Nat) (e : TypeId) (i : TypeInfo) (z : Value) (size bytes : Nat) (ht : P.underlying t = some (.slice e)) (hi : P.info? e = some i) (hz : i.zero = some z)
    (hsize : i.size = size) (hby : i.bytes = bytes) (hzs : z.cells.size = size)
    (g n cap : Nat) (xs : List Value) (hsv : a.eval s = .slice (some ⟨g, 0, none⟩) n cap) (hown : w.ownsRow base e size (.slice (some ⟨g, 0, none⟩) n cap) n xs)
    (x : Value) (hx : a.eval xo = x) (m : Nat) (news : List Value) (hs : Src P size tx x m news w)
    (h63 : n + m ≤ maxLen) (hbytes : (n + m) * bytes ≤ 140737488355328) (hbase : base ≤ w.heap.size)
    (h : ∀ g' cap' w', w'.ownsRow base e size (.slice (some ⟨g', 0, none⟩) (n + m) cap') (n + m) (xs ++ news) → w.grownBy w' (some g) → (g' = g ∨ g' = w.heap.size) → K (a.put o.dst (.slice (some ⟨g', 0, none⟩) (n + m) cap')) w') : o.wp P a w K Q := by
  obtain ⟨g', cap', w', hr, h2, h3, h4⟩ := run_append_src_own (P := P) w base t tx o.type e i z size bytes ht hi hz hsize hby hzs g n cap xs hown x m news hs h63 hbytes hbase
  unfold Oper.wp execOp
  simp only [ho, resolve, invoke, builtin, Sem.run_bind, Sem.run_pure, Result.andThen_ok, List.map_toArray, List.map_cons, List.map_nil, hsv, hx, hr]
  exact h g' cap' w' h2 h3 h4

theorem wpList_append_src_own {ops : Array Oper} {rest : List Oper} {o : Oper} {a : Act} {Q : Exit → Act → World → Prop} (hgd : o.guard = none) (s xo : Operand) (t tx : TypeId)
    (ho : o.op = .call { callee := .builtin .append, args := #[s, xo], argTypes := #[t, tx] })
    (base : Nat) (e : TypeId) (i : TypeInfo) (z : Value) (size bytes : Nat) (ht : P.underlying t = some (.slice e)) (hi : P.info? e = some i) (hz : i.zero = some z)
    (hsize : i.size = size) (hby : i.bytes = bytes) (hzs : z.cells.size = size)
    (g n cap : Nat) (xs : List Value) (hsv : a.eval s = .slice (some ⟨g, 0, none⟩) n cap) (hown : w.ownsRow base e size (.slice (some ⟨g, 0, none⟩) n cap) n xs)
    (x : Value) (hx : a.eval xo = x) (m : Nat) (news : List Value) (hs : Src P size tx x m news w)
    (h63 : n + m ≤ maxLen) (hbytes : (n + m) * bytes ≤ 140737488355328) (hbase : base ≤ w.heap.size)
    (h : ∀ g' cap' w', w'.ownsRow base e size (.slice (some ⟨g', 0, none⟩) (n + m) cap') (n + m) (xs ++ news) → w.grownBy w' (some g) → (g' = g ∨ g' = w.heap.size) → wpList P ops Q rest (a.put o.dst (.slice (some ⟨g', 0, none⟩) (n + m) cap')) w') : wpList P ops Q (o :: rest) a w :=
  wpList_plain hgd fun _ hK => wp_append_src_own w s xo t tx ho base e i z size bytes ht hi hz hsize hby hzs g n cap xs hsv hown x hx m news hs h63 hbytes hbase fun g' cap' w' h2 h3 h4 => hK _ _ (h g' cap' w' h2 h3 h4)

theorem step_append_src_own {ops : Array Oper} {o : Oper} {a : Act} {K : Act → World → Prop} {Q : Exit → Act → World → Prop} {E : Prop} (hgd : o.guard = none) (s xo : Operand) (t tx : TypeId)
    (ho : o.op = .call { callee := .builtin .append, args := #[s, xo], argTypes := #[t, tx] })
    (base : Nat) (e : TypeId) (i : TypeInfo) (z : Value) (size bytes : Nat) (ht : P.underlying t = some (.slice e)) (hi : P.info? e = some i) (hz : i.zero = some z)
    (hsize : i.size = size) (hby : i.bytes = bytes) (hzs : z.cells.size = size)
    (g n cap : Nat) (xs : List Value) (hsv : a.eval s = .slice (some ⟨g, 0, none⟩) n cap) (hown : w.ownsRow base e size (.slice (some ⟨g, 0, none⟩) n cap) n xs)
    (x : Value) (hx : a.eval xo = x) (m : Nat) (news : List Value) (hs : Src P size tx x m news w)
    (h63 : n + m ≤ maxLen) (hbytes : (n + m) * bytes ≤ 140737488355328) (hbase : base ≤ w.heap.size)
    (h : ∀ g' cap' w', w'.ownsRow base e size (.slice (some ⟨g', 0, none⟩) (n + m) cap') (n + m) (xs ++ news) → w.grownBy w' (some g) → (g' = g ∨ g' = w.heap.size) → K (a.put o.dst (.slice (some ⟨g', 0, none⟩) (n + m) cap')) w') :
    if Region.wanted o (yielded ops a.tmps) = true then Oper.wp P o a w K Q else E := by
  have hw : Region.wanted o (yielded ops a.tmps) = true := by simp [Region.wanted, hgd]
  rw [if_pos hw]
  exact wp_append_src_own w s xo t tx ho base e i z size bytes ht hi hz hsize hby hzs g n cap xs hsv hown x hx m news hs h63 hbytes hbase h
end

/-- The bytes l stand at the address p (none: there are none). -/
def BytesAt (w : World) (p : Option Addr) (l : List UInt8) : Prop :=
  (p = none → l = []) ∧ ∀ a, p = some a → ∀ j (h : j < l.length), w.cell? (a.add j) = some (.int .u8 (l[j]).toNat)

def byteVals (l : List UInt8) : List Value := l.map fun b => Value.int .u8 b.toNat
theorem byteVals_length (l : List UInt8) : (byteVals l).length = l.length := by simp [byteVals]
theorem byteVals_one (l : List UInt8) : ∀ u ∈ byteVals l, u.oneCell' = true := by
  intro u hu
  obtain ⟨_, _, rfl⟩ := List.mem_map.1 hu
  rfl
theorem byteVals_get {l : List UInt8} {j : Nat} {u : Value} (h : (byteVals l)[j]? = some u) : ∃ hj : j < l.length, u = .int .u8 (l[j]).toNat := by
  have hj := (List.getElem?_eq_some_iff.1 h).1
  rw [byteVals_length] at hj
  refine ⟨hj, ?_⟩
  simp [byteVals, hj] at h
  exact h.symm

theorem BytesAt.src {P : Program} {w : World} {p : Option Addr} {l : List UInt8} {t e' : TypeId} (hk : P.underlying t = some (.slice e')) (h : BytesAt w p l) (c : Nat) : Src P 1 t (.slice p l.length c) l.length (byteVals l) w := by
  cases p with
  | none =>
    obtain rfl := h.1 rfl
    exact Src.ofNil w hk c
  | some a =>
    refine Src.ofSlice w hk a l.length c (byteVals l) (by rw [byteVals_length]; omega) (fun j u hu => ?_) (byteVals_one l)
    obtain ⟨hj, rfl⟩ := byteVals_get hu
    exact h.2 a rfl j hj
theorem BytesAt.below {B : Nat} {w w' : World} {p : Option Addr} {l : List UInt8} (h : BytesAt w p l) (hb : Below B w w') (hp : ∀ a, p = some a → l ≠ [] → a.block < B) : BytesAt w' p l := by
  refine ⟨h.1, fun a ha j hj => ?_⟩
  rw [hb.cell (p := a.add j) (by
    have := hp a ha (by intro e; subst e; simp at hj)
    unfold Addr.add; split <;> exact this)]
  exact h.2 a ha j hj
theorem BytesAt.lt {w : World} {p : Option Addr} {l : List UInt8} (h : BytesAt w p l) : ∀ a, p = some a → l ≠ [] → a.block < w.heap.size := by
  intro a ha hl
  have h0 := h.2 a ha 0 (List.length_pos_iff.2 hl)
  have := World.block_lt_of_cell? w _ h0
  unfold Addr.add at this
  simpa using this

/-- A list of cells that stand in a world and may be written: block, place, value. -/
def Has (w : World) (L : List (Nat × Nat × Value)) : Prop := ∀ x ∈ L, w.cell? ⟨x.1, x.2.1, none⟩ = some x.2.2 ∧ w.frozen? ⟨x.1, x.2.1, none⟩ = false

theorem Has.cell {w : World} {L : List (Nat × Nat × Value)} (h : Has w L) (i : Nat) {b o : Nat} {v : Value} (hi : L[i]? = some (b, o, v)) : w.cell? ⟨b, o, none⟩ = some v := (h _ (List.mem_of_getElem? hi)).1
theorem Has.free {w : World} {L : List (Nat × Nat × Value)} (h : Has w L) (i : Nat) {b o : Nat} {v : Value} (hi : L[i]? = some (b, o, v)) : w.frozen? ⟨b, o, none⟩ = false := (h _ (List.mem_of_getElem? hi)).2
theorem Has.lt {w : World} {L : List (Nat × Nat × Value)} (h : Has w L) {x : Nat × Nat × Value} (hx : x ∈ L) : x.1 < w.heap.size := World.block_lt_of_cell? w _ (h x hx).1
theorem Has.grown {w w' : World} {L : List (Nat × Nat × Value)} {row : Option Nat} (h : Has w L) (hg : w.grownBy w' row) (hne : ∀ x ∈ L, some x.1 ≠ row) : Has w' L := fun x hx =>
  ⟨(World.cell?_of_block (hg.block x.1 (h.lt hx) (hne x hx))).trans (h x hx).1, (World.frozen?_of_block (hg.block x.1 (h.lt hx) (hne x hx))).trans (h x hx).2⟩
theorem Has.below {B : Nat} {w w' : World} {L : List (Nat × Nat × Value)} (h : Has w L) (hb : Below B w w') (hB : ∀ x ∈ L, x.1 < B) : Has w' L := fun x hx =>
  ⟨(hb.cell (p := ⟨x.1, x.2.1, none⟩) (hB x hx)).trans (h x hx).1, (hb.frozen (p := ⟨x.1, x.2.1, none⟩) (hB x hx)).trans (h x hx).2⟩
theorem Has.belowS {w w' : World} {L : List (Nat × Nat × Value)} (h : Has w L) (hb : Below w.heap.size w w') : Has w' L := h.below hb fun _ hx => h.lt hx
theorem Has.alloc {w : World} {L : List (Nat × Nat × Value)} (h : Has w L) (o : Obj) : Has (w.alloc o) L := h.belowS ((Below.refl _ _).alloc (Nat.le_refl _) o)
theorem Has.drew {w : World} {L : List (Nat × Nat × Value)} (h : Has w L) : Has w.drew L := h
theorem BytesAt.drew {w : World} {p : Option Addr} {l : List UInt8} (h : BytesAt w p l) : BytesAt w.drew p l := h
/-- Bytes that a call owns, made a text. -/
theorem convert_owned {P : Program} {w : World} {base e src dst : TypeId} {g cap : Nat} {l : List UInt8} (hown : w.ownsRow base e 1 (.slice (some ⟨g, 0, none⟩) l.length cap) l.length (byteVals l))
    (hs : P.underlying src = some (.slice e)) (he : P.underlying e = some (.int .u8)) (hd : P.underlying dst = some .string) :
    (convert src dst (.slice (some ⟨g, 0, none⟩) l.length cap)).run P w = .ok (.string ⟨l.toArray⟩) w :=
  run_convert_bytes_back w src dst e ⟨g, 0, none⟩ cap l hs he hd fun j hj => hown.cells (g := g) rfl j _ (by simp [byteVals, hj])
end Go.Proofs.YtnpcmmjdojdmnaaGreatDoor
