/- impl.address; ToIP, NetToIP. ToIP, NetToIP. Questions of package net: zoneless, splitFirstSlice, zzLoopback, IsIPLoopback, Protocols, IsThinWaist. Protocols, IsThinWaist. spec.NetIn, NetMapped. -/
import Derived.Test.YtnpcmmjdojdmnaaGreatDoorRg
namespace Go.Proofs.YtnpcmmjdojdmnaaGreatDoor
open Go Go.RowKit Go.Sort

/-- Components of the thin package in memory. -/
def IRow (w : World) (g o : Nat) (cs : List (Int × List UInt8)) : Prop :=
  ∀ k (h : k < cs.length), w.cell? ⟨g, o + k * 2, none⟩ = some (.int .i64 cs[k].1) ∧ ∃ p cp, w.cell? ⟨g, o + k * 2 + 1, none⟩ = some (.slice p cs[k].2.length cp) ∧ BytesAt w p cs[k].2
/-- An address in memory. -/
def MAt (w : World) (g o : Nat) (cs : List (Int × List UInt8)) : Prop :=
  ∀ k (h : k < cs.length), ∃ q, w.cell? ⟨g, o + k * 3, none⟩ = some (.string ⟨(compBytes cs[k].1 cs[k].2).toArray⟩) ∧ w.cell? ⟨g, o + k * 3 + 1, none⟩ = some (.pointer (some ⟨q, 0, none⟩)) ∧
    w.cell? ⟨g, o + k * 3 + 2, none⟩ = some (.int .i64 (headBytes cs[k].1 cs[k].2.length).length) ∧ ProtoAt 0 w q cs[k].1
theorem MAt.below {w w' : World} {g o B : Nat} {cs : List (Int × List UInt8)} (h : MAt w g o cs) (hb : Below B w w') (hg : g < B) (hB : w.heap.size ≤ B) : MAt w' g o cs := fun k hk => by
  obtain ⟨q, h1, h2, h3, h4⟩ := h k hk
  exact ⟨q, (hb.cell (p := ⟨g, _, none⟩) hg).trans h1, (hb.cell (p := ⟨g, _, none⟩) hg).trans h2, (hb.cell (p := ⟨g, _, none⟩) hg).trans h3, h4.below hb hB⟩
/-- What a row's cells are. -/
def XsOf (w : World) (cs : List (Int × List UInt8)) (k : Nat) (xs : List Value) : Prop :=
  ∀ j (h : j < k) (hc : j < cs.length), ∃ q, xs[j * 3]? = some (.string ⟨(compBytes cs[j].1 cs[j].2).toArray⟩) ∧ xs[j * 3 + 1]? = some (.pointer (some ⟨q, 0, none⟩)) ∧
    xs[j * 3 + 2]? = some (.int .i64 (headBytes cs[j].1 cs[j].2.length).length) ∧ ProtoAt 0 w q cs[j].1
theorem XsOf.below {w w' : World} {B : Nat} {cs : List (Int × List UInt8)} {k : Nat} {xs : List Value} (h : XsOf w cs k xs) (hb : Below B w w') (hB : w.heap.size ≤ B) : XsOf w' cs k xs := fun j hj hc => by
  obtain ⟨q, h1, h2, h3, h4⟩ := h j hj hc
  exact ⟨q, h1, h2, h3, h4.below hb hB⟩
theorem XsOf.snoc {w : World} {cs : List (Int × List UInt8)} {k q : Nat} {xs : List Value} (h : XsOf w cs k xs) (hl : xs.length = k * 3) (hk : k < cs.length) (hp : ProtoAt 0 w q cs[k].1) :
    XsOf w cs (k + 1) (xs ++ [.string ⟨(compBytes cs[k].1 cs[k].2).toArray⟩, .pointer (some ⟨q, 0, none⟩), .int .i64 (headBytes cs[k].1 cs[k].2.length).length]) := fun j hj hc => by
  by_cases hjk : j < k
  · obtain ⟨q', h1, h2, h3, h4⟩ := h j hjk hc
    exact ⟨q', by rw [List.getElem?_append_left (by omega)]; exact h1, by rw [List.getElem?_append_left (by omega)]; exact h2, by rw [List.getElem?_append_left (by omega)]; exact h3, h4⟩
  · obtain rfl : j = k := by omega
    refine ⟨q, ?_, ?_, ?_, hp⟩
    · rw [List.getElem?_append_right (by omega), show j * 3 - xs.length = 0 by omega]; rfl
    · rw [List.getElem?_append_right (by omega), show j * 3 + 1 - xs.length = 1 by omega]; rfl
    · rw [List.getElem?_append_right (by omega), show j * 3 + 2 - xs.length = 2 by omega]; rfl

theorem ProtoAt.keep {B : Nat} {w w' : World} {q : Nat} {c : Int} {row : Option Nat} (h : ProtoAt B w q c) (hg : w.grownBy w' row) (h1 : row ≠ some q) (h2 : ∀ g l cp, w.cell? ⟨q, 2, none⟩ = some (.slice (some ⟨g, 0, none⟩) l cp) → w.cell? ⟨g, 0, none⟩ ≠ none → row ≠ some g) : ProtoAt B w' q c := by
  obtain ⟨a1, a2, vc, ⟨g, g1, g2, rfl, g4⟩, p0, p1, p2, p3, p4, p5⟩ := h
  have hq : ∀ j, w'.cell? ⟨q, j, none⟩ = w.cell? ⟨q, j, none⟩ := fun j => World.cell?_of_block (hg.block q a2 (fun e => h1 e.symm))
  have hn := Lib.uvarint_pos c.toNat
  have hgg := h2 g _ _ p2 (by rw [g4 0 (by omega)]; simp)
  have hc : ∀ j, w'.cell? ⟨g, j, none⟩ = w.cell? ⟨g, j, none⟩ := fun j => World.cell?_of_block (hg.block g g2 (fun e => hgg e.symm))
  exact ⟨a1, Nat.lt_of_lt_of_le a2 hg.size, _, ⟨g, g1, Nat.lt_of_lt_of_le g2 hg.size, rfl, fun j hj => (hc j).trans (g4 j hj)⟩, (hq 0).trans p0, (hq 1).trans p1, (hq 2).trans p2, (hq 3).trans p3, (hq 4).trans p4, (hq 5).trans p5⟩
/-- A protocol's blocks are not a row of components that has an element. -/
theorem ProtoAt.keepRow {B : Nat} {w w' : World} {q : Nat} {c : Int} {b : Nat} {T : ByteArray} {p : Option Addr} (h : ProtoAt B w q c) (hg : w.grownBy w' (some b)) (hb0 : w.cell? ⟨b, 0, none⟩ = some (.string T)) (hb1 : w.cell? ⟨b, 1, none⟩ = some (.pointer p)) : ProtoAt B w' q c := by
  have h' := h
  obtain ⟨a1, a2, vc, ⟨g, g1, g2, rfl, g4⟩, p0, p1, p2, p3, p4, p5⟩ := h'
  have hn := Lib.uvarint_pos c.toNat
  refine h.keep hg (fun e => ?_) (fun g' l cp hc _ e => ?_)
  · obtain rfl := Option.some.inj e
    rw [p1] at hb1; cases hb1
  · obtain rfl := Option.some.inj e
    rw [p2] at hc
    injection hc with hc
    injection hc with hc
    injection hc with hc
    injection hc with hc
    subst hc
    rw [g4 0 (by omega)] at hb0; cases hb0

set_option maxRecDepth 100000 in
set_option maxHeartbeats 8000000 in
theorem address (cs : List (Int × List UInt8)) (hne : cs ≠ []) (hkn : ∀ x ∈ cs, known x.1 = true ∧ x.2.length ≤ 1000) (hn : cs.length ≤ 100) (g o cp : Nat) (w : World) (h : IRow w g o cs) :
    Calls Tryz.prog 39 #[.slice (some ⟨g, o, none⟩) cs.length cp] w fun e w' => ∃ b cap, e = .returned (.slice (some ⟨b, 0, none⟩) cs.length cap) ∧ w.heap.size ≤ b ∧ b < w'.heap.size ∧ cs.length ≤ cap ∧ MAt w' b 0 cs ∧ Below w.heap.size w w' := by
  obtain ⟨i0, hi, hz0, hz1, hz2⟩ := info_parts info50
  have HR := Lib.hid h
  have HK := Lib.hid hkn
  have HNE : Hid (0 < cs.length) := Lib.hid (by cases cs with | nil => exact absurd rfl hne | cons a r => simp)
  clear h hkn hne
  go_enter Tryz.func39, Tryz.ntmps39
  go_wp2
  go_loopw [3, 8] (fun v3 v8 wr => ∃ (k : Nat) (xs : List Value), v8 = .int .i64 k ∧ k ≤ cs.length ∧ wr.ownsRow w.heap.size 50 3 v3 k xs ∧ Hid (XsOf wr cs k xs) ∧ Below w.heap.size w wr) (fun _ v8 _ => cs.length - (intOf v8).toNat)
  case atStart => exact ⟨0, [], rfl, Nat.zero_le _, World.ownsRow_nil _ _ _ _, Lib.hid (fun j h => by omega), Below.refl _ _⟩
  case round =>
    obtain ⟨k, xs, rfl, hk, hown, hxs, hbl⟩ := hrel
    by_cases hlt : k < cs.length
    · obtain ⟨r0, p, cpl, r1, r2⟩ := HR.out k hlt
      have hgg := World.block_lt_of_cell? w _ r0
      have c0 : wr.cell? ⟨g, o + k * 2, none⟩ = some (.int .i64 cs[k].1) := (hbl.cell (p := ⟨g, o + k * 2, none⟩) hgg).trans r0
      have c1 : wr.cell? ⟨g, o + k * 2 + 1, none⟩ = some (.slice p cs[k].2.length cpl) := (hbl.cell (p := ⟨g, o + k * 2 + 1, none⟩) hgg).trans r1
      obtain ⟨hkk, hkl⟩ := HK.out cs[k] (List.getElem_mem _)
      have hB : BytesAt wr p cs[k].2 := r2.below hbl r2.lt
      have HC : Hid (∀ o', Calls Tryz.prog 28 #[.agg #[.int .i64 cs[k].1, .slice p cs[k].2.length cpl]] (wr.alloc o') fun e w' => ∃ q, e = .returned (.agg #[.string ⟨(compBytes cs[k].1 cs[k].2).toArray⟩, .pointer (some ⟨q, 0, none⟩), .int .i64 (headBytes cs[k].1 cs[k].2.length).length]) ∧ ProtoAt (wr.alloc o').heap.size w' q cs[k].1 ∧ Below (wr.alloc o').heap.size (wr.alloc o') w') :=
        Lib.hid fun o' => component cs[k].1 hkk p cs[k].2 cpl _ (hB.below ((Below.refl _ _).alloc (Nat.le_refl _) _) hB.lt) (by omega)
      have HX0 := Lib.hid (And.intro c0 c1)
      clear hB r0 r1 r2 hkk hkl
      go_wp2_with (go_at_call 28; (with_reducible refine (HC.out _).mono ?_); rintro e w2 ⟨q, rfl, hp, hb⟩; refine Hid.out ?_)
      refine Lib.hid ?_
      have hb2 : Below wr.heap.size wr w2 := ((Below.refl _ _).alloc (Nat.le_refl _) _).trans (hb.mono (by simp))
      have hown2 : w2.ownsRow w.heap.size 50 3 u3 k xs := hown.kept (row := none) ⟨hb2.os, hb2.tape, hb2.output, hb2.size, fun k hk _ => hb2.block k hk⟩ (by cases hh : Value.ownBlock _ <;> simp)
      have HXS2 := Lib.hid (hxs.out.below hb2 (Nat.le_refl _))
      have hbl2 : Below w.heap.size w w2 := hbl.trans (hb2.mono hbl.size)
      have hz2' := hbl2.size
      have HBL2 := Lib.hid hbl2
      have HP2 : Hid (ProtoAt (wr.heap.size + 1) w2 q cs[k].1) := Lib.hid (by simpa using hp)
      have HLT := Lib.hid (fun b (h : Value.ownBlock u3 = some b) => (hown.lt b h).2)
      clear hb hb2 hp hown hxs hbl hbl2 c0 c1
      go_wp2_with (at_builtin; refine wpList_append_own _ rfl (.tmp 12) (.tmp 15) 56 rfl w.heap.size 50 i0 (.agg #[.string ⟨#[]⟩, .pointer none, .int .i64 0]) 3 32 Tryz.underlying56 hi hz0 hz1 hz2 rfl (by decide) _ _ _ rfl (hown2.alloc _) ⟨w2.heap.size, 0, none⟩ 1 1 [.string ⟨(compBytes cs[k].1 cs[k].2).toArray⟩, .pointer (some ⟨q, 0, none⟩), .int .i64 (headBytes cs[k].1 cs[k].2.length).length] rfl rfl (cell_three_new _ _ _ _ _) ?c2 ?c3 ?c4 ?c5 ?_)
      case c2 =>
        intro u hu
        simp only [List.mem_cons, List.not_mem_nil, or_false] at hu
        rcases hu with rfl | rfl | rfl <;> rfl
      case c3 => unfold maxLen; omega
      case c4 => omega
      case c5 => simp; omega
      intro v' w3 hown3 hgrow _
      have hb3 : Below w.heap.size w w3 := (HBL2.out.alloc hz2' _).grown hgrow (by simp; omega) (fun k hk => (hown2.lt k hk).1)
      have hP3 : ProtoAt 0 w3 q cs[k].1 := by
        have h2 : ProtoAt (wr.heap.size + 1) (w2.alloc (.cells #[.string ⟨(compBytes cs[k].1 cs[k].2).toArray⟩, .pointer (some ⟨q, 0, none⟩), .int .i64 (headBytes cs[k].1 cs[k].2.length).length] 50)) q cs[k].1 := HP2.out.below ((Below.refl _ _).alloc (Nat.le_refl _) _) (Nat.le_refl _)
        obtain ⟨a1, a2, vc, ⟨gg, g1, g2, rfl, g4⟩, p0, p1, p2, p3, p4, p5⟩ := h2
        refine (ProtoAt.keep (B := wr.heap.size + 1) ⟨a1, a2, _, ⟨gg, g1, g2, rfl, g4⟩, p0, p1, p2, p3, p4, p5⟩ hgrow (fun e => ?_) (fun g' l' cp' hc _ e => ?_)).mono (Nat.zero_le _)
        · have := HLT.out q e; omega
        · have := HLT.out g' e
          rw [p2] at hc
          injection hc with hc; injection hc with hc; injection hc with hc; injection hc with hc
          omega
      have hX3 : XsOf w3 cs k xs := by
        intro j hj hc
        obtain ⟨q', x1, x2, x3, x4⟩ := HXS2.out j hj hc
        refine ⟨q', x1, x2, x3, ?_⟩
        have h4 : ProtoAt 0 (w2.alloc (.cells #[.string ⟨(compBytes cs[k].1 cs[k].2).toArray⟩, .pointer (some ⟨q, 0, none⟩), .int .i64 (headBytes cs[k].1 cs[k].2.length).length] 50)) q' cs[j].1 := x4.below ((Below.refl _ _).alloc (Nat.le_refl _) _) (Nat.le_refl _)
        cases hrow : Value.ownBlock u3 with
        | none => rw [hrow] at hgrow; exact h4.keep hgrow (by simp) (by simp)
        | some b =>
          rw [hrow] at hgrow
          obtain ⟨q0, y1, y2, _, _⟩ := HXS2.out 0 (by omega) (by omega)
          have hcells := (hown2.alloc (.cells #[.string ⟨(compBytes cs[k].1 cs[k].2).toArray⟩, .pointer (some ⟨q, 0, none⟩), .int .i64 (headBytes cs[k].1 cs[k].2.length).length] 50)).cells hrow
          have z0 := hcells 0 _ y1
          have z1 := hcells 1 _ y2
          rw [Addr.add_lit] at z0 z1
          exact h4.keepRow hgrow z0 z1
      have hX4 := hX3.snoc hown2.1 hlt hP3
      have HO3 := Lib.hid (And.intro hown3 (And.intro hX4 hb3))
      clear hown3 hX3 hX4 hb3 hP3 hgrow hown2
      go_wp2
      obtain ⟨hown3, hX4, hb3⟩ := HO3.out
      exact ⟨⟨k + 1, _, by go_num, by omega, hown3, Lib.hid hX4, hb3⟩, by simp [intOf]; omega⟩
    · have hke : k = cs.length := by omega
      subst hke
      have HO := Lib.hid hown
      rcases hown.2 with ⟨_, h⟩ | ⟨b, cap, cur, hv, hbase, hheap, hle, hmax, hcur, htake⟩
      · have := HNE.out; omega
      subst hv
      have HA : Hid (MAt wr b 0 cs) := Lib.hid fun j hj => by
        obtain ⟨q, x1, x2, x3, x4⟩ := hxs.out j hj hj
        exact ⟨q, by rw [Nat.zero_add, HO.out.cellAt _ (by omega)]; exact x1, by rw [Nat.zero_add, HO.out.cellAt _ (by omega)]; exact x2, by rw [Nat.zero_add, HO.out.cellAt _ (by omega)]; exact x3, x4⟩
      have hbl' := (hown.lt b rfl).2
      clear hown hheap htake hcur
      go_wp2
      go_ret
      exact ⟨b, cap, rfl, hbase, hbl', hle, HA.out, hbl⟩
end Go.Proofs.YtnpcmmjdojdmnaaGreatDoor
namespace Go.Proofs.YtnpcmmjdojdmnaaGreatDoor
open Go Go.RowKit Go.Sort

theorem field83 (a v d e f : Value) (c : Int) (w : World) : (Instr.field 83 (.agg #[a, .int .i64 c, v, d, e, f]) 1).run Tryz.prog w = .ok (.int .i64 c) w := by kernel_rfl

set_option maxRecDepth 100000 in
set_option maxHeartbeats 8000000 in
theorem toIP (c : Int) (l : List UInt8) (rest : List (Int × List UInt8)) (hc : c = 4 ∨ c = 41) (g o cp : Nat) (w : World) (h : MAt w g o ((c, l) :: rest)) :
    Calls Tryz.prog 45 #[.slice (some ⟨g, o, none⟩) (rest.length + 1) cp] w fun e w' => ∃ b cpb, e = .returned (.tuple #[.slice (some ⟨b, 0, none⟩) l.length cpb, .nilIface]) ∧ w.heap.size ≤ b ∧ b < w'.heap.size ∧ l.length ≤ cpb ∧ At w' b 0 l ∧ Below w.heap.size w w' := by
  obtain ⟨q, h0, h1, h2, h3⟩ := h 0 (by simp)
  have c0 : w.cell? ⟨g, o, none⟩ = some (.string ⟨(compBytes c l).toArray⟩) := by simpa using h0
  have c1 : w.cell? ⟨g, o + 1, none⟩ = some (.pointer (some ⟨q, 0, none⟩)) := by simpa using h1
  have hps : ¬ psz c < 0 := by rcases hc with rfl | rfl <;> decide
  have hcb : compBytes c l = Lib.uvarint c.toNat ++ l := by rw [compBytes, if_neg hps, List.append_nil]
  have hhd : (headBytes c l.length).length = (Lib.uvarint c.toNat).length := by simp [headBytes, hps]
  have c2 : w.cell? ⟨g, o + 2, none⟩ = some (.int .i64 (Lib.uvarint c.toNat).length) := by rw [← hhd]; simpa using h2
  have h3' : ProtoAt 0 w q c := h3
  obtain ⟨T, hT⟩ : ∃ T : ByteArray, T = ⟨(compBytes c l).toArray⟩ := ⟨_, rfl⟩
  rw [← hT] at c0
  obtain ⟨n, hn⟩ : ∃ n, n = (Lib.uvarint c.toNat).length := ⟨_, rfl⟩
  rw [← hn] at c2
  have hx : T.extract n T.size = ⟨l.toArray⟩ := by rw [hT, hcb, hn]; exact comp_extract _ _
  have hk : n ≤ T.size := by
    rw [hT, hcb, hn]
    show _ ≤ ((Lib.uvarint c.toNat ++ l).toArray).size
    rw [List.size_toArray, List.length_append]; omega
  have HP : Hid (∀ o', Calls Tryz.prog 67 #[.pointer (some ⟨w.heap.size, 0, none⟩)] (w.alloc (.cells #[.string T, .pointer (some ⟨q, 0, none⟩), .int .i64 n] o')) fun e w' => ∃ gv nv : Nat, e = .returned (.agg #[.string (pname c), .int .i64 c, .slice (some ⟨gv, 0, none⟩) nv nv, .int .i64 (psz c), .bool (ppath c), tcv c]) ∧ Below (w.heap.size + 1) (w.alloc (.cells #[.string T, .pointer (some ⟨q, 0, none⟩), .int .i64 n] o')) w') := Lib.hid fun o' => by
    have := compProtocol w.heap.size 0 q 0 c (w.alloc (.cells #[.string T, .pointer (some ⟨q, 0, none⟩), .int .i64 n] o')) (by simp [go_sem]) (h3'.below ((Below.refl _ _).alloc (Nat.le_refl _) _) (Nat.le_refl _))
    simpa using this
  have HR : Hid (∀ w2, Below (w.heap.size + 1) (w.alloc (.cells #[.string T, .pointer (some ⟨q, 0, none⟩), .int .i64 n] 50)) w2 → Calls Tryz.prog 57 #[.pointer (some ⟨w.heap.size, 0, none⟩)] w2 fun e w' => ∃ cp, e = .returned (.slice (some ⟨w2.heap.size, 0, none⟩) l.length cp) ∧ At w' w2.heap.size 0 l ∧ w2.heap.size < w'.heap.size ∧ l.length ≤ cp ∧ Below w2.heap.size w2 w') := Lib.hid fun w2 hb => by
    have hcell : ∀ j, w2.cell? ⟨w.heap.size, j, none⟩ = (w.alloc (.cells #[.string T, .pointer (some ⟨q, 0, none⟩), .int .i64 n] 50)).cell? ⟨w.heap.size, j, none⟩ := fun j => hb.cell (p := ⟨w.heap.size, j, none⟩) (Nat.lt_succ_self _)
    have := compRaw w.heap.size 0 n T ⟨l.toArray⟩ w2 ((hcell 0).trans (by simp [go_sem])) ((hcell 2).trans (by simp [go_sem])) hk hx
    have e : (⟨l.toArray⟩ : ByteArray).size = l.length := List.size_toArray ..
    rw [e] at this
    exact this
  have hlen : 0 < ((rest.length : Int) + 1) := by omega
  have hF := field83
  clear h0 h1 h2 h3 h3' h hx hk hT hn hcb hhd hps
  rcases hc with rfl | rfl
  all_goals
    go_enter Tryz.func45, Tryz.ntmps45
    go_wp2
    refine wp_loop_rounds 1 ?_
    rw [rounds_succ]
    go_wp2_with (first
      | (go_at_call 67; (with_reducible refine (HP.out _).mono ?_); rintro e w2 ⟨gv, nv, rfl, hb⟩)
      | (go_at_call 57; (with_reducible refine (HR.out _ hb).mono ?_); rintro e w3 ⟨cpb, rfl, hat, hlt, hcp, hb3⟩))
    go_ret2
    have hsz := hb.size
    simp at hsz
    exact ⟨_, cpb, rfl, by omega, hlt, hcp, hat, (((Below.refl _ _).alloc (Nat.le_refl _) _).trans (hb.mono (Nat.le_succ _))).trans (hb3.mono (by omega))⟩

set_option maxRecDepth 100000 in
set_option maxHeartbeats 8000000 in
theorem netToIP (c : Int) (l : List UInt8) (rest : List (Int × List UInt8)) (hc : c = 4 ∨ c = 41) (hkn : ∀ x ∈ (c, l) :: rest, known x.1 = true ∧ x.2.length ≤ 1000) (hn : rest.length ≤ 90) (g o cp : Nat) (w : World) (h : IRow w g o ((c, l) :: rest)) :
    Calls Tryz.prog 23 #[.slice (some ⟨g, o, none⟩) (rest.length + 1) cp] w fun e w' => ∃ b cpb, e = .returned (.tuple #[.slice (some ⟨b, 0, none⟩) l.length cpb, .bool true]) ∧ w.heap.size ≤ b ∧ b < w'.heap.size ∧ l.length ≤ cpb ∧ At w' b 0 l ∧ Below w.heap.size w w' := by
  have HA : Hid (Calls Tryz.prog 39 #[.slice (some ⟨g, o, none⟩) (rest.length + 1) cp] w fun e w' => ∃ b cap, e = .returned (.slice (some ⟨b, 0, none⟩) (rest.length + 1) cap) ∧ w.heap.size ≤ b ∧ b < w'.heap.size ∧ rest.length + 1 ≤ cap ∧ MAt w' b 0 ((c, l) :: rest) ∧ Below w.heap.size w w') :=
    Lib.hid (address ((c, l) :: rest) (by simp) hkn (by simp; omega) g o cp w h)
  have HT := Lib.hid (fun g o cp w h => toIP c l rest hc g o cp w h)
  clear h hkn hn
  go_enter Tryz.func23, Tryz.ntmps23
  go_wp2_with (first
    | (go_at_call 39; (with_reducible refine HA.out.mono ?_); rintro e w2 ⟨b, cap, rfl, hb1, hb2, hcap, hm, hb⟩)
    | (go_at_call 45; (with_reducible refine (HT.out _ _ _ _ hm).mono ?_); rintro e w3 ⟨b3, cpb, rfl, k1, k2, k3, k4, hb3⟩))
  go_ret2
  have hsz := hb.size
  exact ⟨b3, cpb, rfl, by omega, k2, k3, k4, hb.trans (hb3.mono hsz)⟩
end Go.Proofs.YtnpcmmjdojdmnaaGreatDoor
namespace Go.Proofs.YtnpcmmjdojdmnaaGreatDoor
open Go Go.RowKit Go.Sort

set_option maxRecDepth 100000 in
set_option maxHeartbeats 4000000 in
theorem split1 (p : Option Addr) (cp : Nat) (w : World) : Calls Tryz.prog 78 #[.slice p 1 cp] w fun e w' => e = .returned (.tuple #[.slice p 1 cp, .slice none 0 0]) ∧ Below w.heap.size w w' := by
  go_enter Tryz.func78, Tryz.ntmps78
  go_wp2
  go_ret2
  exact ⟨rfl, Below.refl _ _⟩

set_option maxRecDepth 100000 in
set_option maxHeartbeats 4000000 in
theorem split2 (g o cp : Nat) (hcp : 2 ≤ cp) (w : World) : Calls Tryz.prog 78 #[.slice (some ⟨g, o, none⟩) 2 cp] w fun e w' => ∃ r, e = .returned (.tuple #[.slice (some ⟨g, o, none⟩) 1 cp, r]) ∧ Below w.heap.size w w' := by
  have h1 : (1 : Int) ≤ (cp : Int) := by omega
  have h2 : ¬ cp = 1 := by omega
  have h3 : ¬ 1 = cp := by omega
  go_enter Tryz.func78, Tryz.ntmps78
  go_wp2
  go_region
  go_wp2
  go_ret2
  exact ⟨_, rfl, (Below.refl _ _).drew⟩

/-- The head of an address is split off. -/
theorem splitHead (g o n cp : Nat) (hn : n = 1 ∨ n = 2) (hcp : n ≤ cp) (w : World) : Calls Tryz.prog 78 #[.slice (some ⟨g, o, none⟩) n cp] w fun e w' => ∃ r, e = .returned (.tuple #[.slice (some ⟨g, o, none⟩) 1 cp, r]) ∧ Below w.heap.size w w' := by
  rcases hn with rfl | rfl
  · exact (split1 _ cp w).mono fun e w' ⟨h1, h2⟩ => ⟨_, h1, h2⟩
  · exact split2 g o cp hcp w

set_option maxRecDepth 100000 in
set_option maxHeartbeats 4000000 in
theorem zoneless (g o n cp q : Nat) (c : Int) (hn : n = 1 ∨ n = 2) (hcp : n ≤ cp) (w : World) (h1 : w.cell? ⟨g, o + 1, none⟩ = some (.pointer (some ⟨q, 0, none⟩))) (h2 : w.cell? ⟨q, 1, none⟩ = some (.int .i64 c)) (hc : (c == 42) = false) :
    Calls Tryz.prog 76 #[.slice (some ⟨g, o, none⟩) n cp] w fun e w' => e = .returned (.slice (some ⟨g, o, none⟩) n cp) ∧ Below w.heap.size w w' := by
  have HS := Lib.hid (splitHead g o n cp hn hcp w)
  have hg := World.block_lt_of_cell? w _ h1
  have hq := World.block_lt_of_cell? w _ h2
  have HC : Hid (∀ w2, Below w.heap.size w w2 → Calls Tryz.prog 56 #[.pointer (some ⟨g, o, none⟩)] w2 fun e w' => e = .returned (.int .i64 c) ∧ w2 = w') := Lib.hid fun w2 hb => compCode g o q c w2 ((hb.cell (p := ⟨g, o + 1, none⟩) hg).trans h1) ((hb.cell (p := ⟨q, 1, none⟩) hq).trans h2)
  clear h1 h2
  go_enter Tryz.func76, Tryz.ntmps76
  go_wp2_with (first
    | (go_at_call 78; (with_reducible refine HS.out.mono ?_); rintro e w2 ⟨r, rfl, hb⟩)
    | (go_at_call 56; (with_reducible refine (HC.out _ hb).mono ?_); rintro e w3 ⟨rfl, rfl⟩))
  go_ret
  exact ⟨rfl, hb⟩

set_option maxRecDepth 100000 in
set_option maxHeartbeats 4000000 in
theorem zzLoopback4 (a b c d : UInt8) (ha : a.toNat = 127) (g o cp : Nat) (w : World) (h : At w g o [a, b, c, d]) :
    Calls Tryz.prog 79 #[.slice (some ⟨g, o, none⟩) 4 cp] w fun e w' => e = .returned (.bool true) ∧ w = w' := by
  have c0 : w.cell? ⟨g, o, none⟩ = some (.int .u8 127) := by
    have := h 0 (by simp)
    rw [show ([a, b, c, d] : List UInt8)[0] = a from rfl, ha] at this
    exact this
  go_enter Tryz.func79, Tryz.ntmps79
  go_wp2_with (go_at_call 97; (with_reducible refine (to4_self _ _ _).mono ?_); rintro e w2 ⟨rfl, rfl⟩)
  go_ret
  exact ⟨rfl, rfl⟩

set_option maxRecDepth 100000 in
set_option maxHeartbeats 4000000 in
theorem loopNo (g o n cp q : Nat) (c : Int) (hn : n = 1 ∨ n = 2) (hcp : n ≤ cp) (w : World) (h1 : w.cell? ⟨g, o + 1, none⟩ = some (.pointer (some ⟨q, 0, none⟩))) (h2 : w.cell? ⟨q, 1, none⟩ = some (.int .i64 c)) (hc : (c == 42) = false) (hc4 : (c == 4) = false) (hc6 : (c == 41) = false) :
    Calls Tryz.prog 60 #[.slice (some ⟨g, o, none⟩) n cp] w fun e w' => e = .returned (.bool false) ∧ Below w.heap.size w w' := by
  have HZ := Lib.hid (zoneless g o n cp q c hn hcp w h1 h2 hc)
  have HS := Lib.hid (fun wx => splitHead g o n cp hn hcp wx)
  have hg := World.block_lt_of_cell? w _ h1
  have hq := World.block_lt_of_cell? w _ h2
  have HC : Hid (∀ w2, Below w.heap.size w w2 → Calls Tryz.prog 56 #[.pointer (some ⟨g, o, none⟩)] w2 fun e w' => e = .returned (.int .i64 c) ∧ w2 = w') := Lib.hid fun w2 hb => compCode g o q c w2 ((hb.cell (p := ⟨g, o + 1, none⟩) hg).trans h1) ((hb.cell (p := ⟨q, 1, none⟩) hq).trans h2)
  have hnil : ∀ w, (binOp .eql 56 (.slice (some ⟨g, o, none⟩) n cp) (.slice none 0 0)).run Tryz.prog w = .ok (.bool false) w := fun w => by
    simp [binOp, run_equal_slice_nil w 56 50 (some ⟨g, o, none⟩) n cp Tryz.underlying56, Result.andThen]
  clear h1 h2
  go_enter Tryz.func60, Tryz.ntmps60
  go_wp2_with (first
    | (go_at_call 76; (with_reducible refine HZ.out.mono ?_); rintro e w2 ⟨rfl, hb⟩)
    | (go_at_call 78; (with_reducible refine (HS.out _).mono ?_); rintro e w3 ⟨r, rfl, hb3⟩; have hb4 := hb.trans (hb3.mono hb.size))
    | (go_at_call 56; (with_reducible refine (HC.out _ hb4).mono ?_); rintro e w5 ⟨rfl, rfl⟩))
  go_ret
  exact ⟨rfl, hb4⟩

set_option maxRecDepth 100000 in
set_option maxHeartbeats 4000000 in
theorem loopYes (g o n cp : Nat) (l : List UInt8) (rest : List (Int × List UInt8)) (hl : l = [127, 0, 0, 1]) (hn : n = 1 ∨ n = 2) (hcp : n ≤ cp) (w : World) (h : MAt w g o ((4, l) :: rest)) :
    Calls Tryz.prog 60 #[.slice (some ⟨g, o, none⟩) n cp] w fun e w' => e = .returned (.bool true) ∧ Below w.heap.size w w' := by
  obtain ⟨q, h0, h1, h2, h3⟩ := h 0 (by simp)
  have c0 : w.cell? ⟨g, o, none⟩ = some (.string ⟨(compBytes 4 l).toArray⟩) := by simpa using h0
  have c1 : w.cell? ⟨g, o + 1, none⟩ = some (.pointer (some ⟨q, 0, none⟩)) := by simpa using h1
  have hcb : compBytes 4 l = Lib.uvarint 4 ++ l := by rw [compBytes, if_neg (by decide), List.append_nil]; rfl
  have hhd : (headBytes 4 l.length).length = (Lib.uvarint 4).length := by simp [headBytes, show ¬ psz 4 < 0 by decide]
  have c2 : w.cell? ⟨g, o + 2, none⟩ = some (.int .i64 (Lib.uvarint 4).length) := by rw [← hhd]; simpa using h2
  obtain ⟨a1, a2, vc, hf, p0, p1, -⟩ := (h3 : ProtoAt 0 w q 4)
  have HZ := Lib.hid (zoneless g o n cp q 4 hn hcp w c1 p1 (by decide))
  have HS := Lib.hid (fun wx => splitHead g o n cp hn hcp wx)
  have hg := World.block_lt_of_cell? w _ c1
  have HC : Hid (∀ w2, Below w.heap.size w w2 → Calls Tryz.prog 56 #[.pointer (some ⟨g, o, none⟩)] w2 fun e w' => e = .returned (.int .i64 4) ∧ w2 = w') := Lib.hid fun w2 hb => compCode g o q 4 w2 ((hb.cell (p := ⟨g, o + 1, none⟩) hg).trans c1) ((hb.cell (p := ⟨q, 1, none⟩) a2).trans p1)
  have HR : Hid (∀ w2, Below w.heap.size w w2 → Calls Tryz.prog 57 #[.pointer (some ⟨g, o, none⟩)] w2 fun e w' => ∃ cp, e = .returned (.slice (some ⟨w2.heap.size, 0, none⟩) 4 cp) ∧ At w' w2.heap.size 0 [127, 0, 0, 1] ∧ Below w2.heap.size w2 w') := Lib.hid fun w2 hb => by
    have := compRaw g o (Lib.uvarint 4).length ⟨(compBytes 4 l).toArray⟩ ⟨l.toArray⟩ w2 ((hb.cell (p := ⟨g, o, none⟩) hg).trans c0) ((hb.cell (p := ⟨g, o + 2, none⟩) hg).trans c2) (by
      rw [hcb]; show _ ≤ ((Lib.uvarint 4 ++ l).toArray).size; rw [List.size_toArray, List.length_append]; omega) (by rw [hcb]; exact comp_extract _ _)
    refine this.mono ?_
    rintro e w' ⟨cp', rfl, hat, _, _, hb'⟩
    subst hl
    exact ⟨cp', rfl, hat, hb'⟩
  have hnil : ∀ w, (binOp .eql 56 (.slice (some ⟨g, o, none⟩) n cp) (.slice none 0 0)).run Tryz.prog w = .ok (.bool false) w := fun w => by
    simp [binOp, run_equal_slice_nil w 56 50 (some ⟨g, o, none⟩) n cp Tryz.underlying56, Result.andThen]
  clear h h0 h1 h2 c0 c1 c2 hcb hhd p0 p1 hf
  go_enter Tryz.func60, Tryz.ntmps60
  go_wp2_with (first
    | (go_at_call 76; (with_reducible refine HZ.out.mono ?_); rintro e w2 ⟨rfl, hb⟩)
    | (go_at_call 78; (with_reducible refine (HS.out _).mono ?_); rintro e w3 ⟨r, rfl, hb3⟩; have hb4 := hb.trans (hb3.mono hb.size))
    | (go_at_call 56; (with_reducible refine (HC.out _ hb4).mono ?_); rintro e w5 ⟨rfl, rfl⟩)
    | (go_at_call 57; (with_reducible refine (HR.out _ hb4).mono ?_); rintro e w6 ⟨cp6, rfl, hat, hb6⟩)
    | (go_at_call 79; (with_reducible refine (zzLoopback4 127 0 0 1 rfl _ _ _ _ hat).mono ?_); rintro e w7 ⟨rfl, rfl⟩))
  go_ret
  exact ⟨rfl, hb4.trans (hb6.mono hb4.size)⟩
end Go.Proofs.YtnpcmmjdojdmnaaGreatDoor
namespace Go.Proofs.YtnpcmmjdojdmnaaGreatDoor
open Go Go.RowKit Go.Sort

theorem info83 : (Tryz.prog.info? 83).map (fun i => (i.zero, i.size, i.bytes)) = some (some (.agg #[.string ⟨#[]⟩, .int .i64 0, .slice none 0 0, .int .i64 0, .bool false, .nilIface]), 6, 80) := by kernel_rfl
theorem cell_six_new (w : World) (x0 x1 x2 x3 x4 x5 : Value) (t : TypeId) : ∀ j u, [x0, x1, x2, x3, x4, x5][j]? = some u → (w.alloc (.cells #[x0, x1, x2, x3, x4, x5] t)).cell? ((⟨w.heap.size, 0, none⟩ : Addr).add j) = some u := by
  intro j u hj
  rw [Addr.add_lit, Nat.zero_add, World.cell?_alloc_new]
  simpa using hj

set_option maxRecDepth 100000 in
set_option maxHeartbeats 8000000 in
theorem protocols (cs : List (Int × List UInt8)) (hn : 1 ≤ cs.length ∧ cs.length ≤ 100) (g o cp : Nat) (w : World) (h : MAt w g o cs) :
    Calls Tryz.prog 77 #[.slice (some ⟨g, o, none⟩) cs.length cp] w fun e w' => ∃ b cap, e = .returned (.slice (some ⟨b, 0, none⟩) cs.length cap) ∧ (∀ j (hj : j < cs.length), w'.cell? ⟨b, j * 6 + 1, none⟩ = some (.int .i64 cs[j].1)) ∧ Below w.heap.size w w' := by
  obtain ⟨i0, hi, hz0, hz1, hz2⟩ := info_parts info83
  have HM := Lib.hid h
  have HN := Lib.hid hn
  clear h hn
  go_enter Tryz.func77, Tryz.ntmps77
  go_wp2_with (at_make; refine wpList_make_own _ rfl (.const (.int .i64 0)) (.tmp 7) 105 rfl w.heap.size 83 i0 (.agg #[.string ⟨#[]⟩, .int .i64 0, .slice none 0 0, .int .i64 0, .bool false, .nilIface]) 6 Tryz.underlying105 hi hz0 hz1 .i64 .i64 _ cs.length rfl rfl rfl ?c1 ?c2 (Nat.le_refl _) ?_)
  case c1 => rw [hz2]; have := HN.out; omega
  case c2 => unfold maxLen; have := HN.out; omega
  intro w1 hown1 hgrow1
  have hbl1 : Below w.heap.size w w1 := ⟨hgrow1.os, hgrow1.tape, hgrow1.output, hgrow1.size, fun k hk => hgrow1.block k hk (by simp)⟩
  clear hgrow1
  go_wp2
  go_loopw [3, 11] (fun v3 v11 wr => ∃ (k : Nat) (xs : List Value), v11 = .int .i64 k ∧ k ≤ cs.length ∧ wr.ownsRow w.heap.size 83 6 v3 k xs ∧ Hid (∀ j (h : j < k) (hc : j < cs.length), xs[j * 6 + 1]? = some (.int .i64 cs[j].1)) ∧ Below w.heap.size w wr) (fun _ v11 _ => cs.length - (intOf v11).toNat)
  case atStart => exact ⟨0, [], rfl, Nat.zero_le _, hown1, Lib.hid (fun j h => by omega), hbl1⟩
  case round =>
    obtain ⟨k, xs, rfl, hk, hown, hxs, hbl⟩ := hrel
    clear hown1 hbl1
    by_cases hlt : k < cs.length
    · obtain ⟨q, h0, h1, h2, h3⟩ := HM.out k hlt
      have hgg := World.block_lt_of_cell? w _ h0
      have c0 : wr.cell? ⟨g, o + k * 3, none⟩ = some (.string ⟨(compBytes cs[k].1 cs[k].2).toArray⟩) := (hbl.cell (p := ⟨g, o + k * 3, none⟩) hgg).trans h0
      have c1 : wr.cell? ⟨g, o + k * 3 + 1, none⟩ = some (.pointer (some ⟨q, 0, none⟩)) := (hbl.cell (p := ⟨g, o + k * 3 + 1, none⟩) hgg).trans h1
      have c2 : wr.cell? ⟨g, o + k * 3 + 2, none⟩ = some (.int .i64 (headBytes cs[k].1 cs[k].2.length).length) := (hbl.cell (p := ⟨g, o + k * 3 + 2, none⟩) hgg).trans h2
      have hp : ProtoAt 0 wr q cs[k].1 := h3.below hbl (Nat.le_refl _)
      have hlen := hown.1
      have HX : Hid (∀ x0 x2 x3 x4 x5 : Value, ∀ j (h : j < k + 1) (hc : j < cs.length), (xs ++ [x0, .int .i64 cs[k].1, x2, x3, x4, x5])[j * 6 + 1]? = some (.int .i64 cs[j].1)) := Lib.hid fun x0 x2 x3 x4 x5 j hj hc => by
        by_cases hjk : j < k
        · rw [List.getElem?_append_left (by omega)]; exact hxs.out j hjk hc
        · obtain rfl : j = k := by omega
          rw [List.getElem?_append_right (by omega), show j * 6 + 1 - xs.length = 1 by omega]; rfl
      have hown' := hown
      have HP : Hid (∀ o1 o2 o3, Calls Tryz.prog 67 #[.pointer (some ⟨wr.heap.size, 0, none⟩)] (wr.alloc (.cells #[o1, .pointer (some ⟨q, 0, none⟩), o2] o3)) fun e w' => ∃ gv nv : Nat, e = .returned (.agg #[.string (pname cs[k].1), .int .i64 cs[k].1, .slice (some ⟨gv, 0, none⟩) nv nv, .int .i64 (psz cs[k].1), .bool (ppath cs[k].1), tcv cs[k].1]) ∧ Below (wr.heap.size + 1) (wr.alloc (.cells #[o1, .pointer (some ⟨q, 0, none⟩), o2] o3)) w') := Lib.hid fun o1 o2 o3 => by
        have := compProtocol wr.heap.size 0 q 0 cs[k].1 (wr.alloc (.cells #[o1, .pointer (some ⟨q, 0, none⟩), o2] o3)) (by simp [go_sem]) (hp.below ((Below.refl _ _).alloc (Nat.le_refl _) _) (Nat.le_refl _))
        simpa using this
      have ht := tcv_form cs[k].1
      have hn2 : cs.length ≤ 100 := HN.out.2
      clear h0 h1 h2 h3 hp hxs
      generalize tcv cs[k].1 = tc at *
      generalize pname cs[k].1 = pn at *
      generalize psz cs[k].1 = ps at *
      generalize ppath cs[k].1 = pt at *
      generalize (⟨(compBytes cs[k].1 cs[k].2).toArray⟩ : ByteArray) = T at *
      generalize (headBytes cs[k].1 cs[k].2.length).length = hdl at *
      generalize hck : cs[k].1 = ck at *
      clear hck
      rcases ht with rfl | ⟨tx, rfl⟩
      all_goals
        go_wp2_with (go_at_call 67; (with_reducible refine (HP.out _ _ _).mono ?_); rintro e w2 ⟨gv, nv, rfl, hb⟩; refine Hid.out ?_)
        refine Lib.hid ?_
        have hb2 : Below wr.heap.size wr w2 := ((Below.refl _ _).alloc (Nat.le_refl _) _).trans (hb.mono (Nat.le_succ _))
        have hown2 : w2.ownsRow w.heap.size 83 6 u3 k xs := hown.kept (row := none) ⟨hb2.os, hb2.tape, hb2.output, hb2.size, fun k hk _ => hb2.block k hk⟩ (by cases hh : Value.ownBlock _ <;> simp)
        have hbl2 : Below w.heap.size w w2 := hbl.trans (hb2.mono hbl.size)
        have hz2' := hbl2.size
        have HBL2 := Lib.hid hbl2
        clear hb hb2 hown hown' hbl hbl2 c0 c1 c2
        go_wp2_with (at_builtin; refine wpList_append_own _ rfl (.tmp 15) (.tmp 17) 105 rfl w.heap.size 83 i0 (.agg #[.string ⟨#[]⟩, .int .i64 0, .slice none 0 0, .int .i64 0, .bool false, .nilIface]) 6 80 Tryz.underlying105 hi hz0 hz1 hz2 rfl (by decide) _ _ _ rfl (hown2.alloc _) ⟨w2.heap.size, 0, none⟩ 1 1 [_, _, _, _, _, _] rfl rfl (cell_six_new _ _ _ _ _ _ _ _) ?c2 ?c3 ?c4 ?c5 ?_)
        case c2 =>
          intro u hu
          simp only [List.mem_cons, List.not_mem_nil, or_false] at hu
          rcases hu with rfl | rfl | rfl | rfl | rfl | rfl <;> rfl
        case c3 => unfold maxLen; have := HN.out; omega
        case c4 => have := HN.out; omega
        case c5 => simp; omega
        intro v' w3 hown3 hgrow _
        have hb3 : Below w.heap.size w w3 := (HBL2.out.alloc hz2' _).grown hgrow (by simp; omega) (fun k hk => (hown2.lt k hk).1)
        have HO3 := Lib.hid (And.intro hown3 hb3)
        clear hown3 hb3 hgrow hown2
        go_wp2
        obtain ⟨hown3, hb3⟩ := HO3.out
        exact ⟨⟨k + 1, _, by go_num, by omega, hown3, Lib.hid (HX.out _ _ _ _ _), hb3⟩, by simp [intOf]; omega⟩
    · have hke : k = cs.length := by omega
      subst hke
      have HO := Lib.hid hown
      rcases hown.2 with ⟨_, h⟩ | ⟨b, cap, cur, hv, hbase, hheap, hle, hmax, hcur, htake⟩
      · have := HN.out; omega
      subst hv
      have HA : Hid (∀ j (hj : j < cs.length), wr.cell? ⟨b, j * 6 + 1, none⟩ = some (.int .i64 cs[j].1)) := Lib.hid fun j hj => by
        rw [HO.out.cellAt _ (by omega)]; exact hxs.out j hj hj
      clear hown hheap htake hcur
      go_wp2
      go_ret
      exact ⟨b, cap, rfl, HA.out, hbl⟩

set_option maxRecDepth 100000 in
set_option maxHeartbeats 8000000 in
theorem thinWaist (g o cp : Nat) (hcp : 2 ≤ cp) (l m : List UInt8) (w : World) (h : MAt w g o [(4, l), (273, m)]) :
    Calls Tryz.prog 59 #[.slice (some ⟨g, o, none⟩) 2 cp] w fun e w' => e = .returned (.bool true) ∧ Below w.heap.size w w' := by
  obtain ⟨q, h0, h1, h2, h3⟩ := h 0 (by simp)
  have c1 : w.cell? ⟨g, o + 1, none⟩ = some (.pointer (some ⟨q, 0, none⟩)) := by simpa using h1
  obtain ⟨a1, a2, vc, hf, p0, p1, -⟩ := (h3 : ProtoAt 0 w q 4)
  have hg := World.block_lt_of_cell? w _ c1
  have HZ := Lib.hid (zoneless g o 2 cp q 4 (Or.inr rfl) hcp w c1 p1 (by decide))
  have HP : Hid (∀ w2, Below w.heap.size w w2 → Calls Tryz.prog 77 #[.slice (some ⟨g, o, none⟩) 2 cp] w2 fun e w' => ∃ b cap, e = .returned (.slice (some ⟨b, 0, none⟩) 2 cap) ∧ w'.cell? ⟨b, 1, none⟩ = some (.int .i64 4) ∧ w'.cell? ⟨b, 7, none⟩ = some (.int .i64 273) ∧ Below w2.heap.size w2 w') := Lib.hid fun w2 hb => by
    refine (protocols [(4, l), (273, m)] (by simp) g o cp w2 (h.below hb hg (Nat.le_refl _))).mono ?_
    rintro e w' ⟨b, cap, rfl, hc, hb'⟩
    exact ⟨b, cap, rfl, hc 0 (by simp), hc 1 (by simp), hb'⟩
  have hnil : ∀ w, (binOp .eql 56 (.slice (some ⟨g, o, none⟩) 2 cp) (.slice none 0 0)).run Tryz.prog w = .ok (.bool false) w := fun w => by
    simp [binOp, run_equal_slice_nil w 56 50 (some ⟨g, o, none⟩) 2 cp Tryz.underlying56, Result.andThen]
  clear h h0 h1 h2 c1 p0 p1 hf
  go_enter Tryz.func59, Tryz.ntmps59
  go_wp2_with (first
    | (go_at_call 76; (with_reducible refine HZ.out.mono ?_); rintro e w2 ⟨rfl, hb⟩)
    | (go_at_call 77; (with_reducible refine (HP.out _ hb).mono ?_); rintro e w3 ⟨b, cap, rfl, d1, d2, hb3⟩))
  go_ret
  exact ⟨rfl, hb.trans (hb3.mono hb.size)⟩
end Go.Proofs.YtnpcmmjdojdmnaaGreatDoor
namespace Go.Proofs.YtnpcmmjdojdmnaaGreatDoor
open Go Go.RowKit Go.Sort

/-- A bit of the difference of two bytes, the most significant one first. -/
def diffBit (x y : UInt8) (j : Nat) : Nat := (x.toNat ^^^ y.toNat) / 2 ^ (7 - j) % 2
theorem diff_zero (x y : UInt8) (h : ∀ j, j < 8 → diffBit x y j = 0) : x = y := by
  have hx := x.toNat_lt
  have hy := y.toNat_lt
  have hz : x.toNat ^^^ y.toNat < 2 ^ 8 := Nat.xor_lt_two_pow hx hy
  have h0 := h 0 (by omega)
  have h1 := h 1 (by omega)
  have h2 := h 2 (by omega)
  have h3 := h 3 (by omega)
  have h4 := h 4 (by omega)
  have h5 := h 5 (by omega)
  have h6 := h 6 (by omega)
  have h7 := h 7 (by omega)
  unfold diffBit at h0 h1 h2 h3 h4 h5 h6 h7
  have hzero : x.toNat ^^^ y.toNat = 0 := by
    have key : ∀ z : Fin 256, z.val / 2 ^ 7 % 2 = 0 → z.val / 2 ^ 6 % 2 = 0 → z.val / 2 ^ 5 % 2 = 0 → z.val / 2 ^ 4 % 2 = 0 → z.val / 2 ^ 3 % 2 = 0 → z.val / 2 ^ 2 % 2 = 0 → z.val / 2 ^ 1 % 2 = 0 → z.val / 2 ^ 0 % 2 = 0 → z.val = 0 := by decide +kernel
    exact key ⟨_, hz⟩ h0 h1 h2 h3 h4 h5 h6 h7
  have : x.toNat = y.toNat := by
    have h := congrArg (· ^^^ y.toNat) hzero
    simpa [Nat.xor_assoc, Nat.xor_self] using h
  exact UInt8.toNat_inj.1 this
theorem diff_self (x : UInt8) (j : Nat) : diffBit x x j = 0 := by simp [diffBit]

theorem w64 (k : Nat) (h : k ≤ 1000) : wrap64 (k : Int) = (k : Int) ∧ IntKind.i64.wrap (k : Int) = (k : Int) := ⟨by unfold wrap64; omega, IntWalk.i64_in _ (by omega)⟩
theorem w7 (j : Nat) (h : j < 8) : IntKind.i64.wrap (7 - (j : Int)) = ((7 - j : Nat) : Int) := by rw [IntWalk.i64_in _ (by omega)]; omega
theorem tdiv8 (i : Nat) : ((i : Int)).tdiv 8 = ((i / 8 : Nat) : Int) := by rw [Int.tdiv_eq_ediv_of_nonneg (by omega)]; omega
theorem tmod8 (i : Nat) : ((i : Int)).tmod 8 = ((i % 8 : Nat) : Int) := by rw [Int.tmod_eq_emod_of_nonneg (by omega)]; omega

set_option maxRecDepth 100000 in
set_option maxHeartbeats 1000000 in
theorem netIn (l pre : List UInt8) (n : Nat) (hl : n ≤ l.length) (hp : n ≤ pre.length) (hll : l.length ≤ 1000) (hpl : pre.length ≤ 1000) (g o cp g2 o2 cp2 : Nat) (w : World) (h : At w g o l) (h2 : At w g2 o2 pre) :
    Calls Tryz.prog 41 #[.slice (some ⟨g, o, none⟩) l.length cp, .int .i64 (8 * n : Nat), .slice (some ⟨g2, o2, none⟩) pre.length cp2] w fun e w' => e = .returned (.bool (l.take n == pre.take n)) ∧ w = w' := by
  have HA := Lib.hid (And.intro h h2)
  have HN := Lib.hid (And.intro (And.intro hl hp) (And.intro hll hpl))
  clear h h2
  generalize hr : (l.take n == pre.take n) = r
  have HT : Hid ((∀ k (h1 : k < l.length) (h2 : k < pre.length), k < n → l[k] = pre[k]) → r = true) := Lib.hid fun he => by
    rw [← hr, beq_iff_eq]
    apply List.ext_getElem (by simp; omega)
    intro k h1 h2
    rw [List.getElem_take, List.getElem_take]
    simp at h1 h2
    exact he k (by omega) (by omega) (by omega)
  have HF : Hid (∀ k (h1 : k < l.length) (h2 : k < pre.length), k < n → l[k] ≠ pre[k] → r = false) := Lib.hid fun k h1 h2 hk hne => by
    rw [← hr, beq_eq_false_iff_ne]
    intro he
    apply hne
    have := congrArg (fun z : List UInt8 => z[k]?) he
    simp [hk, h1, h2] at this
    exact this
  clear hr hl hp hll hpl
  obtain ⟨N, hNe⟩ : ∃ N, N = 8 * n := ⟨_, rfl⟩
  rw [← hNe]
  have HNE := Lib.hid hNe
  have hN : N ≤ 8000 := by have := HN.out; omega
  clear hNe
  go_enter Tryz.func41, Tryz.ntmps41
  go_wp2
  go_loop [7] (fun v => ∃ i : Nat, v = .int .i64 i ∧ i ≤ N ∧ Hid (∀ k (h1 : k < l.length) (h2 : k < pre.length) j, j < 8 → 8 * k + j < i → diffBit l[k] pre[k] j = 0)) (fun v => N - (intOf v).toNat)
  case atStart => exact ⟨0, rfl, Nat.zero_le _, Lib.hid (fun _ _ _ _ _ h => by omega)⟩
  case round =>
    obtain ⟨i, rfl, hiN, hall⟩ := hrel
    by_cases hlt : i < N
    · obtain ⟨k, hk⟩ : ∃ k, k = i / 8 := ⟨_, rfl⟩
      obtain ⟨j, hj⟩ : ∃ j, j = i % 8 := ⟨_, rfl⟩
      have hkl : k < l.length := by have := HN.out; have := HNE.out; omega
      have hkp : k < pre.length := by have := HN.out; have := HNE.out; omega
      have c0 := HA.out.1 k hkl
      have c1 := HA.out.2 k hkp
      have hkb : k ≤ 1000 := by rw [hk]; exact Nat.le_trans (Nat.div_le_div_right (Nat.le_trans (Nat.le_of_lt hlt) hN)) (by decide)
      have hjb : j < 8 := by rw [hj]; exact Nat.mod_lt _ (by decide)
      obtain ⟨c7, hc7⟩ : ∃ c, c = 7 - j := ⟨_, rfl⟩
      have hs : IntKind.i64.wrap (7 - (j : Int)) = (c7 : Int) := by rw [hc7]; exact w7 j hjb
      have hq : ((i : Int)).tdiv 8 = (k : Int) := by rw [hk]; exact tdiv8 i
      have hm : ((i : Int)).tmod 8 = (j : Int) := by rw [hj]; exact tmod8 i
      have hx := l[k].toNat_lt
      have hy := pre[k].toNat_lt
      obtain ⟨d, hd⟩ : ∃ d, d = diffBit l[k] pre[k] j := ⟨_, rfl⟩
      have HD := Lib.hid hd
      unfold diffBit at hd
      rw [← hc7] at hd
      obtain ⟨x, hxe⟩ : ∃ x, x = l[k].toNat := ⟨_, rfl⟩
      obtain ⟨y, hye⟩ : ∃ y, y = pre[k].toNat := ⟨_, rfl⟩
      rw [← hxe] at c0 hd hx
      rw [← hye] at c1 hd hy
      obtain ⟨z, hz⟩ : ∃ z, z = x ^^^ y := ⟨_, rfl⟩
      have hz8 : z < 256 := by rw [hz]; exact Nat.xor_lt_two_pow (n := 8) hx hy
      rw [← hz] at hd
      obtain ⟨s, hs'⟩ : ∃ s, s = z / 2 ^ c7 := ⟨_, rfl⟩
      rw [← hs'] at hd
      have hs8 : s < 256 := by rw [hs']; exact Nat.lt_of_le_of_lt (Nat.div_le_self _ _) hz8
      have hxor : bits .xor .u8 (x : Int) (y : Int) = (z : Int) := by rw [hz]; exact u8_xor_nat _ _ (by omega) (by omega)
      have hand : bits .and .u8 (s : Int) 1 = (d : Int) := by
        have := u8_and_nat s 1 hs8 (by decide)
        rw [Nat.and_one_is_mod, ← hd] at this
        exact this
      have hshr : (z : Int) / 2 ^ min c7 8 = (s : Int) := by
        rw [show min c7 8 = c7 by omega, hs']
        simp
      have HKJ := Lib.hid (And.intro hk (And.intro hj (And.intro hxe hye)))
      have hd2 : d = 0 ∨ d = 1 := by omega
      have hj1000 : j ≤ 1000 := by omega
      have hki : (k : Int) < (l.length : Int) := by omega
      have hkp2 : (k : Int) < (pre.length : Int) := by omega
      have hdec : decide (l.length ≤ k) = false := by simp; omega
      have hw := (w64 k hkb).1
      have hw2 := (w64 k hkb).2
      have hw3 := (w64 j hj1000).1
      have hw4 := (w64 j hj1000).2
      clear hk hj hc7 hd hxe hye hz hs' hx hy hz8 hs8
      rcases hd2 with rfl | rfl
      · go_wp2
        refine ⟨⟨i + 1, by go_num, by omega, Lib.hid fun k' h1 h2 j' hj' hlt' => ?_⟩, by simp [intOf]; omega⟩
        obtain ⟨hk, hj, _, _⟩ := HKJ.out
        by_cases hold : 8 * k' + j' < i
        · exact hall.out k' h1 h2 j' hj' hold
        · have e1 : k' = k := by clear hw hw2 hw3 hw4 hs hq hm hshr; omega
          have e2 : j' = j := by clear hw hw2 hw3 hw4 hs hq hm hshr; omega
          subst e1 e2
          exact HD.out.symm
      · have hf : r = false := HF.out k hkl hkp (by have := HNE.out; have := HKJ.out.1; clear hw hw2 hw3 hw4 hs hq hm hshr; omega) (fun he => by
          have := HD.out
          rw [he, diff_self] at this
          cases this)
        subst hf
        go_wp2
        go_ret
        exact ⟨rfl, rfl⟩
    · have hf : r = true := HT.out fun k h1 h2 hk => diff_zero _ _ fun j hj => hall.out k h1 h2 j hj (by have := HNE.out; omega)
      subst hf
      go_wp2
      go_ret
      exact ⟨rfl, rfl⟩

theorem take12_mapped (l : List UInt8) (h : l.length = 16) : (l.take 12 == [0, 0, 0, 0, 0, 0, 0, 0, 0, 0, 255, 255]) = mapped l := by
  match l, h with
  | [a0, a1, a2, a3, a4, a5, a6, a7, a8, a9, b0, b1, b2, b3, b4, b5], _ =>
    have e : ∀ x y : UInt8, (x.toNat == y.toNat) = (x == y) := fun x y => by
      rw [Bool.eq_iff_iff]; simp [UInt8.toNat_inj]
    have e0 : ∀ x : UInt8, (x.toNat == 0) = (x == 0) := fun x => e x 0
    have e1 : ∀ x : UInt8, (x.toNat == 255) = (x == 255) := fun x => e x 255
    simp only [mapped, List.take_succ_cons, List.take_zero, List.all_cons, List.all_nil, e0, e1, List.getElem?_cons_succ, List.getElem?_cons_zero, Option.any_some]
    simp [Bool.and_assoc]

set_option maxRecDepth 100000 in
set_option maxHeartbeats 4000000 in
theorem netMapped16 (l : List UInt8) (hl : l.length = 16) (g o cp : Nat) (w : World) (h : At w g o l) :
    Calls Tryz.prog 20 #[.slice (some ⟨g, o, none⟩) 16 cp] w fun e w' => e = .returned (.bool (mapped l)) ∧ Below w.heap.size w w' := by
  have hg := h.lt (by omega)
  have HI : Hid (Calls Tryz.prog 41 #[.slice (some ⟨g, o, none⟩) 16 cp, .int .i64 96, .slice (some ⟨w.heap.size, 0, none⟩) 12 12] (w.alloc (.cells #[.int .u8 0, .int .u8 0, .int .u8 0, .int .u8 0, .int .u8 0, .int .u8 0, .int .u8 0, .int .u8 0, .int .u8 0, .int .u8 0, .int .u8 255, .int .u8 255] 5)) fun e w' => e = .returned (.bool (mapped l)) ∧ w' = (w.alloc (.cells #[.int .u8 0, .int .u8 0, .int .u8 0, .int .u8 0, .int .u8 0, .int .u8 0, .int .u8 0, .int .u8 0, .int .u8 0, .int .u8 0, .int .u8 255, .int .u8 255] 5))) := Lib.hid (by
    have := netIn l [0, 0, 0, 0, 0, 0, 0, 0, 0, 0, 255, 255] 12 (by omega) (by decide) (by omega) (by decide) g o cp w.heap.size 0 12 (w.alloc (.cells #[.int .u8 0, .int .u8 0, .int .u8 0, .int .u8 0, .int .u8 0, .int .u8 0, .int .u8 0, .int .u8 0, .int .u8 0, .int .u8 0, .int .u8 255, .int .u8 255] 5)) (h.below ((Below.refl _ _).alloc (Nat.le_refl _) _) hg) (fun j hj => by
      rw [World.cell?_alloc_new, Nat.zero_add]
      simp at hj
      match j, hj with
      | 0, _ | 1, _ | 2, _ | 3, _ | 4, _ | 5, _ | 6, _ | 7, _ | 8, _ | 9, _ | 10, _ | 11, _ => rfl)
    rw [hl, show ([0, 0, 0, 0, 0, 0, 0, 0, 0, 0, 255, 255] : List UInt8).take 12 = [0, 0, 0, 0, 0, 0, 0, 0, 0, 0, 255, 255] from rfl, take12_mapped l hl] at this
    exact this.mono fun e w' ⟨h1, h2⟩ => ⟨h1, h2.symm⟩)
  clear h
  go_enter Tryz.func20, Tryz.ntmps20
  go_wp2_with (go_at_call 41; (with_reducible refine HI.out.mono ?_); rintro e w2 ⟨rfl, rfl⟩)
  go_ret
  exact ⟨rfl, (Below.refl _ _).alloc (Nat.le_refl _) _⟩
end Go.Proofs.YtnpcmmjdojdmnaaGreatDoor
