/- spec.MaVarint (37). spec.MaBytes (15) of one component. laws.FnMaOne answers true, if the transcoders do what chk says. laws.FnMaOne answers true at any bytes, if the transcoders do what chk says. -/
import Derived.Test.YtnpcmmjdojdmnaaGreatDoorQb
import Derived.Test.YtnpcmmjdojdmnaaGreatDoorQc
import Derived.Test.YtnpcmmjdojdmnaaGreatDoorSa
import Derived.Test.YtnpcmmjdojdmnaaGreatDoorQh
import Derived.Test.YtnpcmmjdojdmnaaGreatDoorQa
import Derived.Test.YtnpcmmjdojdmnaaGreatDoorSf
import Derived.Test.YtnpcmmjdojdmnaaGreatDoorQi
import Derived.Test.YtnpcmmjdojdmnaaGreatDoorQs
namespace Go.Proofs.YtnpcmmjdojdmnaaGreatDoor
open Go Go.RowKit Go.Sort

theorem byteVals_snoc (l : List UInt8) (b : UInt8) : byteVals (l ++ [b]) = byteVals l ++ [.int .u8 b.toNat] := by simp [byteVals]

set_option maxRecDepth 100000 in
set_option maxHeartbeats 4000000 in
theorem maVarint (n : Nat) (hn : n < 9223372036854775808) (w : World) :
    Calls Tryz.prog 37 #[.int .u64 n] w fun e w' => ∃ v, e = .returned v ∧ w'.ownsRow w.heap.size 5 1 v (Lib.uvarint n).length (byteVals (Lib.uvarint n)) ∧ Below w.heap.size w w' := by
  obtain ⟨i0, hi, hz0, hz1, hz2⟩ := info_parts info5
  have hul : (Lib.uvarint n).length ≤ 10 := Lib.uvarint_length64 (by omega)
  have HUL := Lib.hid hul
  clear hul
  go_enter Tryz.func37, Tryz.ntmps37
  go_wp2
  go_loopw [0, 3] (fun v0 v3 wr => ∃ (m : Nat) (pre : List UInt8), v0 = .int .u64 m ∧ m < 9223372036854775808 ∧ wr.ownsRow w.heap.size 5 1 v3 pre.length (byteVals pre) ∧ Hid (Lib.uvarint n = pre ++ Lib.uvarint m) ∧ Below w.heap.size w wr) (fun v0 _ _ => (intOf v0).toNat)
  case atStart => exact ⟨n, [], rfl, hn, World.ownsRow_nil _ _ _ _, Lib.hid rfl, Below.refl _ _⟩
  case round =>
    obtain ⟨m, pre, rfl, hm, hown, hpre, hbl⟩ := hrel
    have hz := hbl.size
    have hlen : pre.length ≤ 10 := by
      have := congrArg List.length hpre.out
      rw [List.length_append] at this
      have := HUL.out
      omega
    by_cases h128 : m < 128
    · have e1 : decide (128 ≤ (m : Int)) = false := by simp; omega
      have e2 : IntKind.u8.wrap (m : Int) = m := by rw [IntKind.wrap_u8]; omega
      go_wp2_with (at_builtin; refine wpList_append_own _ rfl (.tmp 15) (.tmp 18) 22 rfl w.heap.size 5 i0 (.int .u8 0) 1 1 Tryz.underlying22 hi hz0 hz1 hz2 rfl (by decide) _ _ _ rfl (hown.alloc _) ⟨wr.heap.size, 0, none⟩ 1 1 [.int .u8 m] rfl rfl (cell_one_new _ _ _) ?c2 ?c3 ?c4 ?c5 ?_)
      case c2 =>
        intro u hu
        simp only [List.mem_cons, List.not_mem_nil, or_false] at hu
        subst hu; rfl
      case c3 => unfold maxLen; omega
      case c4 => omega
      case c5 => simp; omega
      intro v' w3 hown3 hgrow _
      have hb3 : Below w.heap.size w w3 := (hbl.alloc hz _).grown hgrow (by simp; omega) (fun k hk => (hown.lt k hk).1)
      have hm8 : ((m.toUInt8).toNat : Int) = m := by simp; omega
      have hE := Lib.hid (show Lib.uvarint n = pre ++ [m.toUInt8] by rw [hpre.out, Lib.uvarint_small h128])
      have hO : Hid (w3.ownsRow w.heap.size 5 1 v' (Lib.uvarint n).length (byteVals (Lib.uvarint n))) := Lib.hid (by
        rw [hE.out, List.length_append, byteVals_snoc, hm8]
        exact hown3)
      clear hown3 hgrow hown
      go_wp2
      go_ret
      exact ⟨_, rfl, hO.out, hb3⟩
    · have e1 : decide (128 ≤ (m : Int)) = true := by simp; omega
      go_wp2_with (at_builtin; refine wpList_append_own _ rfl (.tmp 6) (.tmp 11) 22 rfl w.heap.size 5 i0 (.int .u8 0) 1 1 Tryz.underlying22 hi hz0 hz1 hz2 rfl (by decide) _ _ _ rfl (hown.alloc _) ⟨wr.heap.size, 0, none⟩ 1 1 [.int .u8 ((m : Int) % 128 + 128)] rfl rfl (cell_one_new _ _ _) ?c2 ?c3 ?c4 ?c5 ?_)
      case c2 =>
        intro u hu
        simp only [List.mem_cons, List.not_mem_nil, or_false] at hu
        subst hu; rfl
      case c3 => unfold maxLen; omega
      case c4 => omega
      case c5 => simp; omega
      intro v' w3 hown3 hgrow _
      have hb3 : Below w.heap.size w w3 := (hbl.alloc hz _).grown hgrow (by simp; omega) (fun k hk => (hown.lt k hk).1)
      have hm8 : (((m % 128 + 128).toUInt8).toNat : Int) = (m : Int) % 128 + 128 := by simp; omega
      have hE := Lib.hid (show Lib.uvarint n = (pre ++ [(m % 128 + 128).toUInt8]) ++ Lib.uvarint (m / 128) by rw [hpre.out, Lib.uvarint_big (by omega), List.append_assoc]; rfl)
      have hO : Hid (w3.ownsRow w.heap.size 5 1 v' (pre ++ [(m % 128 + 128).toUInt8]).length (byteVals (pre ++ [(m % 128 + 128).toUInt8]))) := Lib.hid (by
        rw [List.length_append, byteVals_snoc, hm8]
        exact hown3)
      clear hown3 hgrow hown
      go_wp2
      refine ⟨⟨m / 128, pre ++ [(m % 128 + 128).toUInt8], by first | rfl | (congr 1; omega), by omega, hO.out, hE, hb3⟩, ?_⟩
      simp [intOf]
      omega
end Go.Proofs.YtnpcmmjdojdmnaaGreatDoor
namespace Go.Proofs.YtnpcmmjdojdmnaaGreatDoor
open Go Go.RowKit Go.Sort

theorem own_at {w : World} {base : Nat} {v : Value} {l : List UInt8} (h : w.ownsRow base 5 1 v l.length (byteVals l)) (hl : 0 < l.length) : ∃ g cap, v = .slice (some ⟨g, 0, none⟩) l.length cap ∧ base ≤ g ∧ g < w.heap.size ∧ At w g 0 l := by
  rcases h.2 with ⟨_, h0⟩ | ⟨g, cap, cur, hv, hbase, hheap, hle, hmax, hcur, htake⟩
  · omega
  subst hv
  refine ⟨g, cap, rfl, hbase, (h.lt g rfl).2, fun j hj => ?_⟩
  have := h.cells (g := g) rfl j (.int .u8 l[j].toNat) (by simp [byteVals, hj])
  rwa [Addr.add_lit] at this

theorem src_at {w : World} {g : Nat} {l : List UInt8} (h : At w g 0 l) (c : Nat) : Src Tryz.prog 1 22 (.slice (some ⟨g, 0, none⟩) l.length c) l.length (byteVals l) w := by
  refine Src.ofSlice _ Tryz.underlying22 ⟨g, 0, none⟩ _ _ _ (by rw [byteVals_length]; omega) (fun j u hu => ?_) (byteVals_one _)
  obtain ⟨hj, rfl⟩ := byteVals_get hu
  rw [Addr.add_lit]
  exact h j hj

set_option maxRecDepth 100000 in
set_option maxHeartbeats 8000000 in
theorem maBytes1 (n : Nat) (l : List UInt8) (hk : known (n : Int) = true) (hl : l.length ≤ 1000000) (g o cp g2 cp2 : Nat) (w : World) (h0 : w.cell? ⟨g, o, none⟩ = some (.int .i64 n)) (h1 : w.cell? ⟨g, o + 1, none⟩ = some (.slice (some ⟨g2, 0, none⟩) l.length cp2)) (hat : At w g2 0 l) (hg2 : g2 < w.heap.size) :
    Calls Tryz.prog 15 #[.slice (some ⟨g, o, none⟩) 1 cp] w fun e w' => ∃ v, e = .returned v ∧ w'.ownsRow w.heap.size 5 1 v (compBytes n l).length (byteVals (compBytes n l)) ∧ Below w.heap.size w w' := by
  obtain ⟨i0, hi, hz0, hz1, hz2⟩ := info_parts info5
  have HM := Lib.hid (maProtocol (n : Int))
  have hn := (uvarint_code hk).1
  rw [Int.toNat_natCast] at hn
  have hlu : (Lib.uvarint n).length ≤ 10 := Lib.uvarint_length64 (by omega)
  have hll : (Lib.uvarint l.length).length ≤ 10 := Lib.uvarint_length64 (by omega)
  have HV := Lib.hid (fun wx => maVarint n (by omega) wx)
  have HV2 := Lib.hid (fun wx => maVarint l.length (by omega) wx)
  have e1 : IntKind.u64.wrap (n : Int) = n := IntWalk.u64_in _ (by omega)
  have e2 : IntKind.u64.wrap (l.length : Int) = l.length := IntWalk.u64_in _ (by omega)
  have hup := Lib.uvarint_pos n
  have hup2 := Lib.uvarint_pos l.length
  have HCB : Hid (compBytes n l = Lib.uvarint n ++ (if psz (n : Int) < 0 then Lib.uvarint l.length else []) ++ l) := Lib.hid (by rw [compBytes, Int.toNat_natCast])
  have HAT := Lib.hid (And.intro hat hg2)
  have hgw := World.block_lt_of_cell? w _ h0
  have c0 : (w.alloc (.cells #[] 5)).cell? ⟨g, o, none⟩ = some (.int .i64 n) := (World.cell?_alloc_past _ _ _ hgw).trans h0
  have c1 : (w.alloc (.cells #[] 5)).cell? ⟨g, o + 1, none⟩ = some (.slice (some ⟨g2, 0, none⟩) l.length cp2) := (World.cell?_alloc_past _ _ _ hgw).trans h1
  clear hat hk
  generalize pname (n : Int) = nm at *
  generalize pcode (n : Int) = pc at *
  generalize ppath (n : Int) = pth at *
  generalize psz (n : Int) = z at *
  go_enter Tryz.func15, Tryz.ntmps15
  go_wp2
  refine wp_loop_rounds 2 ?_
  rw [rounds_succ]
  go_wp2_with (first
    | (go_at_call 24; (with_reducible refine (HM.out _).mono ?_); rintro e w2 ⟨rfl, hb2⟩; obtain ⟨hc2, hf2⟩ := bcell hb2; have hz2' : w.heap.size + 1 < w2.heap.size := (by have := hb2.size; simp at this; omega))
    | (go_at_call 37; (with_reducible refine (HV.out _).mono ?_); rintro e w3 ⟨v3, rfl, hv3, hb3⟩; refine Hid.out ?_))
  refine Lib.hid ?_
  obtain ⟨g3, cap3, rfl, hg3a, hg3b, hat3⟩ := own_at hv3 hup
  obtain ⟨W2, hW2⟩ : ∃ W2, W2 = w2.alloc (.cells #[.string nm, .int .i64 pc, .int .i64 z, .bool pth, .slice none 0 0] 43) := ⟨_, rfl⟩
  have hs2 : W2.heap.size = w2.heap.size + 1 := by rw [hW2]; simp
  have H1 : Has ((w.alloc (.cells #[] 5)).alloc (.cells #[.int .i64 n, .slice (some ⟨g2, 0, none⟩) l.length cp2] 24)) [(w.heap.size + 1, 0, .int .i64 n), (w.heap.size + 1, 1, .slice (some ⟨g2, 0, none⟩) l.length cp2)] := by
    intro x hx
    simp only [List.mem_cons, List.not_mem_nil, or_false] at hx
    rcases hx with rfl | rfl <;> simp [go_sem]
  have H2 : Has W2 [(w.heap.size + 1, 0, .int .i64 n), (w.heap.size + 1, 1, .slice (some ⟨g2, 0, none⟩) l.length cp2), (w2.heap.size, 2, .int .i64 z)] := by
    have h := (H1.belowS hb2).alloc (.cells #[.string nm, .int .i64 pc, .int .i64 z, .bool pth, .slice none 0 0] 43)
    rw [hW2]
    intro x hx
    simp only [List.mem_cons, List.not_mem_nil, or_false] at hx
    rcases hx with rfl | rfl | rfl
    · exact h _ (by simp)
    · exact h _ (by simp)
    · simp [go_sem]
  have hown0 : W2.ownsRow w.heap.size 5 1 (.slice (some ⟨w.heap.size, 0, none⟩) 0 0) 0 (byteVals []) := by
    rw [hW2]
    exact (((owns_empty w (Nat.le_refl _)).alloc _).kept (row := none) ⟨hb2.os, hb2.tape, hb2.output, hb2.size, fun k hk _ => hb2.block k hk⟩ (Or.inr (by simp [Value.ownBlock]))).alloc _
  have hbW2 : Below w.heap.size w W2 := by
    rw [hW2]
    exact ((((Below.refl _ _).alloc (Nat.le_refl _) _).alloc (by simp) _).trans (hb2.mono (by simp <;> omega))).alloc (by omega) _
  rw [← hW2] at hv3 hb3 hg3a
  have H3 := H2.belowS hb3
  have hown3 : w3.ownsRow w.heap.size 5 1 (.slice (some ⟨w.heap.size, 0, none⟩) 0 0) 0 (byteVals []) := hown0.kept (row := none) ⟨hb3.os, hb3.tape, hb3.output, hb3.size, fun k hk _ => hb3.block k hk⟩ (Or.inr (by simp [Value.ownBlock]))
  have hbw3 : Below w.heap.size w w3 := hbW2.trans (hb3.mono hbW2.size)
  have hz3 := hb3.size
  clear hown0 hv3 hb3 hb2 H1 H2 hc2 hf2 hW2 c0 c1 h0 h1 hbW2
  go_wp2_with (at_builtin; refine wpList_append_src_own _ rfl (.tmp 21) (.tmp 25) 22 22 rfl w.heap.size 5 i0 (.int .u8 0) 1 1 Tryz.underlying22 hi hz0 hz1 hz2 rfl w.heap.size 0 0 (byteVals []) rfl hown3 _ rfl (Lib.uvarint n).length (byteVals (Lib.uvarint n)) (src_at hat3 cap3) ?d2 ?d3 ?d4 ?_)
  case d2 => unfold maxLen; omega
  case d3 => omega
  case d4 => omega
  intro g4 cap4 w4 hown4 hgrow4 hgg4
  have H4 := H3.grown hgrow4 (by
    intro x hx
    simp only [List.mem_cons, List.not_mem_nil, or_false] at hx
    rcases hx with rfl | rfl | rfl <;> simp <;> omega)
  have hb4 : Below w.heap.size w w4 := hbw3.grown hgrow4 (by omega) (fun k hk => by simp at hk; omega)
  have hz4 := hgrow4.size
  have hown4' : w4.ownsRow w.heap.size 5 1 (.slice (some ⟨g4, 0, none⟩) (Lib.uvarint n).length cap4) (Lib.uvarint n).length (byteVals (Lib.uvarint n)) := by simpa [byteVals] using hown4
  have hg4 : g4 = w.heap.size ∨ w2.heap.size < g4 := by omega
  clear hown3 hown4 H3 hgrow4 hgg4 hat3 hbw3
  have k1 := H4.cell 1 rfl
  have k2 := H4.cell 2 rfl
  by_cases hzn : z < 0
  · have e3 : decide (z < 0) = true := by simp; omega
    go_wp2_with (go_at_call 37; (with_reducible refine (HV2.out _).mono ?_); rintro e w5 ⟨v5, rfl, hv5, hb5⟩; refine Hid.out ?_)
    refine Lib.hid ?_
    obtain ⟨g5, cap5, rfl, hg5a, hg5b, hat5⟩ := own_at hv5 hup2
    have H5 := H4.belowS hb5
    have hown5 : w5.ownsRow w.heap.size 5 1 (.slice (some ⟨g4, 0, none⟩) (Lib.uvarint n).length cap4) (Lib.uvarint n).length (byteVals (Lib.uvarint n)) := hown4'.kept (row := none) ⟨hb5.os, hb5.tape, hb5.output, hb5.size, fun k hk _ => hb5.block k hk⟩ (Or.inr (by simp [Value.ownBlock]))
    have hbw5 : Below w.heap.size w w5 := hb4.trans (hb5.mono hb4.size)
    have hz5 := hb5.size
    clear hv5 hb5 hb4 hown4' H4 k1 k2
    go_wp2_with (at_builtin; refine wpList_append_src_own _ rfl (.tmp 30) (.tmp 35) 22 22 rfl w.heap.size 5 i0 (.int .u8 0) 1 1 Tryz.underlying22 hi hz0 hz1 hz2 rfl g4 (Lib.uvarint n).length cap4 _ rfl hown5 _ rfl (Lib.uvarint l.length).length (byteVals (Lib.uvarint l.length)) (src_at hat5 cap5) ?e2 ?e3 ?e4 ?_)
    case e2 => unfold maxLen; omega
    case e3 => omega
    case e4 => omega
    intro g6 cap6 w6 hown6 hgrow6 hgg6
    have H6 := H5.grown hgrow6 (by
      intro x hx
      simp only [List.mem_cons, List.not_mem_nil, or_false] at hx
      rcases hx with rfl | rfl | rfl <;> simp <;> omega)
    have hb6 : Below w.heap.size w w6 := hbw5.grown hgrow6 (by omega) (fun k hk => by simp at hk; omega)
    have hz6 := hgrow6.size
    have k1 := H6.cell 1 rfl
    have hat6 : At w6 g2 0 l := HAT.out.1.below hb6 HAT.out.2
    clear hown5 hgrow6 H5 hat5 hbw5
    go_wp2_with (at_builtin; refine wpList_append_src_own _ rfl (.tmp 37) (.tmp 39) 22 22 rfl w.heap.size 5 i0 (.int .u8 0) 1 1 Tryz.underlying22 hi hz0 hz1 hz2 rfl g6 ((Lib.uvarint n).length + (Lib.uvarint l.length).length) cap6 _ rfl hown6 _ rfl l.length (byteVals l) (src_at hat6 cp2) ?f2 ?f3 ?f4 ?_)
    case f2 => unfold maxLen; omega
    case f3 => omega
    case f4 => omega
    intro g7 cap7 w7 hown7 hgrow7 hgg7
    have hb7 : Below w.heap.size w w7 := hb6.grown hgrow7 (by omega) (fun k hk => by simp at hk; omega)
    have HO : Hid (w7.ownsRow w.heap.size 5 1 (.slice (some ⟨g7, 0, none⟩) ((Lib.uvarint n).length + (Lib.uvarint l.length).length + l.length) cap7) (compBytes n l).length (byteVals (compBytes n l))) := Lib.hid (by
      have e : compBytes n l = (Lib.uvarint n ++ Lib.uvarint l.length) ++ l := by rw [HCB.out, if_pos (by omega)]
      rw [e, List.length_append, List.length_append]
      simpa [byteVals] using hown7)
    clear hown6 hown7 hgrow7 H6 k1
    go_wp2
    rw [rounds_succ]
    go_wp2
    go_ret
    exact ⟨_, rfl, HO.out, hb7⟩
  · have e3 : decide (z < 0) = false := by simp; omega
    have hat4 : At w4 g2 0 l := HAT.out.1.below hb4 HAT.out.2
    go_wp2_with (at_builtin; refine wpList_append_src_own _ rfl (.tmp 37) (.tmp 39) 22 22 rfl w.heap.size 5 i0 (.int .u8 0) 1 1 Tryz.underlying22 hi hz0 hz1 hz2 rfl g4 (Lib.uvarint n).length cap4 _ rfl hown4' _ rfl l.length (byteVals l) (src_at hat4 cp2) ?f2 ?f3 ?f4 ?_)
    case f2 => unfold maxLen; omega
    case f3 => omega
    case f4 => omega
    intro g7 cap7 w7 hown7 hgrow7 hgg7
    have hb7 : Below w.heap.size w w7 := hb4.grown hgrow7 (by omega) (fun k hk => by simp at hk; omega)
    have HO : Hid (w7.ownsRow w.heap.size 5 1 (.slice (some ⟨g7, 0, none⟩) ((Lib.uvarint n).length + l.length) cap7) (compBytes n l).length (byteVals (compBytes n l))) := Lib.hid (by
      have e : compBytes n l = Lib.uvarint n ++ l := by rw [HCB.out, if_neg (by omega), List.append_nil]
      rw [e, List.length_append]
      simpa [byteVals] using hown7)
    clear hown4' hown7 hgrow7 H4 k1 k2
    go_wp2
    rw [rounds_succ]
    go_wp2
    go_ret
    exact ⟨_, rfl, HO.out, hb7⟩
end Go.Proofs.YtnpcmmjdojdmnaaGreatDoor
namespace Go.Proofs.YtnpcmmjdojdmnaaGreatDoor
open Go Go.RowKit Go.Sort

set_option maxRecDepth 100000 in
set_option maxHeartbeats 16000000 in
theorem fnMaOne_loop (HT : AllTrans) (b : List UInt8) (cs : List (Int × List UInt8)) (hrd : RdOk b cs) (g o cp : Nat) (w : World) (he : Env w) (hc : At w g o b) (hcp : b.length ≤ cp) (hlim : b.length ≤ 2000) :
    Calls Tryz.prog 4 #[.slice (some ⟨g, o, none⟩) b.length cp] w fun e w' => e = .returned (.bool true) ∧ Below w.heap.size w w' := by
  obtain ⟨i0, hi, hz0, hz1, hz2⟩ := info_parts info24
  have hpos : 0 < cs.length := List.length_pos_iff.2 hrd.2.1
  have hb1 : 1 ≤ b.length := by have := allBytes_len cs; rw [← hrd.1] at this; omega
  have hg : g < w.heap.size := hc.lt (by omega)
  have hcl : cs.length ≤ 2000 := by have := allBytes_len cs; rw [← hrd.1] at this; omega
  have H13 := Lib.hid (parseYes HT b cs hrd (some ⟨g, o, none⟩) cp w he hc.bytes hcp (by omega))
  have HALL := Lib.hid (And.intro HT (And.intro hrd (And.intro he (And.intro hc hlim))))
  have e1 : decide (2147483647 < (b.length : Int)) = false := by simp; omega
  have e2 : decide (2000 < (b.length : Int)) = false := by simp; omega
  have HBE : Hid (b.length = (allBytes (cs.drop 0)).length) := Lib.hid (by rw [List.drop_zero, ← hrd.1])
  clear hrd he hc hlim
  go_enter Tryz.func4, Tryz.ntmps4
  go_wp2_with (go_at_call 13; (with_reducible refine H13.out.mono ?_); rintro e w1 ⟨v, rfl, ⟨bb, cap, rfl, hbb1, hbb2, hcap, hrow⟩, hbl1⟩)
  have HR1 := Lib.hid (And.intro hrow (And.intro hbb2 hbl1))
  clear hrow hbl1 e1 e2
  go_loopw [0, 27] (fun v0 v27 wr => ∃ (k o' cp' : Nat), v27 = .int .i64 k ∧ k ≤ cs.length ∧ v0 = .slice (some ⟨g, o', none⟩) (allBytes (cs.drop k)).length cp' ∧ (allBytes (cs.drop k)).length ≤ cp' ∧ Hid (At wr g o' (allBytes (cs.drop k))) ∧ Below w1.heap.size w1 wr) (fun _ v27 _ => cs.length - (intOf v27).toNat)
  case atStart =>
    obtain ⟨HT, hrd, he, hc, hlim⟩ := HALL.out
    refine ⟨0, o, cp, rfl, Nat.zero_le _, by rw [← HBE.out], by rw [← HBE.out]; exact hcp, Lib.hid ?_, Below.refl _ _⟩
    rw [List.drop_zero, ← hrd.1]
    exact hc.below HR1.out.2.2 hg
  case round =>
    obtain ⟨k, o', cp', rfl, hk, rfl, hcp', hat, hbl⟩ := hrel
    by_cases hlt : k < cs.length
    · obtain ⟨HT, hrd, he, hc, hlim⟩ := HALL.out
      obtain ⟨hrow, _, hbw1⟩ := HR1.out
      have hok := hrd.2.2.1 cs[k] (List.getElem_mem hlt)
      obtain ⟨n, hn⟩ : ∃ n : Nat, cs[k].1 = n := ⟨cs[k].1.toNat, by have := (uvarint_code hok.1).2; omega⟩
      obtain ⟨l, hl⟩ : ∃ l, cs[k].2 = l := ⟨_, rfl⟩
      have hdk : cs.drop k = ((n : Int), l) :: cs.drop (k + 1) := by
        rw [List.drop_eq_getElem_cons hlt, ← hn, ← hl]
      rw [hn, hl] at hok
      have hallk : allBytes (cs.drop k) = compBytes n l ++ allBytes (cs.drop (k + 1)) := by rw [hdk]; rfl
      have htot : (allBytes (cs.drop k)).length ≤ 2000 := by
        have h1 : allBytes cs = allBytes (cs.take k) ++ allBytes (cs.drop k) := by rw [← allBytes_append, List.take_append_drop]
        have h2 := congrArg List.length h1
        rw [← hrd.1, List.length_append] at h2
        omega
      have hl2 : (allBytes (cs.drop k)).length = (compBytes n l).length + (allBytes (cs.drop (k + 1))).length := by rw [hallk, List.length_append]
      have hK1 := compBytes_pos n l
      have hll : l.length ≤ 2000 := by
        have : (compBytes n l).length = (headBytes n l.length).length + l.length := by rw [comp_head, List.length_append]
        omega
      obtain ⟨r1, gl, cpl, r2, r3, r4, r5, r6⟩ := hrow k hlt
      rw [hn] at r1
      rw [hl] at r2 r5 r6
      have hw1 := hbl.size
      have c0 : wr.cell? ⟨bb, k * 2, none⟩ = some (.int .i64 n) := (hbl.cell (p := ⟨bb, k * 2, none⟩) hbb2).trans r1
      have c1 : wr.cell? ⟨bb, k * 2 + 1, none⟩ = some (.slice (some ⟨gl, 0, none⟩) l.length cpl) := (hbl.cell (p := ⟨bb, k * 2 + 1, none⟩) hbb2).trans r2
      have hatl : At wr gl 0 l := r6.below hbl r4
      have hbw : Below w.heap.size w wr := hbw1.trans (hbl.mono hbw1.size)
      have hgr : g < wr.heap.size := Nat.lt_of_lt_of_le hg hbw.size
      obtain ⟨K, hK⟩ : ∃ K, K = (compBytes n l).length := ⟨_, rfl⟩
      obtain ⟨N, hN⟩ : ∃ N, N = (allBytes (cs.drop k)).length := ⟨_, rfl⟩
      obtain ⟨M, hM⟩ : ∃ M, M = (allBytes (cs.drop (k + 1))).length := ⟨_, rfl⟩
      have HAL : Hid (∀ o1, Below wr.heap.size wr (wr.alloc o1)) := Lib.hid fun o1 => (Below.refl _ _).alloc (Nat.le_refl _) _
      have H14 : Hid (∀ o1, Calls Tryz.prog 14 #[.slice (some ⟨g, o', none⟩) N cp'] (wr.alloc o1) fun e w' => ∃ g2 cp2, e = .returned (.tuple #[.agg #[.int .i64 n, .slice (some ⟨g2, 0, none⟩) l.length cp2], .int .i64 K, .bool true]) ∧ (wr.alloc o1).heap.size ≤ g2 ∧ g2 < w'.heap.size ∧ l.length ≤ cp2 ∧ At w' g2 0 l ∧ Below (wr.alloc o1).heap.size (wr.alloc o1) w') := Lib.hid fun o1 => by
        rw [hN, hK]
        exact maReadOne HT (allBytes (cs.drop k)) n l (by rw [hallk]; exact readC_comp hok _) g o' cp' _ ((he.up hbw).up (HAL.out o1)) (hat.out.below (HAL.out o1) hgr) (by simp; omega) hcp' (by omega)
      have H15 : Hid (∀ (gx ox cx : Nat) (wx : World), wx.cell? ⟨gx, ox, none⟩ = some (.int .i64 n) → wx.cell? ⟨gx, ox + 1, none⟩ = some (.slice (some ⟨gl, 0, none⟩) l.length cpl) → At wx gl 0 l → gl < wx.heap.size → Calls Tryz.prog 15 #[.slice (some ⟨gx, ox, none⟩) 1 cx] wx fun e w' => ∃ gy cy, e = .returned (.slice (some ⟨gy, 0, none⟩) K cy) ∧ Below wx.heap.size wx w') := Lib.hid fun gx ox cx wx x0 x1 x2 x3 => by
        refine (maBytes1 n l hok.1 (by omega) gx ox cx gl cpl wx x0 x1 x2 x3).mono ?_
        rintro e w' ⟨v, rfl, hv, hb⟩
        obtain ⟨gy, cy, rfl, _⟩ := own_at hv hK1
        exact ⟨gy, cy, by rw [hK], hb⟩
      have HD1 : Hid (At wr g (o' + K) (allBytes (cs.drop (k + 1)))) := Lib.hid (by
        have h := hat.out
        rw [hallk] at h
        rw [hK]
        exact h.drop)
      have HNS := Lib.hid (And.intro hN (And.intro hM hK))
      rw [← hN] at hl2 hcp' htot ⊢
      rw [← hK] at hl2 hK1
      rw [← hM] at hl2
      have HATL := Lib.hid hatl
      have hgl : gl < wr.heap.size := Nat.lt_of_lt_of_le r4 hw1
      have hNK : K ≤ N := by omega
      have HL2 := Lib.hid hl2
      have HLT := Lib.hid hlt
      clear hN hM hK hallk hdk hn hl hok r1 r2 r3 r6 hrow hat HT hrd he hc hlim hatl hl2
      go_wp2_with (go_at_call 14; (with_reducible refine (H14.out _).mono ?_); rintro e w2 ⟨g2, cp2, rfl, hg2a, hg2b, hcp2, hat2, hb2⟩; refine Hid.out ?_)
      refine Lib.hid ?_
      have hz2 : wr.heap.size < w2.heap.size := by have := hb2.size; simp at this; omega
      have d0 : w2.cell? ⟨wr.heap.size, 0, none⟩ = some (.int .i64 n) := (hb2.cell (p := ⟨wr.heap.size, 0, none⟩) (by simp)).trans (by simp [go_sem])
      have d1 : w2.cell? ⟨wr.heap.size, 1, none⟩ = some (.slice (some ⟨gl, 0, none⟩) l.length cpl) := (hb2.cell (p := ⟨wr.heap.size, 1, none⟩) (by simp)).trans (by simp [go_sem])
      have hbr2 : Below wr.heap.size wr w2 := ((Below.refl _ _).alloc (Nat.le_refl _) _).trans (hb2.mono (by simp))
      have hatl2 : At w2 gl 0 l := HATL.out.below hbr2 hgl
      have H11 : Hid (∀ o2, Calls Tryz.prog 11 #[.agg #[.int .i64 n, .slice (some ⟨gl, 0, none⟩) l.length cpl], .agg #[.int .i64 n, .slice (some ⟨g2, 0, none⟩) l.length cp2]] (w2.alloc o2) fun e w' => e = .returned (.bool true) ∧ Below (w2.alloc o2).heap.size (w2.alloc o2) w') := Lib.hid fun o2 => by
        have hx : Below w2.heap.size w2 (w2.alloc o2) := (Below.refl _ _).alloc (Nat.le_refl _) _
        have := maSame (n : Int) n (some ⟨gl, 0, none⟩) (some ⟨g2, 0, none⟩) l l cpl cp2 (w2.alloc o2) (hatl2.below hx (Nat.lt_trans hgl hz2)).bytes (hat2.below hx hg2b).bytes
        simpa using this
      have HA2 := Lib.hid (And.intro hatl2 hbr2)
      clear c0 c1 hb2 hat2 hatl2 hbr2 hg2a hcp2
      go_wp2_with (go_at_call 11; (with_reducible refine (H11.out _).mono ?_); rintro e w4 ⟨rfl, hb4⟩; refine Hid.out ?_)
      refine Lib.hid ?_
      have hz4 : w2.heap.size < w4.heap.size := by have := hb4.size; simp at this; omega
      have hb24 : Below w2.heap.size w2 w4 := ((Below.refl _ _).alloc (Nat.le_refl _) _).trans (hb4.mono (by simp))
      have x0 : w4.cell? ⟨wr.heap.size, 0, none⟩ = some (.int .i64 n) := (hb24.cell (p := ⟨wr.heap.size, 0, none⟩) hz2).trans d0
      have x1 : w4.cell? ⟨wr.heap.size, 1, none⟩ = some (.slice (some ⟨gl, 0, none⟩) l.length cpl) := (hb24.cell (p := ⟨wr.heap.size, 1, none⟩) hz2).trans d1
      have hbr4 : Below wr.heap.size wr w4 := HA2.out.2.trans (hb24.mono HA2.out.2.size)
      have hatl4 : At w4 gl 0 l := HA2.out.1.below hb24 (Nat.lt_trans hgl hz2)
      have H15' : Hid (Calls Tryz.prog 15 #[.slice (some ⟨w4.heap.size, 0, none⟩) 1 1] (w4.alloc (.cells #[.int .i64 n, .slice (some ⟨gl, 0, none⟩) l.length cpl] 24)) fun e w' => ∃ gy cy, e = .returned (.slice (some ⟨gy, 0, none⟩) K cy) ∧ Below wr.heap.size wr w') := Lib.hid (by
        refine (H15.out w4.heap.size 0 1 _ (by simp [go_sem]) (by simp [go_sem]) (hatl4.below ((Below.refl _ _).alloc (Nat.le_refl _) _) (by omega)) (by simp; omega)).mono ?_
        rintro e w' ⟨gy, cy, rfl, hb⟩
        exact ⟨gy, cy, rfl, (hbr4.alloc hbr4.size _).trans (hb.mono (by have := hbr4.size; simp; omega))⟩)
      have q1 : decide ((K : Int) < 1) = false := by simp; omega
      have q2 : decide ((N : Int) < (K : Int)) = false := by simp; omega
      have q3 : (0 : Int) ≤ (K : Int) := by omega
      have q4 : (K : Int) ≤ (N : Int) := by omega
      clear d0 d1 hb4 hb24 H11 HA2 hatl4 hbr4
      rcases Decidable.em (K = cp') with rfl | hcc
      all_goals
        go_wp2_with (go_at_call 15; (with_reducible refine H15'.out.mono ?_); rintro e w5 ⟨gy, cy, rfl, hb5⟩)
        obtain ⟨hNN, hMM, hKK⟩ := HNS.out
        have hl2 := HL2.out
        have hlt2 := HLT.out
        have hNM : N - K = (allBytes (cs.drop (k + 1))).length := by omega
        have hk1 : k + 1 ≤ cs.length := hlt2
        have hb6 := hbl.trans (hb5.mono hw1)
        first
          | exact ⟨⟨k + 1, o' + K, cp' - K, by go_num, hk1, by rw [hNM], by omega, Lib.hid (HD1.out.below hb5 hgr), hb6⟩, by simp [intOf]; omega⟩
          | exact ⟨⟨k + 1, o', 0, by go_num, hk1, by rw [show (allBytes (cs.drop (k + 1))).length = 0 by omega], by omega, Lib.hid (by intro j hj; omega), hb6⟩, by simp [intOf]; omega⟩
          | done
    · have hke : k = cs.length := by omega
      subst hke
      have hd : (allBytes (cs.drop cs.length)).length = 0 := by rw [List.drop_length]; rfl
      rw [hd]
      have HA := Lib.hid (maAwake wr)
      have hbw : Below w.heap.size w wr := HR1.out.2.2.trans (hbl.mono HR1.out.2.2.size)
      go_wp2_with (go_at_call 9; (with_reducible refine HA.out.mono ?_); rintro e w5 ⟨rfl, hb5⟩)
      go_ret
      exact ⟨rfl, hbw.trans (hb5.mono hbw.size)⟩
end Go.Proofs.YtnpcmmjdojdmnaaGreatDoor
namespace Go.Proofs.YtnpcmmjdojdmnaaGreatDoor
open Go Go.RowKit Go.Sort

set_option maxRecDepth 100000 in
set_option maxHeartbeats 4000000 in
theorem fnMaOne (HT : AllTrans) (p : Option Addr) (b : List UInt8) (cp : Nat) (hcp : b.length ≤ cp) (w : World) (he : Env w) (hB : BytesAt w p b) :
    Calls Tryz.prog 4 #[.slice p b.length cp] w fun e w' => e = .returned (.bool true) ∧ Below w.heap.size w w' := by
  by_cases h31 : 2147483647 < b.length
  · have e1 : decide (2147483647 < (b.length : Int)) = true := by simp; omega
    clear he hB
    go_enter Tryz.func4, Tryz.ntmps4
    go_wp2
    go_ret
    exact ⟨rfl, Below.refl _ _⟩
  have e1 : decide (2147483647 < (b.length : Int)) = false := by simp; omega
  by_cases h2000 : 2000 < b.length
  · have e2 : decide (2000 < (b.length : Int)) = true := by simp; omega
    have HA := Lib.hid (maAwake w)
    clear he hB
    go_enter Tryz.func4, Tryz.ntmps4
    go_wp2_with (go_at_call 9; (with_reducible refine HA.out.mono ?_); rintro e w5 ⟨rfl, hb5⟩)
    go_ret
    exact ⟨rfl, hb5⟩
  have e2 : decide (2000 < (b.length : Int)) = false := by simp; omega
  by_cases hrd : ∃ cs, RdOk b cs
  · obtain ⟨cs, hrd⟩ := hrd
    have hb1 : 0 < b.length := by
      have h1 := List.length_pos_iff.2 hrd.2.1
      have := allBytes_len cs
      rw [← hrd.1] at this
      omega
    cases p with
    | none =>
      rw [hB.1 rfl] at hb1
      simp at hb1
    | some a =>
      obtain ⟨g, o, rfl, hat⟩ := at_of_bytes hB hb1
      exact fnMaOne_loop HT b cs hrd g o cp w he hat hcp (by omega)
  · have H13 := Lib.hid (parseNo HT b hrd p cp w he hB hcp (by omega))
    have HA := Lib.hid (fun wx => maAwake wx)
    clear he hB hrd
    go_enter Tryz.func4, Tryz.ntmps4
    go_wp2_with (first
      | (go_at_call 13; (with_reducible refine H13.out.mono ?_); rintro e w1 ⟨rfl, hb1⟩)
      | (go_at_call 9; (with_reducible refine (HA.out _).mono ?_); rintro e w5 ⟨rfl, hb5⟩))
    go_ret
    exact ⟨rfl, hb1.trans (hb5.mono hb1.size)⟩
end Go.Proofs.YtnpcmmjdojdmnaaGreatDoor
