/- spec.MaFrames (16) at any bytes. -/
import Derived.Test.YtnpcmmjdojdmnaaGreatDoorSf
import Derived.Test.YtnpcmmjdojdmnaaGreatDoorSf
import Derived.Test.YtnpcmmjdojdmnaaGreatDoorSk
import Derived.Test.YtnpcmmjdojdmnaaGreatDoorTm
import Derived.Test.YtnpcmmjdojdmnaaGreatDoorTm
namespace Go.Proofs.YtnpcmmjdojdmnaaGreatDoor
open Go Go.RowKit Go.Sort

theorem slice_head (g o n c m : Nat) (hm : m ≤ c) : ∀ W, (Instr.sliceAt 22 (.slice (some ⟨g, o, none⟩) n c) none (some (.int .i64 (m : Int))) none).run Tryz.prog W = .ok (.slice (some ⟨g, o, none⟩) m c) W := fun W => by
  have hu : Tryz.prog.underlying 22 = some (.slice (Tryz.prog.elem 22)) := by simp [Program.elem, Tryz.underlying22]
  rw [run_sliceAt_slice W 22 _ _ _ _ hu, run_slice_h W 22 _ _ _ hu .i64 (m : Int) (by omega) (by omega)]
  simp [go_sem, Go.sliced, Program.elem, Tryz.underlying22]

theorem at_shift {w : World} {g o o' : Nat} {z : List UInt8} (h : At w g o z) (k : Nat) (hk : k ≤ z.length) (ho : o' = o + k ∨ (z.length - k = 0 ∧ o' = o)) : At w g o' (z.drop k) := fun j hj => by
  rw [List.length_drop] at hj
  have ho : o' = o + k := by omega
  have := h (k + j) (by omega)
  rw [ho, show o + k + j = o + (k + j) by omega, this, List.getElem_drop]

theorem XsI.push {B : Nat} {w : World} {cs : List (Int × List UInt8)} {g cp : Nat} {xs : List Value} {c : Int} {l : List UInt8} (h : XsI B w cs cs.length xs) (hl : xs.length = cs.length * 2) (h3 : B ≤ g) (h4 : g < w.heap.size) (h5 : l.length ≤ cp) (h6 : At w g 0 l) :
    XsI B w (cs ++ [(c, l)]) (cs ++ [(c, l)]).length (xs ++ [.int .i64 c, .slice (some ⟨g, 0, none⟩) l.length cp]) := fun j hj hc => by
  rw [List.length_append, List.length_singleton] at hj
  by_cases hjk : j < cs.length
  · obtain ⟨h1, g', cp', h2, hr⟩ := h j hjk hjk
    rw [List.getElem_append_left hjk]
    exact ⟨by rw [List.getElem?_append_left (by omega)]; exact h1, g', cp', by rw [List.getElem?_append_left (by omega)]; exact h2, hr⟩
  · obtain rfl : j = cs.length := by omega
    rw [List.getElem_append_right (Nat.le_refl _)]
    simp only [Nat.sub_self, List.getElem_singleton]
    refine ⟨?_, g, cp, ?_, h3, h4, h5, h6⟩
    · rw [List.getElem?_append_right (by omega), show cs.length * 2 - xs.length = 0 by omega]; rfl
    · rw [List.getElem?_append_right (by omega), show cs.length * 2 + 1 - xs.length = 1 by omega]; rfl

/-- What MaFrames hands back. -/
def FrOut (B : Nat) (b : List UInt8) (e : Ending) (w' : World) : Prop :=
  (∃ cs v, FrOk b cs ∧ e = .returned (.tuple #[v, .bool true]) ∧ IOut B w' v cs) ∨ ((¬ ∃ cs, FrOk b cs) ∧ e = .returned (.tuple #[.slice none 0 0, .bool false]))

set_option maxRecDepth 100000 in
set_option maxHeartbeats 16000000 in
theorem frames16 (b : List UInt8) (g o cp : Nat) (w : World) (hc : At w g o b) (hb1 : 1 ≤ b.length) (hcp : b.length ≤ cp) (hlim : b.length ≤ 1000000) :
    Calls Tryz.prog 16 #[.slice (some ⟨g, o, none⟩) b.length cp] w fun e w' => FrOut w.heap.size b e w' ∧ Below w.heap.size w w' := by
  obtain ⟨i0, hi, hz0, hz1, hz2⟩ := info_parts info5
  obtain ⟨j0, hj, hy0, hy1, hy2⟩ := info_parts info24
  have hg : g < w.heap.size := hc.lt (by omega)
  have HC := Lib.hid hc
  have HL := Lib.hid (And.intro hb1 hlim)
  clear hc hb1 hlim
  go_enter Tryz.func16, Tryz.ntmps16
  go_wp2
  go_loopw [0, 4] (fun v0 v4 wr => ∃ (done : List (Int × List UInt8)) (todo : List UInt8) (xs : List Value) (o' cp' : Nat), v0 = .slice (some ⟨g, o', none⟩) todo.length cp' ∧ todo.length ≤ cp' ∧ wr.ownsRow w.heap.size 24 2 v4 done.length xs ∧ Hid (At wr g o' todo ∧ XsI w.heap.size wr done done.length xs ∧ FrSt b done todo) ∧ Below w.heap.size w wr) (fun v0 _ _ => match v0 with | .slice _ n _ => n | _ => 0)
  case atStart => exact ⟨[], b, [], o, cp, rfl, hcp, World.ownsRow_nil _ _ _ _, Lib.hid ⟨HC.out, (fun j h => (by cases h)), rfl, (fun x hx => (by cases hx))⟩, Below.refl _ _⟩
  case round =>
    obtain ⟨done, todo, xs, o', cp', rfl, hcp', hown, hall, hbl⟩ := hrel
    by_cases h0 : todo.length = 0
    · have ht : todo = [] := List.length_eq_zero_iff.1 h0
      subst ht
      have hFR := Lib.hid hall.out.2.2.done
      have hne : 0 < done.length := by
        cases hd : done with
        | nil => have := HL.out.1; have h2 := hFR.out.1; rw [hd] at h2; rw [h2] at this; simp [allBytes] at this
        | cons x r => simp
      have HO := Lib.hid hown
      rcases hown.2 with ⟨_, h⟩ | ⟨bb, cap, cur, hv, hbase, hheap, hle, hmax, hcur, htake⟩
      · omega
      subst hv
      have HA : Hid (IRowN w.heap.size wr bb done) := Lib.hid fun j hj => by
        obtain ⟨y1, g', cp', y2, hr⟩ := hall.out.2.1 j hj hj
        exact ⟨by rw [HO.out.cellAt _ (by omega)]; exact y1, g', cp', by rw [HO.out.cellAt _ (by omega)]; exact y2, hr⟩
      have hbl' := (hown.lt bb rfl).2
      clear hown hheap htake hcur hall
      go_wp2
      go_ret2
      exact ⟨Or.inl ⟨done, _, hFR.out, rfl, bb, cap, rfl, hbase, hbl', hle, HA.out⟩, hbl⟩
    have H38 := Lib.hid (readVarint38 g o' todo.length cp' todo wr rfl hall.out.1)
    have HST := Lib.hid hall.out.2.2
    have HNO : Hid (readF todo = none → ¬ ∃ cs, FrOk b cs) := Lib.hid fun h => HST.out.no (readF_none h (by omega))
    have hgr : g < wr.heap.size := Nat.lt_of_lt_of_le hg hbl.size
    obtain ⟨Nt, hNt⟩ : ∃ Nt, Nt = todo.length := ⟨_, rfl⟩
    rw [← hNt] at H38 h0 hcp' ⊢
    have HNt := Lib.hid hNt
    clear hNt
    cases hv : rdVar todo with
    | none =>
      rw [hv] at H38
      have HN := Lib.hid (HNO.out (by rw [readF, rdCode, hv]))
      clear hv hown hall
      go_wp2_with (go_at_call 38; (with_reducible refine H38.out.mono ?_); rintro e w2 ⟨⟨v, n, rfl⟩, hb2⟩)
      go_ret2
      exact ⟨Or.inr ⟨HN.out, rfl⟩, hbl.trans (hb2.mono hbl.size)⟩
    | some x =>
      obtain ⟨v, n⟩ := x
      rw [hv] at H38
      obtain ⟨r, hr, hn, hv63⟩ := rdVar_some hv
      by_cases hbig : 2147483647 < v
      · have HN := Lib.hid (HNO.out (by rw [readF, rdCode, hv]; simp only [if_pos hbig]))
        clear hv hown hall hr hn
        go_wp2_with (go_at_call 38; (with_reducible refine H38.out.mono ?_); rintro e w2 ⟨rfl, hb2⟩)
        go_ret2
        exact ⟨Or.inr ⟨HN.out, rfl⟩, hbl.trans (hb2.mono hbl.size)⟩
      have hcode : rdCode todo = some (v, n) := by rw [rdCode, hv]; exact if_neg hbig
      have HM := Lib.hid (maProtocol (v : Int))
      have hdr : todo.drop n = r := by rw [hr, hn, List.drop_left]
      by_cases hk : known (v : Int) = false
      · have HN := Lib.hid (HNO.out (by rw [readF, hcode]; simp only [if_pos hk]))
        rw [hk] at HM
        clear hv hown hall hr hn hcode hdr hk
        go_wp2_with (first
          | (go_at_call 38; (with_reducible refine H38.out.mono ?_); rintro e w2 ⟨rfl, hb2⟩)
          | (go_at_call 24; (with_reducible refine (HM.out _).mono ?_); rintro e w3 ⟨rfl, hb3⟩))
        go_ret2
        exact ⟨Or.inr ⟨HN.out, rfl⟩, (hbl.trans (hb2.mono hbl.size)).trans ((hb3.mono (hbl.trans (hb2.mono hbl.size)).size).alloc (by have := hb3.size; have := hb2.size; have := hbl.size; omega) _)⟩
      have hk : known (v : Int) = true := by simpa using hk
      rw [hk] at HM
      have hnl : n ≤ Nt := by have := HNt.out; rw [this, hr, hn, List.length_append]; omega
      have hrl : r.length = Nt - n := by have := HNt.out; rw [this, hr, hn, List.length_append]; omega
      obtain ⟨o2, c2, hs2, hc2, ho2⟩ := slice_tail g o' Nt cp' n hnl hcp'
      obtain ⟨rl, hrle⟩ : ∃ rl, rl = Nt - n := ⟨_, rfl⟩
      have hrI : (Nt : Int) - (n : Int) = (rl : Int) := by omega
      have hrN : Nt - n = rl := hrle.symm
      rw [← hrle] at hs2 hc2 ho2 hrl
      clear hrle
      have hatr : At wr g o2 r := by
        have h1 := hall.out.1
        rw [hr] at h1
        have h2 := at_shift (o' := o2) h1 n (by rw [List.length_append]; omega) (by rw [List.length_append, ← hn]; omega)
        rwa [hn, List.drop_left] at h2
      have hrB : r.length ≤ 1000000 := by
        have h1 := HL.out.2
        have h2 := congrArg List.length HST.out.1
        rw [List.length_append, hr, List.length_append] at h2
        omega
      have HRD : Hid (readF todo = if psz (v : Int) < 0 then (match rdVar r with
          | none => none
          | some (m, k) => if (r.drop k).length < m then none else some ((v : Int), (r.drop k).take m))
        else if r.length < (psz (v : Int)).toNat / 8 then none else some ((v : Int), r.take ((psz (v : Int)).toNat / 8))) := Lib.hid (by
        rw [readF, hcode]
        simp only [hk, hdr]
        rfl)
      have HALL := Lib.hid (And.intro hall.out.2.1 (And.intro hatr (And.intro hr hn)))
      clear hatr hall hr hn hcode hdr hv hk ho2
      rw [hrl] at hrB
      have hn1 : 1 ≤ n := by
        have h1 := HALL.out.2.2.2
        have h2 := Lib.uvarint_pos v
        omega
      by_cases hneg : psz (v : Int) < 0
      · have hz := psz_neg hneg
        rw [hz] at HM
        have HRD2 := HRD.out
        rw [if_pos hneg] at HRD2
        have HRD := Lib.hid HRD2
        have HNEG := Lib.hid hneg
        clear HRD2
        have H38b : Hid (∀ wx, Below wr.heap.size wr wx → Calls Tryz.prog 38 #[.slice (some ⟨g, o2, none⟩) rl c2] wx fun e w' => RdV (rdVar r) e ∧ Below wx.heap.size wx w') := Lib.hid fun wx hb => readVarint38 g o2 rl c2 r wx hrl (HALL.out.2.1.below hb hgr)
        have HRL := Lib.hid hrl
        clear hz hneg hrl
        cases hv2 : rdVar r with
        | none =>
          rw [hv2] at H38b
          have HN := Lib.hid (HNO.out (by rw [HRD.out, hv2]))
          clear hv2
          go_wp2_with (first
            | (go_at_call 38; (with_reducible refine H38.out.mono ?_); rintro e w2 ⟨rfl, hb2⟩)
            | (go_at_call 24; (with_reducible refine (HM.out _).mono ?_); rintro e w3 ⟨rfl, hb3⟩; have hby : ∀ ob, Below wr.heap.size wr (w3.alloc ob) := fun ob => (hb2.trans (hb3.mono hb2.size)).alloc (hb2.trans (hb3.mono hb2.size)).size ob)
            | (go_at_call 38; (with_reducible refine (H38b.out _ (hby _)).mono ?_); rintro e w5 ⟨⟨v5, n5, rfl⟩, hb5⟩))
          go_ret2
          exact ⟨Or.inr ⟨HN.out, rfl⟩, hbl.trans (((hby _).trans (hb5.mono (hby _).size)).mono hbl.size)⟩
        | some x2 =>
          obtain ⟨m, k⟩ := x2
          rw [hv2] at H38b
          obtain ⟨r2, hr2, hk2, hm63⟩ := rdVar_some hv2
          have hdr2 : r.drop k = r2 := by rw [hr2, hk2, List.drop_left]
          have hkl : k + r2.length = rl := by rw [← HRL.out, hr2, hk2, List.length_append]
          have HRD3 : Hid (readF todo = if r2.length < m then none else some ((v : Int), r2.take m)) := Lib.hid (by rw [HRD.out, hv2]; simp only [hdr2])
          clear hv2
          by_cases hbig2 : rl < m
          · have HN := Lib.hid (HNO.out (by rw [HRD3.out, if_pos (by omega)]))
            clear hr2 hk2 hdr2 hkl
            go_wp2_with (first
              | (go_at_call 38; (with_reducible refine H38.out.mono ?_); rintro e w2 ⟨rfl, hb2⟩)
              | (go_at_call 24; (with_reducible refine (HM.out _).mono ?_); rintro e w3 ⟨rfl, hb3⟩; have hby : ∀ ob, Below wr.heap.size wr (w3.alloc ob) := fun ob => (hb2.trans (hb3.mono hb2.size)).alloc (hb2.trans (hb3.mono hb2.size)).size ob)
              | (go_at_call 38; (with_reducible refine (H38b.out _ (hby _)).mono ?_); rintro e w5 ⟨rfl, hb5⟩))
            go_ret2
            exact ⟨Or.inr ⟨HN.out, rfl⟩, hbl.trans (((hby _).trans (hb5.mono (hby _).size)).mono hbl.size)⟩
          · obtain ⟨r2l, hr2l⟩ : ∃ r2l, r2l = r2.length := ⟨_, rfl⟩
            rw [← hr2l] at hkl HRD3
            obtain ⟨o3, c3, hs3, hc3, ho3⟩ := slice_tail g o2 rl c2 k (by omega) hc2
            rw [show rl - k = r2l by omega] at hs3 hc3 ho3
            have hat2 : At wr g o3 r2 := by
              have h1 := HALL.out.2.1
              rw [hr2] at h1
              have h2 := at_shift (o' := o3) h1 k (by rw [List.length_append]; omega) (by rw [List.length_append, ← hk2]; omega)
              rwa [hk2, List.drop_left] at h2
            clear ho3
            by_cases hsh : r2l < m
            · have HN := Lib.hid (HNO.out (by rw [HRD3.out, if_pos hsh]))
              clear hr2 hk2 hdr2 hkl hat2 hr2l
              go_wp2_with (first
                | (go_at_call 38; (with_reducible refine H38.out.mono ?_); rintro e w2 ⟨rfl, hb2⟩)
                | (go_at_call 24; (with_reducible refine (HM.out _).mono ?_); rintro e w3 ⟨rfl, hb3⟩; have hby : ∀ ob, Below wr.heap.size wr (w3.alloc ob) := fun ob => (hb2.trans (hb3.mono hb2.size)).alloc (hb2.trans (hb3.mono hb2.size)).size ob)
                | (go_at_call 38; (with_reducible refine (H38b.out _ (hby _)).mono ?_); rintro e w5 ⟨rfl, hb5⟩))
              go_ret2
              exact ⟨Or.inr ⟨HN.out, rfl⟩, hbl.trans (((hby _).trans (hb5.mono (hby _).size)).mono hbl.size)⟩
            · have HF : Hid (readF todo = some ((v : Int), r2.take m)) := Lib.hid (by rw [HRD3.out, if_neg hsh])
              have HTD : Hid (todo = compBytes v (r2.take m) ++ r2.drop m) := Lib.hid (by
                have hl : (r2.take m).length = m := by rw [List.length_take]; omega
                rw [HALL.out.2.2.1, hr2, compBytes, if_pos HNEG.out, hl, Int.toNat_natCast, List.append_assoc, List.append_assoc, List.take_append_drop])
              have HR2L := Lib.hid hr2l.symm
              have hrle : r2l ≤ rl := by omega
              have hmB : m ≤ 1000000 := by omega
              clear hr2 hk2 hdr2 hkl hr2l
              obtain ⟨l, hl⟩ : ∃ l, l = r2.take m := ⟨_, rfl⟩
              obtain ⟨rest, hrest⟩ : ∃ rest, rest = r2.drop m := ⟨_, rfl⟩
              have hml : m ≤ r2l := by omega
              have hlm : l.length = m := by rw [hl, List.length_take]; first | omega | (have := HR2L.out; omega)
              have hrestl : rest.length = r2l - m := by rw [hrest, List.length_drop]; first | omega | (have := HR2L.out; omega)
              have HOK : Hid (OkF v l ∧ todo = compBytes v l ++ rest) := Lib.hid ⟨by rw [hl]; exact (readF_some HF.out).1, by rw [hl, hrest]; exact HTD.out⟩
              have HAT : Hid (At wr g o3 l) := Lib.hid fun j hj => by
                have hj2 : j < m := by omega
                have h1 := hat2 j (by first | omega | (have := HR2L.out; omega))
                rw [h1]
                simp only [hl, List.getElem_take]
              obtain ⟨o6, c6, hs6, hc6, ho6⟩ := slice_tail g o3 r2l c3 m hml (by omega)
              have HAR : Hid (At wr g o6 rest) := Lib.hid (by
                rw [hrest]
                exact at_shift (o' := o6) hat2 m (by first | omega | (have := HR2L.out; omega)) (by first | omega | (have := HR2L.out; omega)))
              clear ho6
              have hsl := slice_head g o3 r2l c3 m (by omega)
              obtain ⟨ql, hql⟩ : ∃ ql, ql = r2l - m := ⟨_, rfl⟩
              rw [← hql] at hs6 hc6 hrestl
              have HQ := Lib.hid (And.intro hlm hrestl)
              have HM5 : Hid (ql < Nt) := Lib.hid (by omega)
              clear hl hrest hql
              go_wp2_with (first
                | (go_at_call 38; (with_reducible refine H38.out.mono ?_); rintro e w2 ⟨rfl, hb2⟩)
                | (go_at_call 24; (with_reducible refine (HM.out _).mono ?_); rintro e w3 ⟨rfl, hb3⟩; have hby : ∀ ob, Below wr.heap.size wr (w3.alloc ob) := (fun ob => (hb2.trans (hb3.mono hb2.size)).alloc (hb2.trans (hb3.mono hb2.size)).size ob))
                | (go_at_call 38; (with_reducible refine (H38b.out _ (hby _)).mono ?_); rintro e w5 ⟨rfl, hb5⟩; refine Hid.out ?_))
              refine Lib.hid ?_
              have hbY : Below wr.heap.size wr w5 := (hby _).trans (hb5.mono (hby _).size)
              have hownY : w5.ownsRow w.heap.size 24 2 u4 done.length xs := hown.kept (row := none) ⟨hbY.os, hbY.tape, hbY.output, hbY.size, fun k hk _ => hbY.block k hk⟩ (by cases hh : Value.ownBlock _ <;> simp)
              have HXY := Lib.hid (HALL.out.1.below hbY (Nat.le_refl _))
              have hzY := hbY.size
              have hzl := hbl.size
              have hatS : At (w5.alloc (.cells #[] 5)) g o3 l := HAT.out.below (hbY.alloc hbY.size _) hgr
              go_wp2_with (at_builtin; refine wpList_append_src_own _ rfl (.tmp 73) (.tmp 76) 22 22 rfl w.heap.size 5 i0 (.int .u8 0) 1 1 Tryz.underlying22 hi hz0 hz1 hz2 rfl w5.heap.size 0 0 (byteVals []) rfl (owns_empty w5 (by omega)) _ rfl m (byteVals l) ?d1 ?d2 ?d3 ?d4 ?_)
              case d1 =>
                have h1 := BytesAt.src (P := Tryz.prog) Tryz.underlying22 (At.bytes hatS) c3
                rw [HQ.out.1] at h1
                exact h1
              case d2 => unfold maxLen; omega
              case d3 => omega
              case d4 => simp; omega
              intro g4 cap4 w4 hown4 hgrow4 hgg4
              have hbA : Below w5.heap.size w5 w4 := ((Below.refl _ _).alloc (Nat.le_refl _) _).grown hgrow4 (by simp <;> omega) (fun k hk => by simp at hk; omega)
              have hown5 : w4.ownsRow w.heap.size 5 1 (.slice (some ⟨g4, 0, none⟩) m cap4) m (byteVals l) := by simpa [byteVals] using hown4
              have hg4 : w5.heap.size ≤ g4 := by (try simp at hgg4); omega
              have hg4b : g4 < w4.heap.size := (hown5.lt g4 rfl).2
              have hcap4 : m ≤ cap4 := by
                rcases hown5.2 with ⟨h, _⟩ | ⟨b, cap, cur, hv, hbase, hheap, hle, hmax, hcur, htake⟩
                · simp at h
                · simp only [Value.slice.injEq, Option.some.injEq, Addr.mk.injEq, and_true, true_and] at hv
                  omega
              have hat4 : At w4 g4 0 l := fun j hj => by
                have := hown5.cells (g := g4) rfl j (.int .u8 l[j].toNat) (by simp [byteVals, hj])
                rwa [Addr.add_lit] at this
              have hownA : w4.ownsRow w.heap.size 24 2 u4 done.length xs := hownY.kept (row := none) ⟨hbA.os, hbA.tape, hbA.output, hbA.size, fun k hk _ => hbA.block k hk⟩ (by cases hh : Value.ownBlock _ <;> simp)
              have HX4 := Lib.hid (HXY.out.below hbA (Nat.le_refl _))
              have HLT := Lib.hid (fun b (h : Value.ownBlock u4 = some b) => (hownY.lt b h).2)
              have HAT4 := Lib.hid (And.intro hat4 (And.intro hg4 (And.intro hg4b hcap4)))
              have hbw4 : Below w.heap.size w w4 := (hbl.trans (hbY.mono hzl)).trans (hbA.mono (by omega))
              have HBW := Lib.hid hbw4
              have hzw := hbw4.size
              have hzA := hbA.size
              have hdn : done.length ≤ 1000000 := by
                have h1 := HL.out.2
                have h2 := congrArg List.length HST.out.1
                have h3 := allBytes_len done
                rw [List.length_append] at h2
                omega
              have HFIN := Lib.hid hbA
              clear hown4 hown5 hgrow4 hgg4 hat4 hcap4 hbA hbw4 hownY hbY hsl hg4 hg4b 
              go_wp2_with (at_builtin; refine wpList_append_own _ rfl (.tmp 70) (.tmp 79) 31 rfl w.heap.size 24 j0 (.agg #[.int .i64 0, .slice none 0 0]) 2 32 Tryz.underlying31 hj hy0 hy1 hy2 rfl (by decide) _ _ _ rfl (hownA.alloc _) ⟨w4.heap.size, 0, none⟩ 1 1 [.int .i64 v, .slice (some ⟨g4, 0, none⟩) m cap4] rfl rfl (cell_two_new _ _ _ _) ?c2 ?c3 ?c4 ?c5 ?_)
              case c2 =>
                intro u hu
                simp only [List.mem_cons, List.not_mem_nil, or_false] at hu
                rcases hu with rfl | rfl <;> rfl
              case c3 => unfold maxLen; omega
              case c4 => omega
              case c5 => simp; omega
              intro v' wz hownz hgrowz _
              obtain ⟨hat4, hg4, hg4b, hcap4⟩ := HAT4.out
              have hbz : Below w.heap.size w wz := (HBW.out.alloc hzw _).grown hgrowz (by simp; omega) (fun k hk => (hownA.lt k hk).1)
              have hszz : w4.heap.size ≤ wz.heap.size := by have := hgrowz.size; simp at this; omega
              have hsame : ∀ (g : Nat) (z : List UInt8), g < w4.heap.size → At w4 g 0 z → (z = [] ∨ Value.ownBlock u4 ≠ some g) → At wz g 0 z := fun g z hg ha hne j hj => by
                rcases hne with rfl | hne
                · cases hj
                · have h1 : (w4.alloc (.cells #[.int .i64 v, .slice (some ⟨g4, 0, none⟩) m cap4] 24)).cell? ⟨g, 0 + j, none⟩ = _ := (World.cell?_alloc_past _ _ _ hg).trans (ha j hj)
                  rw [World.cell?_of_block (hgrowz.block g (by simp; omega) (fun e => hne e.symm))]
                  exact h1
              have hatz : At wz g4 0 l := hsame g4 l hg4b hat4 (Or.inr (fun e => by have := HLT.out g4 e; omega))
              have hXz : XsI w.heap.size wz done done.length xs := by
                intro j hj hc
                obtain ⟨y1, g', cp1, y2, y3, y4, y5, y6⟩ := HX4.out j hj hc
                refine ⟨y1, g', cp1, y2, y3, by omega, y5, hsame g' _ y4 y6 ?_⟩
                by_cases he : done[j].2 = []
                · exact Or.inl he
                · refine Or.inr (fun hrow => ?_)
                  have hcells := (hownA.alloc (.cells #[.int .i64 v, .slice (some ⟨g4, 0, none⟩) m cap4] 24)).cells hrow
                  obtain ⟨z1, _⟩ := HX4.out 0 (by omega) (by omega)
                  have z0 := hcells 0 _ z1
                  rw [Addr.add_lit, World.cell?_alloc_past _ _ _ y4] at z0
                  have := y6 0 (List.length_pos_iff.2 he)
                  rw [this] at z0
                  cases z0
              have hXe := hXz.push (c := (v : Int)) (l := l) (g := g4) (cp := cap4) hownA.1 (by omega) (by omega) (by rw [HQ.out.1]; exact hcap4) hatz
              rw [HQ.out.1] at hXe
              have HO5 := Lib.hid (And.intro hownz (And.intro hXe hbz))
              clear hownz hXz hXe hbz hgrowz hownA hat4 hatz hsame
              go_wp2
              obtain ⟨hownz, hXe, hbz⟩ := HO5.out
              refine ⟨⟨done ++ [((v : Int), l)], rest, _, o6, c6, by rw [HQ.out.2], by rw [HQ.out.2]; exact hc6, by rw [List.length_append, List.length_singleton]; exact hownz, Lib.hid ⟨fun j hj => ?_, hXe, HST.out.step HOK.out.1 HOK.out.2⟩, hbz⟩, HM5.out⟩
              exact (hbz.cell (p := ⟨g, o6 + j, none⟩) hg).trans ((hbl.cell (p := ⟨g, o6 + j, none⟩) hg).symm.trans (HAR.out j hj))
      · have hz := psz_nat (c := (v : Int)) hneg
        have HRD2 := HRD.out
        rw [if_neg hneg] at HRD2
        have HNEG := Lib.hid hneg
        obtain ⟨m, hm⟩ : ∃ m, m = (psz (v : Int)).toNat / 8 := ⟨_, rfl⟩
        have hm100 : m ≤ 100 := by
          rcases psz_of (v : Int) with h | ⟨k, h, h2⟩ <;> omega
        rw [← hm] at hz HRD2
        rw [hz] at HM
        have HRD := Lib.hid HRD2
        have HRL := Lib.hid hrl
        clear hz HRD2 hm hneg hrl
        by_cases hsh : rl < m
        · have HN := Lib.hid (HNO.out (by rw [HRD.out, if_pos (by rw [HRL.out]; exact hsh)]))
          go_wp2_with (first
            | (go_at_call 38; (with_reducible refine H38.out.mono ?_); rintro e w2 ⟨rfl, hb2⟩)
            | (go_at_call 24; (with_reducible refine (HM.out _).mono ?_); rintro e w3 ⟨rfl, hb3⟩; have hby : ∀ ob, Below wr.heap.size wr (w3.alloc ob) := fun ob => (hb2.trans (hb3.mono hb2.size)).alloc (hb2.trans (hb3.mono hb2.size)).size ob))
          go_ret2
          exact ⟨Or.inr ⟨HN.out, rfl⟩, hbl.trans ((hby _).mono hbl.size)⟩
        · have HF : Hid (readF todo = some ((v : Int), r.take m)) := Lib.hid (by rw [HRD.out, if_neg (by rw [HRL.out]; exact hsh)])
          have HTD : Hid (todo = compBytes v (r.take m) ++ r.drop m) := Lib.hid (by
            rw [HALL.out.2.2.1, compBytes, if_neg HNEG.out, List.append_nil, Int.toNat_natCast, List.append_assoc, List.take_append_drop])
          have hmB : m ≤ 1000000 := by omega
          have hrle : rl ≤ rl := Nat.le_refl _
          obtain ⟨l, hl⟩ : ∃ l, l = r.take m := ⟨_, rfl⟩
          obtain ⟨rest, hrest⟩ : ∃ rest, rest = r.drop m := ⟨_, rfl⟩
          have hml : m ≤ rl := by omega
          have hlm : l.length = m := by rw [hl, List.length_take]; first | omega | (have := HRL.out; omega)
          have hrestl : rest.length = rl - m := by rw [hrest, List.length_drop]; first | omega | (have := HRL.out; omega)
          have HOK : Hid (OkF v l ∧ todo = compBytes v l ++ rest) := Lib.hid ⟨by rw [hl]; exact (readF_some HF.out).1, by rw [hl, hrest]; exact HTD.out⟩
          have HAT : Hid (At wr g o2 l) := Lib.hid fun j hj => by
            have hj2 : j < m := by omega
            have h1 := HALL.out.2.1 j (by first | omega | (have := HRL.out; omega))
            rw [h1]
            simp only [hl, List.getElem_take]
          obtain ⟨o6, c6, hs6, hc6, ho6⟩ := slice_tail g o2 rl c2 m hml (by omega)
          have HAR : Hid (At wr g o6 rest) := Lib.hid (by
            rw [hrest]
            exact at_shift (o' := o6) HALL.out.2.1 m (by first | omega | (have := HRL.out; omega)) (by first | omega | (have := HRL.out; omega)))
          clear ho6
          have hsl := slice_head g o2 rl c2 m (by omega)
          obtain ⟨ql, hql⟩ : ∃ ql, ql = rl - m := ⟨_, rfl⟩
          rw [← hql] at hs6 hc6 hrestl
          have HQ := Lib.hid (And.intro hlm hrestl)
          have HM5 : Hid (ql < Nt) := Lib.hid (by omega)
          clear hl hrest hql
          go_wp2_with (first
            | (go_at_call 38; (with_reducible refine H38.out.mono ?_); rintro e w2 ⟨rfl, hb2⟩)
            | (go_at_call 24; (with_reducible refine (HM.out _).mono ?_); rintro e w3 ⟨rfl, hb3⟩; have hby : ∀ ob, Below wr.heap.size wr (w3.alloc ob) := (fun ob => (hb2.trans (hb3.mono hb2.size)).alloc (hb2.trans (hb3.mono hb2.size)).size ob); refine Hid.out ?_))
          refine Lib.hid ?_
          have hbY : Below wr.heap.size wr w3 := hb2.trans (hb3.mono hb2.size)
          have hownY : w3.ownsRow w.heap.size 24 2 u4 done.length xs := hown.kept (row := none) ⟨hbY.os, hbY.tape, hbY.output, hbY.size, fun k hk _ => hbY.block k hk⟩ (by cases hh : Value.ownBlock _ <;> simp)
          have HXY := Lib.hid (HALL.out.1.below hbY (Nat.le_refl _))
          have hzY := hbY.size
          have hzl := hbl.size
          have hatS : ∀ ob, At ((w3.alloc ob).alloc (.cells #[] 5)) g o2 l := fun ob => HAT.out.below ((hbY.alloc hbY.size _).alloc (by have := hbY.size; simp; omega) _) hgr
          go_wp2_with (at_builtin; refine wpList_append_src_own _ rfl (.tmp 73) (.tmp 76) 22 22 rfl w.heap.size 5 i0 (.int .u8 0) 1 1 Tryz.underlying22 hi hz0 hz1 hz2 rfl (w3.heap.size + 1) 0 0 (byteVals []) rfl (owns_empty1 w3 _ (by omega)) _ rfl m (byteVals l) ?d1 ?d2 ?d3 ?d4 ?_)
          case d1 =>
            have h1 := fun ob => BytesAt.src (P := Tryz.prog) Tryz.underlying22 (At.bytes (hatS ob)) c2
            simp only [HQ.out.1] at h1
            exact h1 _
          case d2 => unfold maxLen; omega
          case d3 => omega
          case d4 => simp; omega
          intro g4 cap4 w4 hown4 hgrow4 hgg4
          have hbA : Below w3.heap.size w3 w4 := (((Below.refl _ _).alloc (Nat.le_refl _) _).alloc (by simp) _).grown hgrow4 (by simp <;> omega) (fun k hk => by simp at hk; omega)
          have hown5 : w4.ownsRow w.heap.size 5 1 (.slice (some ⟨g4, 0, none⟩) m cap4) m (byteVals l) := by simpa [byteVals] using hown4
          have hg4 : w3.heap.size ≤ g4 := by (try simp at hgg4); omega
          have hg4b : g4 < w4.heap.size := (hown5.lt g4 rfl).2
          have hcap4 : m ≤ cap4 := by
            rcases hown5.2 with ⟨h, _⟩ | ⟨b, cap, cur, hv, hbase, hheap, hle, hmax, hcur, htake⟩
            · simp at h
            · simp only [Value.slice.injEq, Option.some.injEq, Addr.mk.injEq, and_true, true_and] at hv
              omega
          have hat4 : At w4 g4 0 l := fun j hj => by
            have := hown5.cells (g := g4) rfl j (.int .u8 l[j].toNat) (by simp [byteVals, hj])
            rwa [Addr.add_lit] at this
          have hownA : w4.ownsRow w.heap.size 24 2 u4 done.length xs := hownY.kept (row := none) ⟨hbA.os, hbA.tape, hbA.output, hbA.size, fun k hk _ => hbA.block k hk⟩ (by cases hh : Value.ownBlock _ <;> simp)
          have HX4 := Lib.hid (HXY.out.below hbA (Nat.le_refl _))
          have HLT := Lib.hid (fun b (h : Value.ownBlock u4 = some b) => (hownY.lt b h).2)
          have HAT4 := Lib.hid (And.intro hat4 (And.intro hg4 (And.intro hg4b hcap4)))
          have hbw4 : Below w.heap.size w w4 := (hbl.trans (hbY.mono hzl)).trans (hbA.mono (by omega))
          have HBW := Lib.hid hbw4
          have hzw := hbw4.size
          have hzA := hbA.size
          have hdn : done.length ≤ 1000000 := by
            have h1 := HL.out.2
            have h2 := congrArg List.length HST.out.1
            have h3 := allBytes_len done
            rw [List.length_append] at h2
            omega
          have HFIN := Lib.hid hbA
          clear hown4 hown5 hgrow4 hgg4 hat4 hcap4 hbA hbw4 hownY hbY hsl hg4 hg4b 
          go_wp2_with (at_builtin; refine wpList_append_own _ rfl (.tmp 70) (.tmp 79) 31 rfl w.heap.size 24 j0 (.agg #[.int .i64 0, .slice none 0 0]) 2 32 Tryz.underlying31 hj hy0 hy1 hy2 rfl (by decide) _ _ _ rfl (hownA.alloc _) ⟨w4.heap.size, 0, none⟩ 1 1 [.int .i64 v, .slice (some ⟨g4, 0, none⟩) m cap4] rfl rfl (cell_two_new _ _ _ _) ?c2 ?c3 ?c4 ?c5 ?_)
          case c2 =>
            intro u hu
            simp only [List.mem_cons, List.not_mem_nil, or_false] at hu
            rcases hu with rfl | rfl <;> rfl
          case c3 => unfold maxLen; omega
          case c4 => omega
          case c5 => simp; omega
          intro v' wz hownz hgrowz _
          obtain ⟨hat4, hg4, hg4b, hcap4⟩ := HAT4.out
          have hbz : Below w.heap.size w wz := (HBW.out.alloc hzw _).grown hgrowz (by simp; omega) (fun k hk => (hownA.lt k hk).1)
          have hszz : w4.heap.size ≤ wz.heap.size := by have := hgrowz.size; simp at this; omega
          have hsame : ∀ (g : Nat) (z : List UInt8), g < w4.heap.size → At w4 g 0 z → (z = [] ∨ Value.ownBlock u4 ≠ some g) → At wz g 0 z := fun g z hg ha hne j hj => by
            rcases hne with rfl | hne
            · cases hj
            · have h1 : (w4.alloc (.cells #[.int .i64 v, .slice (some ⟨g4, 0, none⟩) m cap4] 24)).cell? ⟨g, 0 + j, none⟩ = _ := (World.cell?_alloc_past _ _ _ hg).trans (ha j hj)
              rw [World.cell?_of_block (hgrowz.block g (by simp; omega) (fun e => hne e.symm))]
              exact h1
          have hatz : At wz g4 0 l := hsame g4 l hg4b hat4 (Or.inr (fun e => by have := HLT.out g4 e; omega))
          have hXz : XsI w.heap.size wz done done.length xs := by
            intro j hj hc
            obtain ⟨y1, g', cp1, y2, y3, y4, y5, y6⟩ := HX4.out j hj hc
            refine ⟨y1, g', cp1, y2, y3, by omega, y5, hsame g' _ y4 y6 ?_⟩
            by_cases he : done[j].2 = []
            · exact Or.inl he
            · refine Or.inr (fun hrow => ?_)
              have hcells := (hownA.alloc (.cells #[.int .i64 v, .slice (some ⟨g4, 0, none⟩) m cap4] 24)).cells hrow
              obtain ⟨z1, _⟩ := HX4.out 0 (by omega) (by omega)
              have z0 := hcells 0 _ z1
              rw [Addr.add_lit, World.cell?_alloc_past _ _ _ y4] at z0
              have := y6 0 (List.length_pos_iff.2 he)
              rw [this] at z0
              cases z0
          have hXe := hXz.push (c := (v : Int)) (l := l) (g := g4) (cp := cap4) hownA.1 (by omega) (by omega) (by rw [HQ.out.1]; exact hcap4) hatz
          rw [HQ.out.1] at hXe
          have HO5 := Lib.hid (And.intro hownz (And.intro hXe hbz))
          clear hownz hXz hXe hbz hgrowz hownA hat4 hatz hsame
          go_wp2
          obtain ⟨hownz, hXe, hbz⟩ := HO5.out
          refine ⟨⟨done ++ [((v : Int), l)], rest, _, o6, c6, by rw [HQ.out.2], by rw [HQ.out.2]; exact hc6, by rw [List.length_append, List.length_singleton]; exact hownz, Lib.hid ⟨fun j hj => ?_, hXe, HST.out.step HOK.out.1 HOK.out.2⟩, hbz⟩, HM5.out⟩
          exact (hbz.cell (p := ⟨g, o6 + j, none⟩) hg).trans ((hbl.cell (p := ⟨g, o6 + j, none⟩) hg).symm.trans (HAR.out j hj))
end Go.Proofs.YtnpcmmjdojdmnaaGreatDoor
