/- validateComponent at a component with a value of fixed length. readComponent at a component with a value of fixed length. readMultiaddr over components of fixed length. NewMultiaddrBytes, NewMultiaddr: the deferred closures find nothing. Multiaddr.Bytes, for addresses of fewer than 128 bytes. impl.MaTextBytes; laws.maAwake holds. laws.maAwake: true. -/
import Derived.Test.YtnpcmmjdojdmnaaGreatDoorQq
import Derived.Test.YtnpcmmjdojdmnaaGreatDoorQi
import Derived.Deep.QuietTactic
import Derived.BigQuiet
import Derived.WalkSmall
import Derived.Lib.LazyBuf
import Derived.Test.YtnpcmmjdojdmnaaGreatDoorQb
import Derived.Test.YtnpcmmjdojdmnaaGreatDoorQp
import Derived.Defers
import Derived.Recover
import Derived.Deep.Onto
import Derived.Deep.AppendSrc
import Derived.Deep.MidRow
namespace Go.Proofs.YtnpcmmjdojdmnaaGreatDoor
open Go Go.RowKit

theorem equalAt {w : World} {g o g' o' : Nat} {l : List UInt8} (h1 : At w g o l) (h2 : At w g' o' l) (c d : Nat) :
    Calls Tryz.prog 151 #[.slice (some ⟨g, o, none⟩) l.length c, .slice (some ⟨g', o', none⟩) l.length d] w fun e w' => e = .returned (.bool true) ∧ w' = w := by
  have h := Tryz.bytes_Equal (.slice (some ⟨g, o, none⟩) l.length c) (.slice (some ⟨g', o', none⟩) l.length d) (l.map fun b => (b.toNat : Int)) (l.map fun b => (b.toNat : Int)) w
    (by rw [Lib.Lz.strOfNums_map]; exact convert_bytes h1.bytes c) (by rw [Lib.Lz.strOfNums_map]; exact convert_bytes h2.bytes d)
  simpa using h

/-- A component, its protocol and the transcoder, as a region reads them. -/
abbrev CS (w0 : World) (q pp g n : Nat) (T : ByteArray) (k : Nat) (z : Int) (x : Value) (w : World) : Prop :=
  w.cell? ⟨q, 0, none⟩ = some (.string T) ∧ w.cell? ⟨q, 1, none⟩ = some (.pointer (some ⟨pp, 0, none⟩)) ∧ w.cell? ⟨q, 2, none⟩ = some (.int .i64 k) ∧
  w.cell? ⟨pp, 2, none⟩ = some (.slice (some ⟨g, 0, none⟩) n n) ∧ w.cell? ⟨pp, 3, none⟩ = some (.int .i64 z) ∧ w.cell? ⟨pp, 5, none⟩ = some x ∧ Below w0.heap.size w0 w
theorem CS.of {w0 : World} {q pp g n : Nat} {T : ByteArray} {k : Nat} {z : Int} {x : Value} {w : World} (h0 : CS w0 q pp g n T k z x w0) (hb : Below w0.heap.size w0 w) : CS w0 q pp g n T k z x w := by
  obtain ⟨h1, h2, h3, h4, h5, h6, _⟩ := h0
  have hq := World.block_lt_of_cell? w0 _ h1
  have hp := World.block_lt_of_cell? w0 _ h4
  exact ⟨(hb.cell hq).trans h1, (hb.cell (p := ⟨q, 1, none⟩) hq).trans h2, (hb.cell (p := ⟨q, 2, none⟩) hq).trans h3, (hb.cell hp).trans h4, (hb.cell (p := ⟨pp, 3, none⟩) hp).trans h5, (hb.cell (p := ⟨pp, 5, none⟩) hp).trans h6, hb⟩

/-- A transcoder that lets bytes pass. -/
def Passes (pl : Value) (V : ByteArray) : Prop := ∀ (w : World) (g o cp : Nat), At w g o V.data.toList →
  Calls Tryz.prog 430 #[pl, .slice (some ⟨g, o, none⟩) V.size cp] w fun e w' => e = .returned .nilIface ∧ Below w.heap.size w w'

set_option maxRecDepth 100000 in
set_option maxHeartbeats 4000000 in
theorem validate_fix (q pp g n m : Nat) (T U V : ByteArray) (pl : Value) (w : World) (h0 : CS w q pp g n T n ((m : Int) * 8) (.iface 177 pl) w) (hU : At w g 0 U.data.toList) (hn : U.size = n) (hn1 : 1 ≤ n) (hm : 1 ≤ m) (hV : V.size = m)
    (hT : T.size = n + m) (hlim : n + m ≤ 1000000) (hxU : T.extract 0 n = U) (hxV : T.extract n T.size = V) (hs : Says pl V) (hp : Passes pl V) :
    Calls Tryz.prog 75 #[.pointer (some ⟨q, 0, none⟩)] w fun e w' => e = .returned .nilIface ∧ Below w.heap.size w w' := by
  have h00 := h0
  obtain ⟨c0, c1, c2, c3, c4, c5, _⟩ := h00
  have HVE : Hid (∀ w', Below w.heap.size w w' → Calls Tryz.prog 152 #[.pointer (some ⟨q, 0, none⟩)] w' fun e w'' => ∃ s, e = .returned (.tuple #[.string s, .nilIface]) ∧ Below w.heap.size w w'') := Lib.hid fun w' hb => by
    obtain ⟨d0, d1, d2, d3, d4, d5, _⟩ := CS.of h0 hb
    refine (valueAndErr q pp T V n pl w' ⟨d0, d1, d2, d5, Below.refl _ _⟩ (by omega) hxV (by omega) hs).mono ?_
    rintro e w'' ⟨s, rfl, hb2⟩
    exact ⟨s, rfl, hb.trans (hb2.mono hb.size)⟩
  have HP := Lib.hid hp; clear hp hs
  have hxV2 : T.extract n (n + m) = V := by rw [← hT]; exact hxV
  have hg : g < w.heap.size := hU.lt (by rw [Array.length_toList]; show 0 < U.size; omega)
  have hcv := conv_string
  have hM := method_val pl
  have k1 : (n : Int) ≤ (T.size : Int) := by omega
  have k2 : decide ((T.size : Int) < (n : Int)) = false := by simp; omega
  have k3 : ((n : Int) == 0) = false := by simp; omega
  have k4 : decide ((m : Int) * 8 < 0) = false := by simp; omega
  have k5 : ((m : Int) * 8).tdiv 8 = (m : Int) := Int.mul_tdiv_cancel _ (by decide)
  have k7 : IntKind.i64.wrap ((n : Int) + (m : Int)) = (n : Int) + (m : Int) := IntWalk.i64_in _ (by omega)
  have k6 : IntKind.i64.wrap (m : Int) = m := IntWalk.i64_in _ (by omega)
  have HE : Hid (∀ w', Below w.heap.size w w' → Calls Tryz.prog 151 #[.slice (some ⟨w'.heap.size, 0, none⟩) n (grownCap w' n 0 5), .slice (some ⟨g, 0, none⟩) n n] (Lib.bytesWorld w' 5 U) fun e w'' => e = .returned (.bool true) ∧ w'' = Lib.bytesWorld w' 5 U) := Lib.hid fun w' hb => by
    have := equalAt (bytesWorld_at w' U) ((hU.below hb hg).below (Lib.bytesWorld_below _ _ _) (Nat.lt_of_lt_of_le hg hb.size)) (grownCap w' n 0 5) n
    rw [Array.length_toList, show U.data.size = n from hn] at this
    exact this
  clear hU
  go_enter Tryz.func75, Tryz.ntmps75
  go_wp2
  go_quiet (fail)
  go_wp2
  go_quiet (fail)
  go_wp2
  generalize hw9 : World.drewN (World.drewN w _) _ = w9
  have hb9 : Below w.heap.size w w9 := by rw [← hw9]; exact below_drewN (below_drewN (Below.refl _ _) _) _
  have h9 := CS.of h0 hb9
  have h09 := h9
  obtain ⟨d0, d1, d2, d3, d4, d5, _⟩ := h9
  have HE9 : Hid (Calls Tryz.prog 151 #[.slice (some ⟨w9.heap.size, 0, none⟩) n (grownCap w9.drew n 0 5), .slice (some ⟨g, 0, none⟩) n n] (Lib.bytesWorld w9.drew 5 U) fun e w'' => e = .returned (.bool true) ∧ w'' = Lib.bytesWorld w9.drew 5 U) := Lib.hid (HE.out w9.drew hb9.drew)
  clear c0 c1 c2 c3 c4 c5 HE hw9
  go_region_held (fun w' => CS w q pp g n T n ((m : Int) * 8) (.iface 177 pl) w')
    (first
      | with_reducible assumption
      | exact CS.of h0 hb9.drew
      | exact CS.of h0 ((‹CS w q pp g n T n _ _ _›).2.2.2.2.2.2.trans ((Lib.bytesWorld_below _ _ _).mono (‹CS w q pp g n T n _ _ _›).2.2.2.2.2.2.size)))
    ((go_at_call 151; (with_reducible refine HE9.out.mono ?_); rintro e w2 ⟨rfl, rfl⟩))
  all_goals
    have hb2 : Below w.heap.size w (Lib.bytesWorld w9.drew 5 U) := hb9.drew.trans ((Lib.bytesWorld_below _ _ _).mono hb9.size)
    clear HE9 d0 d1 d2 d3 d4 d5
    generalize Lib.bytesWorld w9.drew 5 U = w2 at *
    obtain ⟨d0, d1, d2, d3, d4, d5, _⟩ := CS.of h0 hb2
    go_wp2
    go_quiet (fail)
    go_wp2
    go_quiet (fail)
    go_wp2_with (go_at_call 152; (with_reducible refine (HVE.out _ (by first | exact below_drewN hb2 _ | exact below_drewN (below_drewN hb2 _) _)).mono ?_); rintro e w3 ⟨s, rfl, hb3⟩; obtain ⟨f0, f1, f2, f3, f4, f5, _⟩ := CS.of h0 hb3)
    have HP3 : Hid (Calls Tryz.prog 430 #[pl, .slice (some ⟨w3.heap.size, 0, none⟩) m (grownCap w3.drew m 0 5)] (Lib.bytesWorld w3.drew 5 V) fun e w'' => e = .returned .nilIface ∧ Below w.heap.size w w'') := Lib.hid (by
      have := HP.out _ _ 0 (grownCap w3.drew m 0 5) (bytesWorld_at w3.drew V)
      rw [hV] at this
      refine this.mono ?_
      rintro e w4 ⟨rfl, hb4⟩
      exact ⟨rfl, (hb3.drew.trans ((Lib.bytesWorld_below _ _ _).mono hb3.size)).trans (hb4.mono (by rw [Lib.bytesWorld_size]; have := hb3.size; show _ ≤ w3.heap.size + 1; omega))⟩)
    clear HVE HP d0 d1 d2 d3 d4 d5
    go_region_held (fun w' => CS w q pp g n T n ((m : Int) * 8) (.iface 177 pl) w')
      (first
        | with_reducible assumption
        | exact CS.of h0 hb3.drew
        | exact CS.of h0 hb5
        | exact CS.of h0 ((‹CS w q pp g n T n _ _ _›).2.2.2.2.2.2.trans ((Lib.bytesWorld_below _ _ _).mono (‹CS w q pp g n T n _ _ _›).2.2.2.2.2.2.size)))
      ((go_at_call 430; (with_reducible refine HP3.out.mono ?_); rintro e w5 ⟨rfl, hb5⟩))
    all_goals
      go_wp2
      go_ret
      exact ⟨rfl, hb5⟩
end Go.Proofs.YtnpcmmjdojdmnaaGreatDoor
namespace Go.Proofs.YtnpcmmjdojdmnaaGreatDoor
open Go Go.RowKit

/-- A component in memory. -/
def CompAt (B : Nat) (w : World) (q : Nat) (c : Int) (l : List UInt8) : Prop :=
  B ≤ q ∧ q < w.heap.size ∧ ∃ pp k, w.cell? ⟨q, 0, none⟩ = some (.string ⟨(compBytes c l).toArray⟩) ∧ w.cell? ⟨q, 1, none⟩ = some (.pointer (some ⟨pp, 0, none⟩)) ∧ w.cell? ⟨q, 2, none⟩ = some (.int .i64 k) ∧ ProtoAt B w pp c

/-- What is known of a component whose value has a fixed length: its code is read, its transcoder lets the value pass and speaks. -/
structure Fixed (c : Int) (l : List UInt8) : Prop where
  known : known c = true
  size : psz c = (l.length : Int) * 8
  pos : 1 ≤ l.length
  code : ReadsCode c.toNat
  path : ppath c = false
  tc : ∃ pl, tcv c = .iface 177 pl ∧ Says pl ⟨l.toArray⟩ ∧ Passes pl ⟨l.toArray⟩

theorem validate_new {c : Int} {l : List UInt8} (h : Fixed c l) (hlim : (compBytes c l).length ≤ 1000000) {B : Nat} (w3 : World) (pp : Nat) (hp : ProtoAt B w3 pp c) :
    Calls Tryz.prog 75 #[.pointer (some ⟨w3.heap.size, 0, none⟩)] (w3.alloc (.cells #[.string ⟨(compBytes c l).toArray⟩, .pointer (some ⟨pp, 0, none⟩), .int .i64 (Lib.uvarint c.toNat).length] 50)) fun e w' =>
      e = .returned .nilIface ∧ Below (w3.heap.size + 1) (w3.alloc (.cells #[.string ⟨(compBytes c l).toArray⟩, .pointer (some ⟨pp, 0, none⟩), .int .i64 (Lib.uvarint c.toNat).length] 50)) w' := by
  obtain ⟨hk, hsz, hm, hrc, hpath, pl, htc, hsay, hpass⟩ := h
  have hcb : compBytes c l = Lib.uvarint c.toNat ++ l := by rw [compBytes, if_neg (by omega), List.append_nil]
  obtain ⟨hp1, hp2, vc, ⟨g, hg1, hg2, rfl, hg4⟩, p0, p1, p2, p3, p4, p5⟩ := hp
  have hup := Lib.uvarint_pos c.toNat
  have hlt : ∀ o j, (w3.alloc o).cell? ⟨pp, j, none⟩ = w3.cell? ⟨pp, j, none⟩ := fun o j => World.cell?_alloc_past _ _ _ hp2
  have h0 : CS (w3.alloc (.cells #[.string ⟨(compBytes c l).toArray⟩, .pointer (some ⟨pp, 0, none⟩), .int .i64 (Lib.uvarint c.toNat).length] 50)) w3.heap.size pp g (Lib.uvarint c.toNat).length ⟨(compBytes c l).toArray⟩ (Lib.uvarint c.toNat).length ((l.length : Int) * 8) (.iface 177 pl)
      (w3.alloc (.cells #[.string ⟨(compBytes c l).toArray⟩, .pointer (some ⟨pp, 0, none⟩), .int .i64 (Lib.uvarint c.toNat).length] 50)) := by
    refine ⟨by simp [go_sem], by simp [go_sem], by simp [go_sem], (hlt _ 2).trans p2, (hlt _ 3).trans (by rw [p3, hsz]), (hlt _ 5).trans (by rw [p5, htc]), Below.refl _ _⟩
  have hU : At (w3.alloc (.cells #[.string ⟨(compBytes c l).toArray⟩, .pointer (some ⟨pp, 0, none⟩), .int .i64 (Lib.uvarint c.toNat).length] 50)) g 0 (⟨(Lib.uvarint c.toNat).toArray⟩ : ByteArray).data.toList := fun j hj => by
    rw [Nat.zero_add, World.cell?_alloc_past _ _ _ hg2]
    exact hg4 j hj
  have hTs : (⟨(compBytes c l).toArray⟩ : ByteArray).size = (Lib.uvarint c.toNat).length + l.length := by
    show (compBytes c l).toArray.size = _
    rw [List.size_toArray, hcb, List.length_append]
  have hxt : ∀ a b, (⟨(compBytes c l).toArray⟩ : ByteArray).extract a b = ⟨(((compBytes c l).drop a).take (b - a)).toArray⟩ := fun a b => by
    refine ByteArray.ext (Array.toList_inj.1 ?_)
    rw [ByteArray.data_extract, Array.toList_extract, List.extract_eq_take_drop]
  refine (validate_fix w3.heap.size pp g (Lib.uvarint c.toNat).length l.length ⟨(compBytes c l).toArray⟩ ⟨(Lib.uvarint c.toNat).toArray⟩ ⟨l.toArray⟩ pl _ h0 hU (by show (Lib.uvarint c.toNat).toArray.size = _; simp) hup hm (by show l.toArray.size = _; simp) hTs
    (by rw [hcb, List.length_append] at hlim; exact hlim) ?_ ?_ hsay hpass).mono ?_
  · rw [hxt, hcb]; simp
  · rw [hxt, hTs, hcb]; simp
  · rintro e w' ⟨rfl, hb⟩
    exact ⟨rfl, by simpa using hb⟩

set_option maxRecDepth 100000 in
set_option maxHeartbeats 4000000 in
theorem readComponent (c : Int) (l : List UInt8) (h : Fixed c l) (rest : List UInt8) (g o cp : Nat) (w : World) (hc : At w g o (compBytes c l ++ rest)) (hcp : (compBytes c l ++ rest).length ≤ cp) (_hcm : cp ≤ 9223372036854775807) (hlim : (compBytes c l ++ rest).length ≤ 1000000) :
    Calls Tryz.prog 55 #[.slice (some ⟨g, o, none⟩) (compBytes c l ++ rest).length cp] w fun e w' => ∃ q, e = .returned (.tuple #[.int .i64 (compBytes c l).length, .pointer (some ⟨q, 0, none⟩), .nilIface]) ∧ CompAt w.heap.size w' q c l ∧ Below w.heap.size w w' := by
  obtain ⟨hk, hsz, hm, hrc, hpath, pl, htc, hsay, hpass⟩ := h
  have hcb : compBytes c l = Lib.uvarint c.toNat ++ l := by rw [compBytes, if_neg (by omega), List.append_nil]
  have hct : ((c.toNat : Nat) : Int) = c := by have := (uvarint_code hk).2; omega
  have hup := Lib.uvarint_pos c.toNat
  have hul : (Lib.uvarint c.toNat).length ≤ 10 := Lib.uvarint_length64 (by have := (uvarint_code hk).1; omega)
  obtain ⟨n, hn⟩ : ∃ n, n = (Lib.uvarint c.toNat).length := ⟨_, rfl⟩
  obtain ⟨m, hmm⟩ : ∃ m, m = l.length := ⟨_, rfl⟩
  obtain ⟨r, hr⟩ : ∃ r, r = rest.length := ⟨_, rfl⟩
  have hN : (compBytes c l ++ rest).length = n + m + r := by rw [hcb, List.length_append, List.length_append, hn, hmm, hr]
  have hC : (compBytes c l).length = n + m := by rw [hcb, List.length_append, hn, hmm]
  have hAt : At w g o (compBytes c l) := hc.take
  have hAu : At w g o (Lib.uvarint c.toNat) := by rw [hcb] at hAt; exact hAt.take
  have H74 := Lib.hid (hrc g o (n + m + r) cp w (by omega) hAu)
  rw [hct, ← hn] at H74
  have H47 := protocolWithCode c hk
  have H71 := zzPtr c hk
  have hne := known_ne hk
  rw [hN] at hcp hlim ⊢
  have hm8 : psz c = (m : Int) * 8 := by rw [hsz, hmm]
  have hAtN : At w g o (compBytes c l) := hAt
  have hgl : g < w.heap.size := hAt.lt (by rw [hC]; omega)
  have HCV : Hid (∀ w', Below w.heap.size w w' → (convert 22 9 (.slice (some ⟨g, o, none⟩) (n + m) cp)).run Tryz.prog w' = .ok (.string ⟨(compBytes c l).toArray⟩) w') := Lib.hid fun w' hb => by
    have := convert_bytes (hAt.below hb hgl).bytes cp
    rwa [hC] at this
  have HV : Hid (∀ (w3 : World) (pp : Nat) (B : Nat), ProtoAt B w3 pp c → Calls Tryz.prog 75 #[.pointer (some ⟨w3.heap.size, 0, none⟩)] (w3.alloc (.cells #[.string ⟨(compBytes c l).toArray⟩, .pointer (some ⟨pp, 0, none⟩), .int .i64 n] 50)) fun e w' =>
      e = .returned .nilIface ∧ Below (w3.heap.size + 1) (w3.alloc (.cells #[.string ⟨(compBytes c l).toArray⟩, .pointer (some ⟨pp, 0, none⟩), .int .i64 n] 50)) w') := Lib.hid fun w3 pp B hp => by
    have := validate_new ⟨hk, hsz, hm, hrc, hpath, pl, htc, hsay, hpass⟩ (by rw [hC]; omega) w3 pp hp
    rwa [← hn] at this
  rw [htc, hm8, hpath] at H47
  have HH47 := Lib.hid H47
  have HH71 := Lib.hid H71
  have HC := Lib.hid hC
  have hu : n ≤ 10 := by rw [hn]; exact hul
  have hn1 : 1 ≤ n := by rw [hn]; exact hup
  have hm1 : 1 ≤ m := by rw [hmm]; exact hm
  have HN := Lib.hid (And.intro hn hmm)
  clear hn hmm hr H47 H71 hC hN hAt hAtN hAu hc hup hul hcb hsz hpath hsay hpass hrc htc hm hm8
  generalize pname c = nm at *
  have q1 : IntKind.i64.wrap (n : Int) = n := IntWalk.i64_in _ (by omega)
  have q2 : ((m : Int) * 8 == 0) = false := by simp; omega
  have q3 : decide ((m : Int) * 8 < 0) = false := by simp; omega
  have q4 : ((m : Int) * 8).tdiv 8 = (m : Int) := Int.mul_tdiv_cancel _ (by decide)
  have q5 : IntKind.i64.wrap (m : Int) = m := IntWalk.i64_in _ (by omega)
  have q6 : (0 : Int) ≤ (n : Int) := by omega
  have q7 : (n : Int) ≤ ((n + m + r : Nat) : Int) := by omega
  have q8 : decide (((n + m + r - n : Nat) : Int) < (m : Int)) = false := by simp; omega
  have q9 : decide ((m : Int) ≤ 0) = false := by simp; omega
  have qa : IntKind.i64.wrap ((n : Int) + (m : Int)) = ((n + m : Nat) : Int) := by rw [IntWalk.i64_in _ (by omega)]; simp
  have qb : (0 : Int) ≤ ((n + m : Nat) : Int) := by omega
  have qc : ((n + m : Nat) : Int) ≤ (cp : Int) := by omega
  go_enter Tryz.func55, Tryz.ntmps55
  go_wp2_with (first
    | (go_at_call 74; (with_reducible refine H74.out.mono ?_); rintro e w1 ⟨rfl, rfl⟩)
    | (go_at_call 47; (with_reducible refine (HH47.out _).mono ?_); rintro e w2 ⟨vc, rfl, ⟨g2, hg1, hg2, rfl, hg4⟩, hb2⟩; refine Hid.out ?_))
  refine Lib.hid ?_
  go_wp2_with (first
    | (go_at_call 71; (with_reducible refine (HH71.out _).mono ?_); rintro e w3 ⟨pp, rfl, hp3, hb3⟩; obtain ⟨hc3, hf3⟩ := bcell hb3; have hbw3 : Below w.heap.size w w3 := (hb2.alloc hb2.size _).trans (hb3.mono (by have := hb2.size; simp; omega)); have hcv := HCV.out w3 hbw3)
    | (go_at_call 75; (with_reducible refine (HV.out w3 pp _ hp3).mono ?_); rintro e w5 ⟨rfl, hb5⟩))
  go_ret3
  have hb35 : Below w3.heap.size w3 w5 := ((Below.refl _ _).alloc (Nat.le_refl _) _).trans (hb5.mono (Nat.le_succ _))
  have hs5 := hb5.size
  have hz3 := hbw3.size
  have hc5 : ∀ j, w5.cell? ⟨w3.heap.size, j, none⟩ = (w3.alloc (.cells #[.string ⟨(compBytes c l).toArray⟩, .pointer (some ⟨pp, 0, none⟩), .int .i64 n] 50)).cell? ⟨w3.heap.size, j, none⟩ := fun j => hb5.cell (p := ⟨w3.heap.size, j, none⟩) (by simp)
  refine ⟨w3.heap.size, by rw [HC.out]; rfl, ⟨hz3, by simp at hs5; omega, pp, n, ?_, ?_, ?_, ?_⟩, hbw3.trans (hb35.mono hz3)⟩
  · rw [hc5]; simp [go_sem]
  · rw [hc5]; simp [go_sem]
  · rw [hc5]; simp [go_sem]
  · exact (hp3.below hb35 (Nat.le_refl _)).mono (by have := hb2.size; simp; omega)
end Go.Proofs.YtnpcmmjdojdmnaaGreatDoor
namespace Go.Proofs.YtnpcmmjdojdmnaaGreatDoor
open Go Go.RowKit

theorem info50 : (Tryz.prog.info? 50).map (fun i => (i.zero, i.size, i.bytes)) = some (some (.agg #[.string ⟨#[]⟩, .pointer none, .int .i64 0]), 3, 32) := by kernel_rfl

/-- The bytes of components, one behind the other. -/
def allBytes : List (Int × List UInt8) → List UInt8
  | [] => []
  | x :: r => compBytes x.1 x.2 ++ allBytes r
theorem allBytes_append : ∀ (a b : List (Int × List UInt8)), allBytes (a ++ b) = allBytes a ++ allBytes b
  | [], _ => rfl
  | x :: a, b => by rw [List.cons_append, allBytes, allBytes, allBytes_append a b, List.append_assoc]

/-- Cells that hold components: three a component, the bytes first. -/
inductive RowOf : List (Int × List UInt8) → List Value → Prop
  | nil : RowOf [] []
  | snoc {cs : List (Int × List UInt8)} {xs : List Value} {c : Int} {l : List UInt8} {pp : Nat} {k : Int} : RowOf cs xs → RowOf (cs ++ [(c, l)]) (xs ++ [.string ⟨(compBytes c l).toArray⟩, .pointer (some ⟨pp, 0, none⟩), .int .i64 k])

theorem cell_three_new (w : World) (x y z : Value) (t : TypeId) : ∀ j u, [x, y, z][j]? = some u → (w.alloc (.cells #[x, y, z] t)).cell? ((⟨w.heap.size, 0, none⟩ : Addr).add j) = some u := by
  intro j u hj
  rw [Addr.add_lit, Nat.zero_add, World.cell?_alloc_new]
  match j, hj with
  | 0, hj => simpa using hj
  | 1, hj => simpa using hj
  | 2, hj => simpa using hj
  | j + 3, hj => simp at hj

set_option maxRecDepth 100000 in
set_option maxHeartbeats 4000000 in
theorem readMultiaddr (cs : List (Int × List UInt8)) (hne : cs ≠ []) (hF : ∀ x ∈ cs, Fixed x.1 x.2) (g o cp : Nat) (w : World) (hc : At w g o (allBytes cs)) (hcp : (allBytes cs).length ≤ cp) (hcm : cp ≤ 9223372036854775807) (hlim : (allBytes cs).length ≤ 1000000) :
    Calls Tryz.prog 53 #[.slice (some ⟨g, o, none⟩) (allBytes cs).length cp] w fun e w' => ∃ v xs, e = .returned (.tuple #[.int .i64 (allBytes cs).length, v, .nilIface]) ∧ w'.ownsRow w.heap.size 50 3 v cs.length xs ∧ RowOf cs xs ∧ Below w.heap.size w w' := by
  obtain ⟨i0, hi, hz0, hz1, hz2⟩ := info_parts info50
  have hpos : 1 ≤ (allBytes cs).length := by
    cases cs with
    | nil => exact absurd rfl hne
    | cons x r =>
      rw [allBytes, List.length_append, compBytes, List.length_append, List.length_append]
      have := Lib.uvarint_pos x.1.toNat
      omega
  have hg : g < w.heap.size := hc.lt (by omega)
  have HF := Lib.hid hF; clear hF
  have HLIM := Lib.hid hlim
  have hn0 : (((allBytes cs).length : Nat) : Int) ≠ 0 := by omega
  have q0 : (((allBytes cs).length : Int) == 0) = false := by simpa using hn0
  go_enter Tryz.func53, Tryz.ntmps53
  go_wp2
  go_loopw [0, 5, 6, 7] (fun v0 v5 v6 v7 wr => ∃ (done todo : List (Int × List UInt8)) (o' cp' : Nat) (xs : List Value), v0 = .slice (some ⟨g, o', none⟩) (allBytes todo).length cp' ∧ v6 = .int .i64 (allBytes done).length ∧ v7 = .bool false ∧ Hid (cs = done ++ todo) ∧
      Hid (At wr g o' (allBytes todo)) ∧ (allBytes todo).length ≤ cp' ∧ cp' ≤ 9223372036854775807 ∧ wr.ownsRow w.heap.size 50 3 v5 done.length xs ∧ Hid (RowOf done xs) ∧ Below w.heap.size w wr) (fun v0 _ _ _ _ => match v0 with | .slice _ n _ => n | _ => 0)
  case atStart => exact ⟨[], cs, o, cp, [], rfl, rfl, rfl, Lib.hid rfl, Lib.hid hc, hcp, hcm, World.ownsRow_nil _ _ _ _, Lib.hid .nil, Below.refl _ _⟩
  case round =>
    obtain ⟨done, todo, o', cp', xs, rfl, rfl, rfl, hcs, hat, hcp2, hcm2, hown, hrow, hbl⟩ := hrel
    cases todo with
    | nil =>
      have HE := hcs.out
      rw [List.append_nil] at HE
      subst HE
      clear hc q0 hn0
      go_wp2
      go_ret3
      exact ⟨_, xs, rfl, hown, hrow.out, hbl⟩
    | cons x todo' =>
      obtain ⟨c, l⟩ := x
      have hfx : Fixed c l := HF.out (c, l) (by rw [hcs.out]; simp)
      have hl1 : (allBytes done).length + (allBytes ((c, l) :: todo')).length = (allBytes cs).length := by rw [hcs.out, allBytes_append, List.length_append]
      have hl2 : (allBytes ((c, l) :: todo')).length = (compBytes c l).length + (allBytes todo').length := by rw [allBytes, List.length_append]
      have hl3 : (allBytes (done ++ [(c, l)])).length = (allBytes done).length + (compBytes c l).length := by rw [allBytes_append, List.length_append, allBytes, allBytes, List.append_nil]
      have hdl : done.length ≤ 1000000 := by
        have : ∀ z : List (Int × List UInt8), z.length ≤ (allBytes z).length := fun z => by
          induction z with
          | nil => simp [allBytes]
          | cons y z ih =>
            rw [allBytes, List.length_append, compBytes, List.length_append, List.length_append, List.length_cons]
            have := Lib.uvarint_pos y.1.toNat
            omega
        have := this done
        omega
      have hcp1 : 1 ≤ (compBytes c l).length := by
        rw [compBytes, List.length_append, List.length_append]
        have := Lib.uvarint_pos c.toNat
        omega
      have H55 := Lib.hid (readComponent c l hfx (allBytes todo') g o' cp' wr hat.out hcp2 hcm2 (by show (allBytes ((c, l) :: todo')).length ≤ _; omega))
      have HD := Lib.hid (hat.out.drop : At wr g (o' + (compBytes c l).length) (allBytes todo'))
      have hpth := hfx.path
      have HL3 := Lib.hid hl3
      have HCS := Lib.hid (show cs = (done ++ [(c, l)]) ++ todo' by rw [hcs.out]; simp)
      clear hfx hat hc hcs hl3
      have e1 : allBytes ((c, l) :: todo') = compBytes c l ++ allBytes todo' := rfl
      have e2 : 0 < ((allBytes ((c, l) :: todo')).length : Int) := by omega
      obtain ⟨N, hN⟩ : ∃ N, N = (allBytes ((c, l) :: todo')).length := ⟨_, rfl⟩
      obtain ⟨M, hM⟩ : ∃ M, M = (allBytes todo').length := ⟨_, rfl⟩
      obtain ⟨K, hK⟩ : ∃ K, K = (compBytes c l).length := ⟨_, rfl⟩
      obtain ⟨J, hJ⟩ : ∃ J, J = (allBytes done).length := ⟨_, rfl⟩
      rw [← e1] at H55
      rw [← hN] at H55 e2 hcp2 hl1 hl2 ⊢
      rw [← hK] at H55 hl2 HD hcp1
      rw [← hJ] at hl1 ⊢
      rw [← hM] at hl2
      have HNS := Lib.hid (And.intro hN (And.intro hM (And.intro hK hJ)))
      have q1 : (0 : Int) ≤ (K : Int) := by omega
      have q2 : (K : Int) ≤ (N : Int) := by omega
      have q3 : IntKind.i64.wrap ((J : Int) + (K : Int)) = ((J + K : Nat) : Int) := by rw [IntWalk.i64_in _ (by omega)]; simp
      have HLL := Lib.hid (And.intro hl1 (And.intro hl2 hlim))
      clear hl1 hl2 hN hM hK hJ e1 q0 hn0
      go_wp2_with (first
        | (go_at_call 55; (with_reducible refine H55.out.mono ?_); rintro e w1 ⟨q, rfl, ⟨hq1, hq2, pp, k, a0, a1, a2, hp⟩, hb1⟩; refine Hid.out ?_))
      refine Lib.hid ?_
      obtain ⟨-, hpp2, vc, -, -, -, -, -, p4, -⟩ := hp
      rw [hpth] at p4
      have hown1 : w1.ownsRow w.heap.size 50 3 _ done.length xs := hown.kept (row := none) ⟨hb1.os, hb1.tape, hb1.output, hb1.size, fun k hk _ => hb1.block k hk⟩ (by cases hh : Value.ownBlock _ <;> simp)
      have hbl1 : Below w.heap.size w w1 := hbl.trans (hb1.mono hbl.size)
      have HD1 := Lib.hid (HD.out.below hb1 (Nat.lt_of_lt_of_le hg hbl.size))
      have hz1' := hbl1.size
      clear hown hb1 HD H55 hq1 hbl
      by_cases hcc : cp' = K
      · go_wp2_with (at_builtin; refine wpList_append_own _ rfl (.tmp 43) (.tmp 47) 56 rfl w.heap.size 50 i0 (.agg #[.string ⟨#[]⟩, .pointer none, .int .i64 0]) 3 32 Tryz.underlying56 hi hz0 hz1 hz2 rfl (by decide) _ _ _ rfl (hown1.alloc _) ⟨w1.heap.size, 0, none⟩ 1 1 [.string ⟨(compBytes c l).toArray⟩, .pointer (some ⟨pp, 0, none⟩), .int .i64 k] rfl rfl (cell_three_new _ _ _ _ _) ?c2 ?c3 ?c4 ?c5 ?_)
        case c2 =>
          intro u hu
          simp only [List.mem_cons, List.not_mem_nil, or_false] at hu
          rcases hu with rfl | rfl | rfl <;> rfl
        case c3 => unfold maxLen; omega
        case c4 => omega
        case c5 => simp; omega
        intro v' w2 hown2 hgrow _
        have hb2 : Below w.heap.size w w2 := (hbl1.alloc hz1' _).grown hgrow (by simp; omega) (fun k hk => (hown1.lt k hk).1)
        have hAt2 : At w2 g (o' + K) (allBytes todo') := HD1.out.below (((Below.refl w.heap.size w1).alloc hz1' _).grown hgrow (by simp; omega) (fun k hk => (hown1.lt k hk).1)) hg
        have hrow2 := RowOf.snoc (c := c) (l := l) (pp := pp) (k := k) hrow.out
        go_wp2
        obtain ⟨hNN, hMM, hKK, hJJ⟩ := HNS.out
        obtain ⟨hl1, hl2, -⟩ := HLL.out
        have hNK : N - K = (allBytes todo').length := by omega
        have hJK : (J : Int) + (K : Int) = ((allBytes (done ++ [(c, l)])).length : Nat) := by rw [HL3.out, ← hJJ, ← hKK]; simp
        have hlen2 : (done ++ [(c, l)]).length = done.length + 1 := by simp
        have hnil : (allBytes todo').length = 0 := by omega
        refine ⟨⟨done ++ [(c, l)], todo', o', 0, _, by rw [hNK], by rw [hJK], rfl, HCS, Lib.hid (by intro j hj; omega), by omega, by omega, by rw [hlen2]; exact hown2, Lib.hid hrow2, hb2⟩, ?_⟩
        show N - K < N; omega
      · go_wp2_with (at_builtin; refine wpList_append_own _ rfl (.tmp 43) (.tmp 47) 56 rfl w.heap.size 50 i0 (.agg #[.string ⟨#[]⟩, .pointer none, .int .i64 0]) 3 32 Tryz.underlying56 hi hz0 hz1 hz2 rfl (by decide) _ _ _ rfl (hown1.alloc _) ⟨w1.heap.size, 0, none⟩ 1 1 [.string ⟨(compBytes c l).toArray⟩, .pointer (some ⟨pp, 0, none⟩), .int .i64 k] rfl rfl (cell_three_new _ _ _ _ _) ?c2 ?c3 ?c4 ?c5 ?_)
        case c2 =>
          intro u hu
          simp only [List.mem_cons, List.not_mem_nil, or_false] at hu
          rcases hu with rfl | rfl | rfl <;> rfl
        case c3 => unfold maxLen; omega
        case c4 => omega
        case c5 => simp; omega
        intro v' w2 hown2 hgrow _
        have hb2 : Below w.heap.size w w2 := (hbl1.alloc hz1' _).grown hgrow (by simp; omega) (fun k hk => (hown1.lt k hk).1)
        have hAt2 : At w2 g (o' + K) (allBytes todo') := HD1.out.below (((Below.refl w.heap.size w1).alloc hz1' _).grown hgrow (by simp; omega) (fun k hk => (hown1.lt k hk).1)) hg
        have hrow2 := RowOf.snoc (c := c) (l := l) (pp := pp) (k := k) hrow.out
        go_wp2
        obtain ⟨hNN, hMM, hKK, hJJ⟩ := HNS.out
        obtain ⟨hl1, hl2, -⟩ := HLL.out
        have hNK : N - K = (allBytes todo').length := by omega
        have hJK : (J : Int) + (K : Int) = ((allBytes (done ++ [(c, l)])).length : Nat) := by rw [HL3.out, ← hJJ, ← hKK]; simp
        have hlen2 : (done ++ [(c, l)]).length = done.length + 1 := by simp
        refine ⟨⟨done ++ [(c, l)], todo', o' + K, cp' - K, _, by rw [hNK], by rw [hJK], rfl, HCS, Lib.hid hAt2, by omega, by omega, by rw [hlen2]; exact hown2, Lib.hid hrow2, hb2⟩, ?_⟩
        show N - K < N; omega
end Go.Proofs.YtnpcmmjdojdmnaaGreatDoor
namespace Go.Proofs.YtnpcmmjdojdmnaaGreatDoor
open Go Go.RowKit

theorem idle51 (p : Addr) (w : World) :
    CallsD Tryz.prog 51 #[.pointer (some p)] .returning w fun e u' w' => e = .returned (.tuple #[]) ∧ u' = .returning ∧ w' = w := by
  refine callsD_of_wpS Tryz.func51 rfl fun c₀ cs hu => ?_
  apply wpS_seq
  apply wpS_region
  simp [wpOpsS, go_sem, recoverD, hu, Tryz.ntmps51, Exit.thenS]
  rw [show (#[Value.pointer (some p)] ++ ((Array.replicate 5 undef).setIfInBounds 1 Value.nilIface).setIfInBounds 0 Value.nilIface) = #[.pointer (some p), .nilIface, .nilIface, undef, undef, undef] from rfl]
  have hq : ∀ w, (binOp .neq 20 .nilIface .nilIface).run Tryz.prog w = .ok (.bool false) w := fun _ => by kernel_rfl
  apply wpS_seq
  apply wpS_region
  simp [wpOpsS, go_sem, Exit.thenS, hq]
  refine wpS_cond (t := false) (by simp [Act.eval]) ?_
  simp only [Bool.false_eq_true, if_false]
  refine wpS_of_wp (wp_skip ?_)
  cases c₀
  simp_all [bodyPostS, results, Tryz.results51]
theorem idle68 (p : Addr) (w : World) :
    CallsD Tryz.prog 68 #[.pointer (some p)] .returning w fun e u' w' => e = .returned (.tuple #[]) ∧ u' = .returning ∧ w' = w := by
  refine callsD_of_wpS Tryz.func68 rfl fun c₀ cs hu => ?_
  apply wpS_seq
  apply wpS_region
  simp [wpOpsS, go_sem, recoverD, hu, Tryz.ntmps68, Exit.thenS]
  rw [show (#[Value.pointer (some p)] ++ ((Array.replicate 5 undef).setIfInBounds 1 Value.nilIface).setIfInBounds 0 Value.nilIface) = #[.pointer (some p), .nilIface, .nilIface, undef, undef, undef] from rfl]
  have hq : ∀ w, (binOp .neq 20 .nilIface .nilIface).run Tryz.prog w = .ok (.bool false) w := fun _ => by kernel_rfl
  apply wpS_seq
  apply wpS_region
  simp [wpOpsS, go_sem, Exit.thenS, hq]
  refine wpS_cond (t := false) (by simp [Act.eval]) ?_
  simp only [Bool.false_eq_true, if_false]
  refine wpS_of_wp (wp_skip ?_)
  cases c₀
  simp_all [bodyPostS, results, Tryz.results68]

theorem own_setCell {w : World} {base b o : Nat} {e : TypeId} {size n : Nat} {v x : Value} {xs : List Value} (h : w.ownsRow base e size v n xs) (hb : b < base) : (w.setCell ⟨b, o, none⟩ x).ownsRow base e size v n xs := by
  obtain ⟨h1, h2 | ⟨g, cap, cur, h3, h4, h5, h6⟩⟩ := h
  · exact ⟨h1, Or.inl h2⟩
  · exact ⟨h1, Or.inr ⟨g, cap, cur, h3, h4, (Below.heap_setCell w ⟨b, o, none⟩ x g (by show g ≠ b; omega)).trans h5, h6⟩⟩

set_option maxRecDepth 100000 in
set_option maxHeartbeats 4000000 in
theorem newMultiaddrBytes (cs : List (Int × List UInt8)) (hne : cs ≠ []) (hF : ∀ x ∈ cs, Fixed x.1 x.2) (g o cp : Nat) (w : World) (hc : At w g o (allBytes cs)) (hcp : (allBytes cs).length ≤ cp) (hcm : cp ≤ 9223372036854775807) (hlim : (allBytes cs).length ≤ 1000000) (hg : g < w.heap.size) :
    Calls Tryz.prog 31 #[.slice (some ⟨g, o, none⟩) (allBytes cs).length cp] w fun e w' => ∃ v xs, e = .returned (.tuple #[v, .nilIface]) ∧ w'.ownsRow w.heap.size 50 3 v cs.length xs ∧ RowOf cs xs ∧ Below w.heap.size w w' := by
  have hmf : ∀ (fn : Fn) (first cap : Array Value) (w : World), (Instr.makeFunc fn first cap).run Tryz.prog w = .ok (.func fn first cap) w := fun _ _ _ _ => rfl
  have H53 : ∀ ob, Hid (Calls Tryz.prog 53 #[.slice (some ⟨g, o, none⟩) (allBytes cs).length cp] (w.alloc ob) fun e w' => ∃ v xs, e = .returned (.tuple #[.int .i64 (allBytes cs).length, v, .nilIface]) ∧ w'.ownsRow (w.alloc ob).heap.size 50 3 v cs.length xs ∧ RowOf cs xs ∧ Below (w.alloc ob).heap.size (w.alloc ob) w') :=
    fun ob => Lib.hid (readMultiaddr cs hne hF g o cp (w.alloc ob) (hc.below ((Below.refl _ _).alloc (Nat.le_refl _) _) hg) hcp hcm hlim)
  have hl : 1 ≤ cs.length := List.length_pos_iff.2 hne
  have q0 : ((cs.length : Int) == 0) = false := by simp; omega
  clear hc hF hne
  generalize (allBytes cs).length = N at *
  go_enter_defers Tryz.func31, Tryz.ntmps31
  go_wp2_with (go_at_call 53; (with_reducible refine (H53 _).out.mono ?_); rintro e w2 ⟨v, xs, rfl, hown, hrow, hb⟩; refine Hid.out ?_)
  refine Lib.hid ?_
  have hown' := hown
  rcases hown'.2 with ⟨_, h0⟩ | ⟨gs, cap, cur, rfl, hgs, hcur, hcap, hmax, -, -⟩
  · omega
  obtain ⟨hbc, hbf⟩ := bcell hb
  have HROW := Lib.hid hrow; clear hrow
  clear hown' hcur
  have hlt : w.heap.size < w2.heap.size := by have := hb.size; simp at this; omega
  have hc0 : w2.cell? ⟨w.heap.size, 0, none⟩ = some .nilIface := (hbc _ _ (by simp)).trans (by simp [go_sem])
  have hc1 : (w2.setCell ⟨w.heap.size, 0, none⟩ .nilIface).cell? ⟨w.heap.size, 0, none⟩ = some .nilIface := World.cell?_setCell_same _ _ _ hc0
  have hc2 : ((w2.setCell ⟨w.heap.size, 0, none⟩ .nilIface).setCell ⟨w.heap.size, 0, none⟩ .nilIface).cell? ⟨w.heap.size, 0, none⟩ = some .nilIface := World.cell?_setCell_same _ _ _ hc1
  have hend : ((w2.setCell ⟨w.heap.size, 0, none⟩ .nilIface).setCell ⟨w.heap.size, 0, none⟩ .nilIface).ownsRow w.heap.size 50 3 (.slice (some ⟨gs, 0, none⟩) cs.length cap) cs.length xs ∧ RowOf cs xs ∧ Below w.heap.size w ((w2.setCell ⟨w.heap.size, 0, none⟩ .nilIface).setCell ⟨w.heap.size, 0, none⟩ .nilIface) :=
    ⟨(own_setCell (own_setCell hown (by simp)) (by simp)).mono (by simp), HROW.out, ((below_under hb).setCell (Nat.le_refl _) _).setCell (Nat.le_refl _) _⟩
  have HEND := Lib.hid hend; clear hend hown
  go_wp2
  refine leaves_cons (f := 51) (args := #[.pointer (some ⟨w.heap.size, 0, none⟩)]) (by simp) (by simp [go_sem]) ?_
  refine (idle51 ⟨w.heap.size, 0, none⟩ _).mono ?_
  rintro e u' w'' ⟨rfl, rfl, rfl⟩
  generalize ((w2.setCell ⟨w.heap.size, 0, none⟩ .nilIface).setCell ⟨w.heap.size, 0, none⟩ .nilIface) = w5 at *
  simp [Leaves, settle, results, Tryz.results31, go_sem, hc2]
  exact ⟨xs, HEND.out⟩

set_option maxRecDepth 100000 in
set_option maxHeartbeats 4000000 in
theorem newMultiaddr (s : ByteArray) (ps : List ByteArray) (cs : List (Int × List UInt8)) (hp : pieces s.size s = ⟨#[]⟩ :: ps) (hf : Feeds ps (allBytes cs)) (hps : ps ≠ []) (hs : s.size ≤ 1000000) (h1 : 1 ≤ s.size) (hsl : ((47 : Int) == (s[s.size - 1].toNat : Int)) = false)
    (hlim : (allBytes cs).length ≤ 1000000) (hne : cs ≠ []) (hpos : 1 ≤ (allBytes cs).length) (hF : ∀ x ∈ cs, Fixed x.1 x.2) (w : World) :
    Calls Tryz.prog 46 #[.string s] w fun e w' => ∃ v xs, e = .returned (.tuple #[v, .nilIface]) ∧ w'.ownsRow w.heap.size 50 3 v cs.length xs ∧ RowOf cs xs ∧ Below w.heap.size w w' := by
  have hmf : ∀ (fn : Fn) (first cap : Array Value) (w : World), (Instr.makeFunc fn first cap).run Tryz.prog w = .ok (.func fn first cap) w := fun _ _ _ _ => rfl
  have H69 := Lib.hid (fun wx : World => stringToBytes s ps (allBytes cs) hp hf hps hs h1 hsl hlim wx)
  have H31 : Hid (∀ (wx : World) (g cap : Nat), wx.ownsRow w.heap.size 5 1 (.slice (some ⟨g, 0, none⟩) (allBytes cs).length cap) (allBytes cs).length (byteVals (allBytes cs)) →
      Calls Tryz.prog 31 #[.slice (some ⟨g, 0, none⟩) (allBytes cs).length cap] wx fun e w' => ∃ v xs, e = .returned (.tuple #[v, .nilIface]) ∧ w'.ownsRow wx.heap.size 50 3 v cs.length xs ∧ RowOf cs xs ∧ Below wx.heap.size wx w') := Lib.hid fun wx g cap ho => by
    have hat : At wx g 0 (allBytes cs) := fun j hj => by
      have := ho.cells (g := g) rfl j (.int .u8 (allBytes cs)[j].toNat) (by simp [byteVals, hj])
      rwa [Addr.add_lit] at this
    rcases ho.2 with ⟨hh, _⟩ | ⟨g', cap', cur, hh, hgs, hcur, hcap, hmax, -, -⟩
    · cases hh
    · cases hh
      exact newMultiaddrBytes cs hne hF g 0 cap wx hat hcap (by unfold maxLen at hmax; omega) hlim (ho.lt g rfl).2
  clear hp hf hps hsl hF
  generalize (allBytes cs).length = N at *
  go_enter_defers Tryz.func46, Tryz.ntmps46
  go_wp2_with (go_at_call 69; (with_reducible refine (H69.out _).mono ?_); rintro e w2 ⟨v, rfl, hown, hb⟩; refine Hid.out ?_)
  refine Lib.hid ?_
  have hown' := hown
  rcases hown'.2 with ⟨_, h0⟩ | ⟨g, cap, cur, rfl, hgs, hcur, hcap, hmax, -, -⟩
  · omega
  obtain ⟨hbc, hbf⟩ := bcell hb
  have HO := Lib.hid hown; clear hown
  clear hown' hcur
  have hlt : w.heap.size < w2.heap.size := by have := hb.size; simp at this; omega
  have hc0 : w2.cell? ⟨w.heap.size, 0, none⟩ = some .nilIface := (hbc _ _ (by simp)).trans (by simp [go_sem])
  have hc1 : (w2.setCell ⟨w.heap.size, 0, none⟩ .nilIface).cell? ⟨w.heap.size, 0, none⟩ = some .nilIface := World.cell?_setCell_same _ _ _ hc0
  have HC := Lib.hid (H31.out (w2.setCell ⟨w.heap.size, 0, none⟩ .nilIface) g cap ((own_setCell HO.out (by simp)).mono (by simp)))
  have hbel : Below w.heap.size w (w2.setCell ⟨w.heap.size, 0, none⟩ .nilIface) := (below_under hb).setCell (Nat.le_refl _) _
  have hsz3 : w.heap.size < (w2.setCell ⟨w.heap.size, 0, none⟩ .nilIface).heap.size := by simpa [World.setCell] using hlt
  have hfr : (w2.setCell ⟨w.heap.size, 0, none⟩ .nilIface).frozen? ⟨w.heap.size, 0, none⟩ = false := by
    have := hbf w.heap.size 0 (by simp)
    simp [go_sem] at this ⊢
    exact this
  go_wp2_with (go_at_call 31; (with_reducible refine HC.out.mono ?_); rintro e w4 ⟨v, xs, rfl, hown4, hrow4, hb4⟩; refine Hid.out ?_)
  refine Lib.hid ?_
  have hc4 : w4.cell? ⟨w.heap.size, 0, none⟩ = some .nilIface := (hb4.cell (p := ⟨w.heap.size, 0, none⟩) hsz3).trans hc1
  have hf4 : w4.frozen? ⟨w.heap.size, 0, none⟩ = false := (hb4.frozen (p := ⟨w.heap.size, 0, none⟩) hsz3).trans hfr
  have hc5 : (w4.setCell ⟨w.heap.size, 0, none⟩ .nilIface).cell? ⟨w.heap.size, 0, none⟩ = some .nilIface := World.cell?_setCell_same _ _ _ hc4
  have hend : (w4.setCell ⟨w.heap.size, 0, none⟩ .nilIface).ownsRow w.heap.size 50 3 v cs.length xs ∧ RowOf cs xs ∧ Below w.heap.size w (w4.setCell ⟨w.heap.size, 0, none⟩ .nilIface) :=
    ⟨(own_setCell hown4 hsz3).mono (Nat.le_of_lt hsz3), hrow4, (hbel.trans (hb4.mono hbel.size)).setCell (Nat.le_refl _) _⟩
  have HEND := Lib.hid hend; clear hend hown4 hrow4 hb4 hbel hc1 hfr HC
  go_wp2
  refine leaves_cons (f := 68) (args := #[.pointer (some ⟨w.heap.size, 0, none⟩)]) (by simp) (by simp [go_sem]) ?_
  refine (idle68 ⟨w.heap.size, 0, none⟩ _).mono ?_
  rintro e u' w'' ⟨rfl, rfl, rfl⟩
  generalize (w4.setCell ⟨w.heap.size, 0, none⟩ .nilIface) = w5 at *
  simp [Leaves, settle, results, Tryz.results46, go_sem, hc5]
  exact ⟨xs, HEND.out⟩
end Go.Proofs.YtnpcmmjdojdmnaaGreatDoor
namespace Go.Proofs.YtnpcmmjdojdmnaaGreatDoor
open Go Go.RowKit

theorem RowOf.len {cs : List (Int × List UInt8)} {xs : List Value} (h : RowOf cs xs) : xs.length = cs.length * 3 := by
  induction h with
  | nil => rfl
  | snoc h ih => simp only [List.length_append, ih, List.length_cons, List.length_nil]; omega

theorem RowOf.at {cs : List (Int × List UInt8)} {xs : List Value} (h : RowOf cs xs) : ∀ k (hk : k < cs.length), ∃ pp z, xs[k * 3]? = some (.string ⟨(compBytes cs[k].1 cs[k].2).toArray⟩) ∧ xs[k * 3 + 1]? = some (.pointer (some ⟨pp, 0, none⟩)) ∧ xs[k * 3 + 2]? = some (.int .i64 z) := by
  induction h with
  | nil => intro k hk; simp at hk
  | @snoc cs xs c l pp z h ih =>
    intro k hk
    have hl := h.len
    by_cases hlt : k < cs.length
    · obtain ⟨pp', z', h1, h2, h3⟩ := ih k hlt
      rw [List.getElem_append_left hlt]
      exact ⟨pp', z', by rw [List.getElem?_append_left (by omega)]; exact h1, by rw [List.getElem?_append_left (by omega)]; exact h2, by rw [List.getElem?_append_left (by omega)]; exact h3⟩
    · have hk2 : k = cs.length := by simp at hk; omega
      subst hk2
      have e : cs.length * 3 = xs.length := hl.symm
      refine ⟨pp, z, ?_, ?_, ?_⟩
      · rw [e, List.getElem?_append_right (Nat.le_refl _)]; simp
      · rw [e, List.getElem?_append_right (by omega)]; simp
      · rw [e, List.getElem?_append_right (by omega)]; simp

theorem take_snoc (cs : List (Int × List UInt8)) (k : Nat) (hk : k < cs.length) : allBytes (cs.take (k + 1)) = allBytes (cs.take k) ++ compBytes cs[k].1 cs[k].2 := by
  rw [List.take_succ_eq_append_getElem hk, allBytes_append, allBytes, allBytes, List.append_nil]

/-- An append of a text's bytes where there is room: in place, whatever block it is. -/
theorem wpList_append_text (w : World) {ops : Array Oper} {rest : List Oper} {o : Oper} {a : Act} {Q : Exit → Act → World → Prop} (hgd : o.guard = none) (s x : Operand)
    (ho : o.op = .call { callee := .builtin .append, args := #[s, x], argTypes := #[22, 9] }) (b n cap : Nat) (t : ByteArray) (hs : a.eval s = .slice (some ⟨b, 0, none⟩) n cap) (hx : a.eval x = .string t)
    (hroom : n + t.size ≤ cap) (hc : ∀ j, j < cap → (w.cell? ⟨b, j, none⟩).isSome = true) (hf : ∀ j, w.frozen? ⟨b, j, none⟩ = false)
    (h : wpList Tryz.prog ops Q rest (a.put o.dst (.slice (some ⟨b, 0, none⟩) (n + t.size) cap)) (w.setCells b n (byteCells t))) : wpList Tryz.prog ops Q (o :: rest) a w := by
  obtain ⟨i0, hi, hz0, hz1, hz2⟩ := info_parts info5
  have hl : (byteCells t).length = t.size := byteCells_length t
  have hrun := run_append_room_src (P := Tryz.prog) w 22 9 o.type 5 i0 Tryz.underlying22 hi b 0 n cap (.string t) t.size (byteCells t) (by rw [hz1]; exact Src.ofString w Tryz.underlying9 t) hroom
    (fun j hj => by rw [hz1]; exact hc _ (by omega)) (fun j hj => hf _)
  rw [hz1, Nat.mul_one, Nat.zero_add] at hrun
  refine wpList_plain hgd fun K hK' => ?_
  unfold Oper.wp
  simp [execOp, ho, resolve, invoke, builtin, hs, hx, hrun, Result.andThen]
  exact hK' _ _ h

/-- The bytes so far, in a block with room for 128. -/
def Room (w : World) (g : Nat) (l : List UInt8) : Prop :=
  At w g 0 l ∧ (∀ j, j < 128 → (w.cell? ⟨g, j, none⟩).isSome = true) ∧ (∀ j, w.frozen? ⟨g, j, none⟩ = false) ∧ g < w.heap.size
theorem Room.below {B g : Nat} {w w' : World} {l : List UInt8} (h : Room w g l) (hb : Below B w w') (hB : g < B) : Room w' g l :=
  ⟨h.1.below hb hB, fun j hj => by rw [hb.cell (p := ⟨g, j, none⟩) hB]; exact h.2.1 j hj, fun j => (hb.frozen (p := ⟨g, j, none⟩) hB).trans (h.2.2.1 j), Nat.lt_of_lt_of_le h.2.2.2 hb.size⟩
theorem Room.append {w : World} {g : Nat} {l m : List UInt8} (h : Room w g l) (hr : l.length + m.length ≤ 128) : Room (w.setCells g l.length (byteCells ⟨m.toArray⟩)) g (l ++ m) := by
  have hl : (byteCells ⟨m.toArray⟩).length = m.length := by rw [byteCells_length]; show m.toArray.size = _; simp
  refine ⟨fun j hj => ?_, fun j hj => World.isSome_setCells g _ _ w _ (h.2.1 j hj), fun j => (World.frozen?_setCells g _ _ w _).trans (h.2.2.1 j), ?_⟩
  · by_cases hlt : j < l.length
    · rw [World.cell?_setCells_out g _ _ w _ (fun _ _ => Or.inl (by simp; omega)), h.1 j hlt, List.getElem_append_left hlt]
    · rw [List.length_append] at hj
      have := World.cell?_setCells_in g (byteCells ⟨m.toArray⟩) l.length w (fun i hi => h.2.1 _ (by omega)) (j - l.length) (by omega)
      rw [show l.length + (j - l.length) = 0 + j by omega] at this
      rw [this, List.getElem_append_right (by omega)]
      simp [byteCells]
  · exact Nat.lt_of_lt_of_le h.2.2.2 (Lib.below_setCells_w (B := g) (Nat.le_refl _) _ _ w).size

set_option maxRecDepth 100000 in
set_option maxHeartbeats 4000000 in
theorem addrBytes (cs : List (Int × List UInt8)) (xs : List Value) (B gs cap : Nat) (w : World) (hown : w.ownsRow B 50 3 (.slice (some ⟨gs, 0, none⟩) cs.length cap) cs.length xs) (hrow : RowOf cs xs) (hlim : (allBytes cs).length < 128) (hcl : cs.length ≤ 1000000) :
    Calls Tryz.prog 40 #[.slice (some ⟨gs, 0, none⟩) cs.length cap] w fun e w' => ∃ g o cp, e = .returned (.slice (some ⟨g, o, none⟩) (allBytes cs).length cp) ∧ At w' g o (allBytes cs) ∧ Below w.heap.size w w' := by
  obtain ⟨i0, hi, hz0, hz1, hz2⟩ := info_parts info5
  have hgs := (hown.lt gs rfl).2
  have HC : Hid (∀ k (hk : k < cs.length), ∃ pp z, w.cell? ⟨gs, k * 3, none⟩ = some (.string ⟨(compBytes cs[k].1 cs[k].2).toArray⟩) ∧ w.cell? ⟨gs, k * 3 + 1, none⟩ = some (.pointer (some ⟨pp, 0, none⟩)) ∧ w.cell? ⟨gs, k * 3 + 2, none⟩ = some (.int .i64 z)) := Lib.hid fun k hk => by
    obtain ⟨pp, z, h1, h2, h3⟩ := hrow.at k hk
    have hc : ∀ j u, xs[j]? = some u → w.cell? ⟨gs, j, none⟩ = some u := fun j u hu => by
      have := hown.cells (g := gs) rfl j u hu
      rwa [Addr.add_lit, Nat.zero_add] at this
    exact ⟨pp, z, hc _ _ h1, hc _ _ h2, hc _ _ h3⟩
  have HL : Hid (∀ k, (allBytes (cs.take k)).length ≤ (allBytes cs).length) := Lib.hid fun k => by
    have := congrArg (fun z => (allBytes z).length) (List.take_append_drop k cs)
    simp only [allBytes_append, List.length_append] at this
    omega
  clear hown hrow
  go_enter Tryz.func40, Tryz.ntmps40
  go_wp2
  go_loopw [3, 12] (fun v3 v12 wr => ∃ k : Nat, v12 = .int .i64 k ∧ k ≤ cs.length ∧ v3 = .int .i64 (allBytes (cs.take k)).length ∧ Below w.heap.size w wr) (fun _ v12 _ => cs.length - (intOf v12).toNat)
  case atStart => exact ⟨0, rfl, Nat.zero_le _, rfl, Below.refl _ _⟩
  case round =>
    obtain ⟨k, rfl, hk, rfl, hbl⟩ := hrel
    by_cases hlt : k < cs.length
    · obtain ⟨pp, z, c0, c1, c2⟩ := HC.out k hlt
      have d0 : wr.cell? ⟨gs, k * 3, none⟩ = _ := (hbl.cell (p := ⟨gs, k * 3, none⟩) hgs).trans c0
      have d1 : wr.cell? ⟨gs, k * 3 + 1, none⟩ = _ := (hbl.cell (p := ⟨gs, k * 3 + 1, none⟩) hgs).trans c1
      have d2 : wr.cell? ⟨gs, k * 3 + 2, none⟩ = _ := (hbl.cell (p := ⟨gs, k * 3 + 2, none⟩) hgs).trans c2
      clear c0 c1 c2
      go_wp2
      have hs := congrArg List.length (take_snoc cs k hlt)
      rw [List.length_append] at hs
      have hle := HL.out (k + 1)
      refine ⟨⟨k + 1, by go_num, by omega, ?_, hbl.alloc hbl.size _⟩, by simp [intOf]; omega⟩
      rw [hs, IntWalk.wrap64_in _ (by omega)]; simp
    · have hk2 : k = cs.length := by omega
      subst hk2
      rw [List.take_length]
      have q0 : decide (((allBytes cs).length : Int) < 128) = true := by simp; omega
      clear hk hlt
      have hR : Room (wr.alloc (.cells Tryz.zeroCells91 91)) wr.heap.size [] := by
        refine ⟨fun j hj => by simp at hj, fun j hj => ?_, fun j => by simp [go_sem], by simp⟩
        rw [World.cell?_alloc_new]
        have h128 : Tryz.zeroCells91.size = 128 := by kernel_rfl
        rw [Array.getElem?_eq_getElem (by omega)]; rfl
      have HR := Lib.hid hR; clear hR
      have hbl2 : Below w.heap.size w (wr.alloc (.cells Tryz.zeroCells91 91)) := hbl.alloc hbl.size _
      have hgw : w.heap.size ≤ wr.heap.size := hbl.size
      clear hbl
      go_wp2_with fail
      generalize hG : wr.heap.size = g at *
      generalize wr.alloc (.cells Tryz.zeroCells91 91) = w1 at *
      go_loopw [6, 29] (fun v6 v29 wr => ∃ k : Nat, v29 = .int .i64 k ∧ k ≤ cs.length ∧ v6 = .slice (some ⟨g, 0, none⟩) (allBytes (cs.take k)).length 128 ∧ Hid (Room wr g (allBytes (cs.take k))) ∧ Below w.heap.size w wr) (fun _ v29 _ => cs.length - (intOf v29).toNat)
      case atStart => exact ⟨0, rfl, Nat.zero_le _, rfl, HR, hbl2⟩
      case round =>
        obtain ⟨k, rfl, hk, rfl, hro, hbq⟩ := hrel
        by_cases hlt : k < cs.length
        · obtain ⟨pp, z, c0, c1, c2⟩ := HC.out k hlt
          have d0 : wr.cell? ⟨gs, k * 3, none⟩ = _ := (hbq.cell (p := ⟨gs, k * 3, none⟩) hgs).trans c0
          have d1 : wr.cell? ⟨gs, k * 3 + 1, none⟩ = _ := (hbq.cell (p := ⟨gs, k * 3 + 1, none⟩) hgs).trans c1
          have d2 : wr.cell? ⟨gs, k * 3 + 2, none⟩ = _ := (hbq.cell (p := ⟨gs, k * 3 + 2, none⟩) hgs).trans c2
          have hs := congrArg List.length (take_snoc cs k hlt)
          rw [List.length_append] at hs
          have hle := HL.out (k + 1)
          have hro2 : ∀ ob, Room (wr.alloc ob) g (allBytes (cs.take k)) := fun ob => hro.out.below ((Below.refl _ _).alloc (Nat.le_refl _) _) hro.out.2.2.2
          have HRO := Lib.hid hro2; clear hro2
          have HSZ := Lib.hid (show (⟨(compBytes cs[k].1 cs[k].2).toArray⟩ : ByteArray).size = (compBytes cs[k].1 cs[k].2).length from by show (compBytes cs[k].1 cs[k].2).toArray.size = _; simp)
          have HS := Lib.hid (And.intro hs hle)
          clear c0 c1 c2 hs hle
          go_wp2_with (at_builtin; refine wpList_append_text _ rfl (.tmp 33) (.tmp 35) rfl g (allBytes (cs.take k)).length 128 ⟨(compBytes cs[k].1 cs[k].2).toArray⟩ rfl rfl ?e1 ?e2 ?e3 ?_)
          case e1 =>
            have h1 := HSZ.out
            have h2 := HS.out
            rw [h1]; omega
          case e2 => exact (HRO.out _).2.1
          case e3 => exact (HRO.out _).2.2.1
          have hnew := (HRO.out (.cells #[.string ⟨(compBytes cs[k].1 cs[k].2).toArray⟩, .pointer (some ⟨pp, 0, none⟩), .int .i64 z] 50)).append (m := compBytes cs[k].1 cs[k].2) (by have := HS.out; omega)
          rw [← take_snoc cs k hlt] at hnew
          have hbn : Below w.heap.size w ((wr.alloc (.cells #[.string ⟨(compBytes cs[k].1 cs[k].2).toArray⟩, .pointer (some ⟨pp, 0, none⟩), .int .i64 z] 50)).setCells g (allBytes (cs.take k)).length (byteCells ⟨(compBytes cs[k].1 cs[k].2).toArray⟩)) :=
            (hbq.alloc hbq.size _).trans (Lib.below_setCells_w hgw _ _ _)
          have HN := Lib.hid hnew; clear hnew
          exact ⟨⟨k + 1, by go_num, by omega, by rw [HS.out.1], HN, hbn⟩, by simp [intOf]; omega⟩
        · have hk2 : k = cs.length := by omega
          subst hk2
          rw [List.take_length] at hro ⊢
          clear hk hlt
          go_wp2
          go_ret
          exact ⟨g, 0, 128, rfl, hro.out.1, hbq⟩
end Go.Proofs.YtnpcmmjdojdmnaaGreatDoor
namespace Go.Proofs.YtnpcmmjdojdmnaaGreatDoor
open Go Go.RowKit

set_option maxRecDepth 100000 in
set_option maxHeartbeats 4000000 in
theorem maTextBytes (s : ByteArray) (ps : List ByteArray) (cs : List (Int × List UInt8)) (hp : pieces s.size s = ⟨#[]⟩ :: ps) (hf : Feeds ps (allBytes cs)) (hps : ps ≠ []) (hs : s.size ≤ 1000000) (h1 : 1 ≤ s.size) (hsl : ((47 : Int) == (s[s.size - 1].toNat : Int)) = false)
    (hlim : (allBytes cs).length < 128) (hne : cs ≠ []) (hpos : 1 ≤ (allBytes cs).length) (hcl : cs.length ≤ 1000000) (hF : ∀ x ∈ cs, Fixed x.1 x.2) (w : World) :
    Calls Tryz.prog 27 #[.string s] w fun e w' => ∃ g o cp, e = .returned (.tuple #[.slice (some ⟨g, o, none⟩) (allBytes cs).length cp, .bool true]) ∧ At w' g o (allBytes cs) ∧ Below w.heap.size w w' := by
  have H46 := Lib.hid (newMultiaddr s ps cs hp hf hps hs h1 hsl (by omega) hne hpos hF w)
  have hl : 1 ≤ cs.length := List.length_pos_iff.2 hne
  have H40 : Hid (∀ (w2 : World) (xs : List Value) (gs cap : Nat), w2.ownsRow w.heap.size 50 3 (.slice (some ⟨gs, 0, none⟩) cs.length cap) cs.length xs → RowOf cs xs →
      Calls Tryz.prog 40 #[.slice (some ⟨gs, 0, none⟩) cs.length cap] w2 fun e w' => ∃ g o cp, e = .returned (.slice (some ⟨g, o, none⟩) (allBytes cs).length cp) ∧ At w' g o (allBytes cs) ∧ Below w2.heap.size w2 w') :=
    Lib.hid fun w2 xs gs cap ho hr => addrBytes cs xs _ gs cap w2 ho hr hlim hcl
  clear hp hf hps hsl hF hne
  go_enter Tryz.func27, Tryz.ntmps27
  go_wp2_with (go_at_call 46; (with_reducible refine H46.out.mono ?_); rintro e w2 ⟨v, xs, rfl, hown, hrow, hb⟩; refine Hid.out ?_)
  refine Lib.hid ?_
  have hown' := hown
  rcases hown'.2 with ⟨_, h0⟩ | ⟨gs, cap, cur, rfl, -, -, -, -, -, -⟩
  · omega
  have HC := Lib.hid (H40.out w2 xs gs cap hown hrow)
  clear hown hown' hrow
  go_wp2_with (go_at_call 40; (with_reducible refine HC.out.mono ?_); rintro e w3 ⟨g, o, cp, rfl, hat, hb3⟩)
  go_ret2
  exact ⟨g, o, cp, rfl, hat, hb.trans (hb3.mono hb.size)⟩

theorem val_ip4 (s : ByteArray) (a b c d : Nat) (ha : a < 256) (hb : b < 256) (hc : c < 256) (hd : d < 256) (hq : quadR s.data.toList true false 0 0 [] = some [a, b, c, d]) (hs : s.size ≤ 1000000) : Val 4 s (quadBytes a b c d) :=
  ⟨_, rfl, fun w => twStB199 s _ (fun w => ip4StB s a b c d ha hb hc hd hq w hs) w, fun w _g _o _cp _ => twVal 199 200 _ w⟩
theorem val_tcp (s : ByteArray) (u : Nat) (h : Lib.parseUintB 16 s.data.toList = .ok u) (hu : u < 65536) (hs : s.size ≤ 1000000) : Val 6 s (Lib.beBytes 2 u) :=
  ⟨_, rfl, fun w => twStB201 s _ (fun w => portStB s u h hu w hs) w, fun w _g _o _cp _ => twVal 201 202 _ w⟩

theorem says_of {pl : Value} {l : List UInt8} (h : ∀ (w : World) (g o cp : Nat), At w g o l → Calls Tryz.prog 428 #[pl, .slice (some ⟨g, o, none⟩) l.length cp] w fun e w' => ∃ s, e = .returned (.tuple #[.string s, .nilIface]) ∧ Below w.heap.size w w') : Says pl ⟨l.toArray⟩ := by
  intro w g o cp hat
  have hsz : (⟨l.toArray⟩ : ByteArray).size = l.length := by show l.toArray.size = _; simp
  rw [hsz]
  exact h w g o cp hat

theorem fixed_ip4 : Fixed 4 [1, 2, 3, 4] where
  known := by decide
  size := by decide
  pos := by decide
  code := readsCode1 4 (by decide)
  path := by decide
  tc := ⟨_, rfl, says_of fun w g o cp h => twBtS200 _ (ip4BtS 1 2 3 4 (by decide) (by decide) (by decide) (by decide)) w g o cp h (by decide), fun w g o cp _ => twVal 199 200 _ w⟩
theorem fixed_tcp : Fixed 6 [0, 5] where
  known := by decide
  size := by decide
  pos := by decide
  code := readsCode1 6 (by decide)
  path := by decide
  tc := ⟨_, rfl, says_of fun w g o cp h => twBtS202 _ (portBtS 0 5 (by decide)) w g o cp h (by decide), fun w g o cp _ => twVal 201 202 _ w⟩

/-- The text of the law's address. -/
abbrev awakeText : ByteArray := ⟨#[47, 105, 112, 52, 47, 49, 46, 50, 46, 51, 46, 52, 47, 116, 99, 112, 47, 53]⟩
theorem awake_pieces : pieces awakeText.size awakeText = [⟨#[]⟩, pname 4, ⟨#[49, 46, 50, 46, 51, 46, 52]⟩, pname 6, ⟨#[53]⟩] := by kernel_rfl
theorem awake_bytes : allBytes [(4, [1, 2, 3, 4]), (6, [0, 5])] = [4, 1, 2, 3, 4, 6, 0, 5] := by
  simp [allBytes, compBytes, Lib.uvarint_small, show ¬ psz 4 < 0 by decide, show ¬ psz 6 < 0 by decide, show Int.toNat 4 = 4 from rfl, show Int.toNat 6 = 6 from rfl]
theorem awake_feeds : Feeds [pname 4, ⟨#[49, 46, 50, 46, 51, 46, 52]⟩, pname 6, ⟨#[53]⟩] (allBytes [(4, [1, 2, 3, 4]), (6, [0, 5])]) :=
  .val (by decide) (by decide) (by decide) (val_ip4 _ 1 2 3 4 (by decide) (by decide) (by decide) (by decide) (by decide) (by decide))
    (.val (by decide) (by decide) (by decide) (val_tcp _ 5 (by kernel_rfl) (by decide) (by decide)) .nil)
end Go.Proofs.YtnpcmmjdojdmnaaGreatDoor
namespace Go.Proofs.YtnpcmmjdojdmnaaGreatDoor
open Go Go.RowKit

theorem awake_text (w : World) : Calls Tryz.prog 27 #[.string ⟨#[47, 105, 112, 52, 47, 49, 46, 50, 46, 51, 46, 52, 47, 116, 99, 112, 47, 53]⟩] w fun e w' => ∃ g o cp, e = .returned (.tuple #[.slice (some ⟨g, o, none⟩) 8 cp, .bool true]) ∧ At w' g o [4, 1, 2, 3, 4, 6, 0, 5] ∧ Below w.heap.size w w' := by
  have h := maTextBytes awakeText _ [(4, [1, 2, 3, 4]), (6, [0, 5])] awake_pieces awake_feeds (by simp) (by decide) (by decide) (by decide) (by rw [awake_bytes]; decide) (by simp) (by rw [awake_bytes]; decide) (by decide) (by
    intro x hx
    simp only [List.mem_cons, List.not_mem_nil, or_false] at hx
    rcases hx with rfl | rfl
    · exact fixed_ip4
    · exact fixed_tcp) w
  rw [awake_bytes] at h
  exact h

set_option maxRecDepth 100000 in
set_option maxHeartbeats 4000000 in
theorem maAwake (w : World) : Calls Tryz.prog 9 #[] w fun e w' => e = .returned (.bool true) ∧ Below w.heap.size w w' := by
  have H := Lib.hid (awake_text w)
  go_enter Tryz.func9, Tryz.ntmps9
  go_wp2_with (go_at_call 27; (with_reducible refine H.out.mono ?_); rintro e w2 ⟨g, o, cp, rfl, hat, hb⟩; have hcv : (convert 22 9 (.slice (some ⟨g, o, none⟩) 8 cp)).run Tryz.prog w2 = .ok (.string ⟨#[4, 1, 2, 3, 4, 6, 0, 5]⟩) w2 := convert_bytes hat.bytes cp)
  go_ret
  exact ⟨rfl, hb⟩
end Go.Proofs.YtnpcmmjdojdmnaaGreatDoor
