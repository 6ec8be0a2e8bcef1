/- validateComponent at a component that was just made. readComponent (55) at bytes that begin with a component: without a value, of fixed length. readComponent (55) at bytes that begin with a component whose value varies in length. -/
import Derived.Test.YtnpcmmjdojdmnaaGreatDoorSc
import Derived.Test.YtnpcmmjdojdmnaaGreatDoorSb
import Derived.Test.YtnpcmmjdojdmnaaGreatDoorSa
import Derived.Test.YtnpcmmjdojdmnaaGreatDoorQr
namespace Go.Proofs.YtnpcmmjdojdmnaaGreatDoor
open Go Go.RowKit Go.Sort

/-- Where the value of a component begins. -/
def kst (c : Int) (l : List UInt8) : Nat := (Lib.uvarint c.toNat).length + (if psz c < 0 then (Lib.uvarint l.length).length else 0)
/-- A component in memory, and where its value begins. -/
def CompK (B : Nat) (w : World) (q : Nat) (c : Int) (l : List UInt8) : Prop :=
  B ≤ q ∧ q < w.heap.size ∧ ∃ pp, w.cell? ⟨q, 0, none⟩ = some (.string ⟨(compBytes c l).toArray⟩) ∧ w.cell? ⟨q, 1, none⟩ = some (.pointer (some ⟨pp, 0, none⟩)) ∧ w.cell? ⟨q, 2, none⟩ = some (.int .i64 (kst c l)) ∧ ProtoAt B w pp c

/-- What the transcoder of a protocol does at a value. -/
def Trans (c : Int) (l : List UInt8) : Prop := ∃ pl, tcv c = .iface 177 pl ∧ (btsOk c l = true → SaysY pl ⟨l.toArray⟩) ∧ (btsOk c l = false → SaysN pl ⟨l.toArray⟩) ∧ (valOk c l = true → MindsY pl ⟨l.toArray⟩) ∧ (valOk c l = false → MindsN pl ⟨l.toArray⟩)

/-- nil, or an error. -/
def OutV (b : Bool) (e : Ending) : Prop := match b with
  | true => e = .returned .nilIface
  | false => ∃ t p, e = .returned (.iface t p)

theorem ba_extract (l : List UInt8) (a b : Nat) : (⟨l.toArray⟩ : ByteArray).extract a b = ⟨((l.drop a).take (b - a)).toArray⟩ := by
  refine ByteArray.ext (Array.toList_inj.1 ?_)
  rw [ByteArray.data_extract, Array.toList_extract, List.extract_eq_take_drop]

theorem tcv_zero {c : Int} (hk : known c = true) (hz : psz c = 0) : tcv c = .nilIface := by
  rcases known_cases c with rfl | rfl | rfl | rfl | rfl | rfl | rfl | rfl | rfl | rfl | rfl | rfl | rfl | rfl | rfl | rfl | rfl | rfl | rfl | rfl | rfl | rfl | rfl | rfl | rfl | rfl | rfl | rfl | rfl | rfl | rfl | rfl | rfl | rfl | rfl | rfl | rfl | rfl | h
  all_goals first
    | rfl
    | (exfalso; exact absurd hz (by decide))
    | skip
  simp [known, row_none h] at hk

theorem psz_neg {c : Int} (hz : psz c < 0) : psz c = -1 := by
  rcases known_cases c with rfl | rfl | rfl | rfl | rfl | rfl | rfl | rfl | rfl | rfl | rfl | rfl | rfl | rfl | rfl | rfl | rfl | rfl | rfl | rfl | rfl | rfl | rfl | rfl | rfl | rfl | rfl | rfl | rfl | rfl | rfl | rfl | rfl | rfl | rfl | rfl | rfl | rfl | h
  all_goals first
    | rfl
    | (exfalso; exact absurd hz (by decide))
    | skip
  simp [psz, row_none h] at hz

theorem new_CS {c : Int} {B : Nat} (w3 : World) (T : ByteArray) (K pp : Nat) (hp : ProtoAt B w3 pp c) : ∃ g, CS (w3.alloc (.cells #[.string T, .pointer (some ⟨pp, 0, none⟩), .int .i64 K] 50)) w3.heap.size pp g (Lib.uvarint c.toNat).length T K (psz c) (tcv c) (w3.alloc (.cells #[.string T, .pointer (some ⟨pp, 0, none⟩), .int .i64 K] 50)) ∧
    At (w3.alloc (.cells #[.string T, .pointer (some ⟨pp, 0, none⟩), .int .i64 K] 50)) g 0 (Lib.uvarint c.toNat) := by
  obtain ⟨hp1, hp2, vc, ⟨g, hg1, hg2, rfl, hg4⟩, p0, p1, p2, p3, p4, p5⟩ := hp
  have hlt : ∀ o j, (w3.alloc o).cell? ⟨pp, j, none⟩ = w3.cell? ⟨pp, j, none⟩ := fun o j => World.cell?_alloc_past _ _ _ hp2
  refine ⟨g, ⟨by simp [go_sem], by simp [go_sem], by simp [go_sem], (hlt _ 2).trans p2, (hlt _ 3).trans p3, (hlt _ 5).trans p5, Below.refl _ _⟩, fun j hj => ?_⟩
  rw [Nat.zero_add, World.cell?_alloc_past _ _ _ hg2]
  exact hg4 j hj

set_option maxRecDepth 100000 in
set_option maxHeartbeats 4000000 in
theorem validateNew_zero {c : Int} (hk : known c = true) (hz : psz c = 0) (hlim : (compBytes c []).length ≤ 1000000) {B : Nat} (w3 : World) (he : Env w3) (pp : Nat) (hp : ProtoAt B w3 pp c) :
    Calls Tryz.prog 75 #[.pointer (some ⟨w3.heap.size, 0, none⟩)] (w3.alloc (.cells #[.string ⟨(compBytes c []).toArray⟩, .pointer (some ⟨pp, 0, none⟩), .int .i64 (Lib.uvarint c.toNat).length] 50)) fun e w' => e = .returned .nilIface ∧ Below (w3.heap.size + 1) (w3.alloc (.cells #[.string ⟨(compBytes c []).toArray⟩, .pointer (some ⟨pp, 0, none⟩), .int .i64 (Lib.uvarint c.toNat).length] 50)) w' := by
  have hcb : compBytes c [] = Lib.uvarint c.toNat := by rw [compBytes, if_neg (by omega), List.append_nil, List.append_nil]
  obtain ⟨g, h0, hU⟩ := new_CS (c := c) w3 ⟨(compBytes c []).toArray⟩ (Lib.uvarint c.toNat).length pp hp
  have hup := Lib.uvarint_pos c.toNat
  rw [hz, tcv_zero hk hz] at h0
  have hTs : (⟨(compBytes c []).toArray⟩ : ByteArray).size = (Lib.uvarint c.toNat).length := by
    show (compBytes c []).toArray.size = _
    rw [List.size_toArray, hcb]
  refine (validate_zeroY w3.heap.size pp g (Lib.uvarint c.toNat).length ⟨(compBytes c []).toArray⟩ _ h0 (show At _ g 0 (compBytes c []) by rw [hcb] at hU ⊢; exact hU) hup hTs (by rw [hcb] at hlim; exact hlim) (he.up ((Below.refl _ _).alloc (Nat.le_refl _) _))).mono ?_
  rintro e w' ⟨rfl, hb⟩
  exact ⟨rfl, by simpa using hb⟩

set_option maxRecDepth 100000 in
set_option maxHeartbeats 4000000 in
theorem validateNew_fix {c : Int} {l : List UInt8} (_hk : known c = true) (hsz : psz c = (l.length : Int) * 8) (hm : 1 ≤ l.length) (hT : Trans c l) (hlim : (compBytes c l).length ≤ 1000000) {B : Nat} (w3 : World) (he : Env w3) (pp : Nat) (hp : ProtoAt B w3 pp c) :
    Calls Tryz.prog 75 #[.pointer (some ⟨w3.heap.size, 0, none⟩)] (w3.alloc (.cells #[.string ⟨(compBytes c l).toArray⟩, .pointer (some ⟨pp, 0, none⟩), .int .i64 (Lib.uvarint c.toNat).length] 50)) fun e w' => OutV (chk c l) e ∧ Below (w3.heap.size + 1) (w3.alloc (.cells #[.string ⟨(compBytes c l).toArray⟩, .pointer (some ⟨pp, 0, none⟩), .int .i64 (Lib.uvarint c.toNat).length] 50)) w' := by
  have hcb : compBytes c l = Lib.uvarint c.toNat ++ l := by rw [compBytes, if_neg (by omega), List.append_nil]
  obtain ⟨g, h0, hU⟩ := new_CS (c := c) w3 ⟨(compBytes c l).toArray⟩ (Lib.uvarint c.toNat).length pp hp
  have hup := Lib.uvarint_pos c.toNat
  obtain ⟨pl, htc, hY, hN, hA, hB⟩ := hT
  rw [hsz, htc] at h0
  have hTs : (⟨(compBytes c l).toArray⟩ : ByteArray).size = (Lib.uvarint c.toNat).length + l.length := by
    show (compBytes c l).toArray.size = _
    rw [List.size_toArray, hcb, List.length_append]
  have hxU : (⟨(compBytes c l).toArray⟩ : ByteArray).extract 0 (Lib.uvarint c.toNat).length = ⟨(Lib.uvarint c.toNat).toArray⟩ := by rw [ba_extract, hcb]; simp
  have hxV : (⟨(compBytes c l).toArray⟩ : ByteArray).extract (Lib.uvarint c.toNat).length (⟨(compBytes c l).toArray⟩ : ByteArray).size = ⟨l.toArray⟩ := by rw [ba_extract, hTs, hcb]; simp
  have hlim2 : (Lib.uvarint c.toNat).length + l.length ≤ 1000000 := by rw [hcb, List.length_append] at hlim; exact hlim
  have hE := he.up ((Below.refl _ _).alloc (Nat.le_refl _) (.cells #[.string ⟨(compBytes c l).toArray⟩, .pointer (some ⟨pp, 0, none⟩), .int .i64 (Lib.uvarint c.toNat).length] 50))
  cases hb : btsOk c l with
  | false =>
    rw [show chk c l = false by rw [chk, hb]; rfl]
    refine (validate_fixA w3.heap.size pp g (Lib.uvarint c.toNat).length l.length ⟨(compBytes c l).toArray⟩ ⟨(Lib.uvarint c.toNat).toArray⟩ ⟨l.toArray⟩ pl _ h0 hU (by show (Lib.uvarint c.toNat).toArray.size = _; simp) hup hm (by show l.toArray.size = _; simp) hTs hlim2 hxU hxV (hN hb) hE).mono ?_
    rintro e w' ⟨t, p, rfl, hb⟩
    exact ⟨⟨t, p, rfl⟩, by simpa using hb⟩
  | true =>
    cases hv : valOk c l with
    | false =>
      rw [show chk c l = false by rw [chk, hb, hv]; rfl]
      refine (validate_fixB w3.heap.size pp g (Lib.uvarint c.toNat).length l.length ⟨(compBytes c l).toArray⟩ ⟨(Lib.uvarint c.toNat).toArray⟩ ⟨l.toArray⟩ pl _ h0 hU (by show (Lib.uvarint c.toNat).toArray.size = _; simp) hup hm (by show l.toArray.size = _; simp) hTs hlim2 hxU hxV (hY hb) (hB hv) hE).mono ?_
      rintro e w' ⟨t, p, rfl, hb⟩
      exact ⟨⟨t, p, rfl⟩, by simpa using hb⟩
    | true =>
      rw [show chk c l = true by rw [chk, hb, hv]; rfl]
      refine (validate_fixY w3.heap.size pp g (Lib.uvarint c.toNat).length l.length ⟨(compBytes c l).toArray⟩ ⟨(Lib.uvarint c.toNat).toArray⟩ ⟨l.toArray⟩ pl _ h0 hU (by show (Lib.uvarint c.toNat).toArray.size = _; simp) hup hm (by show l.toArray.size = _; simp) hTs hlim2 hxU hxV (hY hb) (hA hv) hE).mono ?_
      rintro e w' ⟨rfl, hb⟩
      exact ⟨rfl, by simpa using hb⟩

set_option maxRecDepth 100000 in
set_option maxHeartbeats 4000000 in
theorem validateNew_var {c : Int} {l : List UInt8} (_hk : known c = true) (hsz : psz c < 0) (hm : 1 ≤ l.length) (hml : l.length ≤ 2147483647) (hT : Trans c l) (hlim : (compBytes c l).length ≤ 1000000) {B : Nat} (w3 : World) (he : Env w3) (pp : Nat) (hp : ProtoAt B w3 pp c) :
    Calls Tryz.prog 75 #[.pointer (some ⟨w3.heap.size, 0, none⟩)] (w3.alloc (.cells #[.string ⟨(compBytes c l).toArray⟩, .pointer (some ⟨pp, 0, none⟩), .int .i64 ((Lib.uvarint c.toNat).length + (Lib.uvarint l.length).length : Nat)] 50)) fun e w' => OutV (chk c l) e ∧ Below (w3.heap.size + 1) (w3.alloc (.cells #[.string ⟨(compBytes c l).toArray⟩, .pointer (some ⟨pp, 0, none⟩), .int .i64 ((Lib.uvarint c.toNat).length + (Lib.uvarint l.length).length : Nat)] 50)) w' := by
  have hcb : compBytes c l = Lib.uvarint c.toNat ++ (Lib.uvarint l.length ++ l) := by rw [compBytes, if_pos hsz, List.append_assoc]
  obtain ⟨g, h0, hU⟩ := new_CS (c := c) w3 ⟨(compBytes c l).toArray⟩ ((Lib.uvarint c.toNat).length + (Lib.uvarint l.length).length) pp hp
  have hup := Lib.uvarint_pos c.toNat
  obtain ⟨pl, htc, hY, hN, hA, hB⟩ := hT
  have hs1 : psz c = -1 := psz_neg hsz
  rw [hs1, htc] at h0
  have hTs : (⟨(compBytes c l).toArray⟩ : ByteArray).size = (Lib.uvarint c.toNat).length + (Lib.uvarint l.length).length + l.length := by
    show (compBytes c l).toArray.size = _
    rw [List.size_toArray, hcb, List.length_append, List.length_append, Nat.add_assoc]
  have hxU : (⟨(compBytes c l).toArray⟩ : ByteArray).extract 0 (Lib.uvarint c.toNat).length = ⟨(Lib.uvarint c.toNat).toArray⟩ := by rw [ba_extract, hcb]; simp
  have hxX : (⟨(compBytes c l).toArray⟩ : ByteArray).extract (Lib.uvarint c.toNat).length (⟨(compBytes c l).toArray⟩ : ByteArray).size = ⟨(Lib.uvarint l.length ++ l).toArray⟩ := by
    rw [ba_extract, hTs, hcb, List.drop_left, List.take_of_length_le (by rw [List.length_append]; omega)]
  have hxV : (⟨(compBytes c l).toArray⟩ : ByteArray).extract ((Lib.uvarint c.toNat).length + (Lib.uvarint l.length).length) (⟨(compBytes c l).toArray⟩ : ByteArray).size = ⟨l.toArray⟩ := by
    rw [ba_extract, hTs, hcb, ← List.append_assoc, ← List.length_append, List.drop_left, List.take_of_length_le (by rw [List.length_append]; omega)]
  have hXs : (⟨(Lib.uvarint l.length ++ l).toArray⟩ : ByteArray).size = (Lib.uvarint l.length).length + l.length := by
    show (Lib.uvarint l.length ++ l).toArray.size = _
    rw [List.size_toArray, List.length_append]
  have hrd : rdCode (⟨(Lib.uvarint l.length ++ l).toArray⟩ : ByteArray).data.toList = some (l.length, (Lib.uvarint l.length).length) := rdCode_uvarint _ _ hml
  have hlim2 : (Lib.uvarint c.toNat).length + (Lib.uvarint l.length).length + l.length ≤ 1000000 := by rw [hcb, List.length_append, List.length_append] at hlim; omega
  have hE := he.up ((Below.refl _ _).alloc (Nat.le_refl _) (.cells #[.string ⟨(compBytes c l).toArray⟩, .pointer (some ⟨pp, 0, none⟩), .int .i64 ((Lib.uvarint c.toNat).length + (Lib.uvarint l.length).length : Nat)] 50))
  cases hb : btsOk c l with
  | false =>
    rw [show chk c l = false by rw [chk, hb]; rfl]
    refine (validate_varA w3.heap.size pp g (Lib.uvarint c.toNat).length (Lib.uvarint l.length).length l.length ⟨(compBytes c l).toArray⟩ ⟨(Lib.uvarint c.toNat).toArray⟩ ⟨l.toArray⟩ ⟨(Lib.uvarint l.length ++ l).toArray⟩ pl _ h0 hU (by show (Lib.uvarint c.toNat).toArray.size = _; simp) hup hm (by show l.toArray.size = _; simp) hXs hrd hTs hlim2 hxU hxX hxV (hN hb) hE).mono ?_
    rintro e w' ⟨t, p, rfl, hb⟩
    exact ⟨⟨t, p, rfl⟩, by simpa using hb⟩
  | true =>
    cases hv : valOk c l with
    | false =>
      rw [show chk c l = false by rw [chk, hb, hv]; rfl]
      refine (validate_varB w3.heap.size pp g (Lib.uvarint c.toNat).length (Lib.uvarint l.length).length l.length ⟨(compBytes c l).toArray⟩ ⟨(Lib.uvarint c.toNat).toArray⟩ ⟨l.toArray⟩ ⟨(Lib.uvarint l.length ++ l).toArray⟩ pl _ h0 hU (by show (Lib.uvarint c.toNat).toArray.size = _; simp) hup hm (by show l.toArray.size = _; simp) hXs hrd hTs hlim2 hxU hxX hxV (hY hb) (hB hv) hE).mono ?_
      rintro e w' ⟨t, p, rfl, hb⟩
      exact ⟨⟨t, p, rfl⟩, by simpa using hb⟩
    | true =>
      rw [show chk c l = true by rw [chk, hb, hv]; rfl]
      refine (validate_varY w3.heap.size pp g (Lib.uvarint c.toNat).length (Lib.uvarint l.length).length l.length ⟨(compBytes c l).toArray⟩ ⟨(Lib.uvarint c.toNat).toArray⟩ ⟨l.toArray⟩ ⟨(Lib.uvarint l.length ++ l).toArray⟩ pl _ h0 hU (by show (Lib.uvarint c.toNat).toArray.size = _; simp) hup hm (by show l.toArray.size = _; simp) hXs hrd hTs hlim2 hxU hxX hxV (hY hb) (hA hv) hE).mono ?_
      rintro e w' ⟨rfl, hb⟩
      exact ⟨rfl, by simpa using hb⟩

end Go.Proofs.YtnpcmmjdojdmnaaGreatDoor
namespace Go.Proofs.YtnpcmmjdojdmnaaGreatDoor
open Go Go.RowKit Go.Sort


set_option maxRecDepth 100000 in
set_option maxHeartbeats 8000000 in
theorem rc_zeroY {c : Int} (hk : known c = true) (hz : psz c = 0) (rest : List UInt8) (g o cp : Nat) (w : World) (he : Env w) (hc : At w g o (compBytes c [] ++ rest)) (hcp : (compBytes c [] ++ rest).length ≤ cp) (_hlim : (compBytes c [] ++ rest).length ≤ 1000000) :
    Calls Tryz.prog 55 #[.slice (some ⟨g, o, none⟩) (compBytes c [] ++ rest).length cp] w fun e w' => ∃ q, e = .returned (.tuple #[.int .i64 (compBytes c []).length, .pointer (some ⟨q, 0, none⟩), .nilIface]) ∧ CompK w.heap.size w' q c [] ∧ Below w.heap.size w w' := by
  have hcb : compBytes c [] = Lib.uvarint c.toNat := by rw [compBytes, if_neg (by omega), List.append_nil, List.append_nil]
  have hct : ((c.toNat : Nat) : Int) = c := by have := (uvarint_code hk).2; omega
  have hup := Lib.uvarint_pos c.toNat
  have hul : (Lib.uvarint c.toNat).length ≤ 10 := Lib.uvarint_length64 (by have := (uvarint_code hk).1; omega)
  obtain ⟨n, hn⟩ : ∃ n, n = (Lib.uvarint c.toNat).length := ⟨_, rfl⟩
  obtain ⟨r, hr⟩ : ∃ r, r = rest.length := ⟨_, rfl⟩
  have hN : (compBytes c [] ++ rest).length = n + r := by simp only [hcb, List.length_append, hn, hr] <;> omega
  have hC : (compBytes c []).length = n := by simp only [hcb, hn] <;> omega
  have hAt : At w g o (compBytes c []) := hc.take
  have hrd : rdCode (compBytes c [] ++ rest) = some (c.toNat, n) := by rw [hcb, rdCode_uvarint _ _ (uvarint_code hk).1, hn]
  have H74 : Hid (Calls Tryz.prog 74 #[.slice (some ⟨g, o, none⟩) (n + r) cp] w fun e w' => e = .returned (.tuple #[.int .i64 c, .int .i64 n, .nilIface]) ∧ Below w.heap.size w w') := Lib.hid (by
    refine (readVarintCode g o (n + r) cp (compBytes c [] ++ rest) w hN hc he.errs).mono ?_
    rw [hrd]
    rintro e w' ⟨rfl, hb⟩
    exact ⟨by rw [hct], hb⟩)
  have H47 := protocolWithCode c hk
  have H71 := zzPtr c hk
  have hne := known_ne hk
  rw [hN] at hcp _hlim ⊢
  have hgl : g < w.heap.size := hAt.lt (by rw [hC]; omega)
  have HCV : Hid (∀ w', Below w.heap.size w w' → (convert 22 9 (.slice (some ⟨g, o, none⟩) (n) cp)).run Tryz.prog w' = .ok (.string ⟨(compBytes c []).toArray⟩) w') := Lib.hid fun w' hb => by
    have := convert_bytes (hAt.below hb hgl).bytes cp
    rwa [hC] at this
  have HV : Hid (∀ (w3 : World) (pp : Nat) (B : Nat), Below w.heap.size w w3 → ProtoAt B w3 pp c → Calls Tryz.prog 75 #[.pointer (some ⟨w3.heap.size, 0, none⟩)] (w3.alloc (.cells #[.string ⟨(compBytes c []).toArray⟩, .pointer (some ⟨pp, 0, none⟩), .int .i64 n] 50)) fun e w' =>
      (e = .returned .nilIface) ∧ Below (w3.heap.size + 1) (w3.alloc (.cells #[.string ⟨(compBytes c []).toArray⟩, .pointer (some ⟨pp, 0, none⟩), .int .i64 n] 50)) w') := Lib.hid fun w3 pp B hb hp => by
    have := validateNew_zero hk hz (by rw [hC]; omega) w3 (he.up hb) pp hp
    rwa [← hn] at this
  have hT' := tcv_form c
  rw [hz] at H47
  have HH47 := Lib.hid H47
  have HH71 := Lib.hid H71
  have HC := Lib.hid hC
  have hu : n ≤ 10 := by rw [hn]; exact hul
  have hn1 : 1 ≤ n := by rw [hn]; exact hup
  have HKS : Hid (((kst c [] : Nat) : Int) = (n : Int)) := Lib.hid (by rw [kst, if_neg (by omega), hn]; simp)
  clear hn hr H47 H71 hC hN hAt hc hup hul hcb hz hrd he
  generalize pname c = nm at *
  generalize ppath c = pth at *
  have q1 : IntKind.i64.wrap (n : Int) = n := IntWalk.i64_in _ (by omega)
  have q6 : (0 : Int) ≤ (n : Int) := by omega
  have q7 : (n : Int) ≤ (cp : Int) := by omega
  generalize tcv c = tv at *
  rcases hT' with rfl | ⟨tx, rfl⟩
  all_goals
    go_enter Tryz.func55, Tryz.ntmps55
    go_wp2_with (first
      | (go_at_call 74; (with_reducible refine H74.out.mono ?_); rintro e w1 ⟨rfl, hb1⟩)
      | (go_at_call 47; (with_reducible refine (HH47.out _).mono ?_); rintro e w2 ⟨vc, rfl, ⟨g2, hg1, hg2, rfl, hg4⟩, hb2⟩; refine Hid.out ?_))
    refine Lib.hid ?_
    have hb12 : Below w.heap.size w w2 := hb1.trans (hb2.mono hb1.size)
    go_wp2_with (first
      | (go_at_call 71; (with_reducible refine (HH71.out _).mono ?_); rintro e w3 ⟨pp, rfl, hp3, hb3⟩; obtain ⟨hc3, hf3⟩ := bcell hb3; have hbw3 : Below w.heap.size w w3 := (hb12.alloc hb12.size _).trans (hb3.mono (by have := hb12.size; simp; omega)); have hcv := HCV.out w3 hbw3)
      | (go_at_call 75; (with_reducible refine (HV.out w3 pp _ hbw3 hp3).mono ?_); rintro e w5 ⟨rfl, hb5⟩))
    go_ret3
    have hb35 : Below w3.heap.size w3 w5 := ((Below.refl _ _).alloc (Nat.le_refl _) _).trans (hb5.mono (Nat.le_succ _))
    have hs5 := hb5.size
    have hz3 := hbw3.size
    have hc5 : ∀ j, w5.cell? ⟨w3.heap.size, j, none⟩ = (w3.alloc (.cells #[.string ⟨(compBytes c []).toArray⟩, .pointer (some ⟨pp, 0, none⟩), .int .i64 n] 50)).cell? ⟨w3.heap.size, j, none⟩ := fun j => hb5.cell (p := ⟨w3.heap.size, j, none⟩) (by simp)
    refine ⟨w3.heap.size, by rw [HC.out]; rfl, ⟨hz3, by simp at hs5; omega, pp, ?_, ?_, ?_, ?_⟩, hbw3.trans (hb35.mono hz3)⟩
    · rw [hc5]; simp [go_sem]
    · rw [hc5]; simp [go_sem]
    · rw [hc5, HKS.out]; simp [go_sem]
    · exact (hp3.below hb35 (Nat.le_refl _)).mono (by have := hb12.size; simp; omega)

set_option maxRecDepth 100000 in
set_option maxHeartbeats 8000000 in
theorem rc_fixY {c : Int} {l : List UInt8} (hk : known c = true) (hsz : psz c = (l.length : Int) * 8) (hm : 1 ≤ l.length) (hT : Trans c l) (hchk : chk c l = true) (rest : List UInt8) (g o cp : Nat) (w : World) (he : Env w) (hc : At w g o (compBytes c l ++ rest)) (hcp : (compBytes c l ++ rest).length ≤ cp) (hlim : (compBytes c l ++ rest).length ≤ 1000000) :
    Calls Tryz.prog 55 #[.slice (some ⟨g, o, none⟩) (compBytes c l ++ rest).length cp] w fun e w' => ∃ q, e = .returned (.tuple #[.int .i64 (compBytes c l).length, .pointer (some ⟨q, 0, none⟩), .nilIface]) ∧ CompK w.heap.size w' q c l ∧ Below w.heap.size w w' := by
  have hcb : compBytes c l = Lib.uvarint c.toNat ++ l := by rw [compBytes, if_neg (by omega), List.append_nil]
  have hct : ((c.toNat : Nat) : Int) = c := by have := (uvarint_code hk).2; omega
  have hup := Lib.uvarint_pos c.toNat
  have hul : (Lib.uvarint c.toNat).length ≤ 10 := Lib.uvarint_length64 (by have := (uvarint_code hk).1; omega)
  obtain ⟨n, hn⟩ : ∃ n, n = (Lib.uvarint c.toNat).length := ⟨_, rfl⟩
  obtain ⟨r, hr⟩ : ∃ r, r = rest.length := ⟨_, rfl⟩
  obtain ⟨m, hmm⟩ : ∃ m, m = l.length := ⟨_, rfl⟩
  have hN : (compBytes c l ++ rest).length = n + m + r := by simp only [hcb, List.length_append, hn, hmm, hr] <;> omega
  have hC : (compBytes c l).length = n + m := by simp only [hcb, List.length_append, hn, hmm] <;> omega
  have hAt : At w g o (compBytes c l) := hc.take
  have hrd : rdCode (compBytes c l ++ rest) = some (c.toNat, n) := by rw [hcb, List.append_assoc, rdCode_uvarint _ _ (uvarint_code hk).1, hn]
  have H74 : Hid (Calls Tryz.prog 74 #[.slice (some ⟨g, o, none⟩) (n + m + r) cp] w fun e w' => e = .returned (.tuple #[.int .i64 c, .int .i64 n, .nilIface]) ∧ Below w.heap.size w w') := Lib.hid (by
    refine (readVarintCode g o (n + m + r) cp (compBytes c l ++ rest) w hN hc he.errs).mono ?_
    rw [hrd]
    rintro e w' ⟨rfl, hb⟩
    exact ⟨by rw [hct], hb⟩)
  have H47 := protocolWithCode c hk
  have H71 := zzPtr c hk
  have hne := known_ne hk
  rw [hN] at hcp hlim ⊢
  have hm8 : psz c = (m : Int) * 8 := by rw [hsz, hmm]
  have hgl : g < w.heap.size := hAt.lt (by rw [hC]; omega)
  have HCV : Hid (∀ w', Below w.heap.size w w' → (convert 22 9 (.slice (some ⟨g, o, none⟩) (n + m) cp)).run Tryz.prog w' = .ok (.string ⟨(compBytes c l).toArray⟩) w') := Lib.hid fun w' hb => by
    have := convert_bytes (hAt.below hb hgl).bytes cp
    rwa [hC] at this
  have HV : Hid (∀ (w3 : World) (pp : Nat) (B : Nat), Below w.heap.size w w3 → ProtoAt B w3 pp c → Calls Tryz.prog 75 #[.pointer (some ⟨w3.heap.size, 0, none⟩)] (w3.alloc (.cells #[.string ⟨(compBytes c l).toArray⟩, .pointer (some ⟨pp, 0, none⟩), .int .i64 n] 50)) fun e w' =>
      (e = .returned .nilIface) ∧ Below (w3.heap.size + 1) (w3.alloc (.cells #[.string ⟨(compBytes c l).toArray⟩, .pointer (some ⟨pp, 0, none⟩), .int .i64 n] 50)) w') := Lib.hid fun w3 pp B hb hp => by
    have := validateNew_fix hk hsz hm hT (by rw [hC]; omega) w3 (he.up hb) pp hp
    rwa [← hn, hchk] at this
  have hT' := tcv_form c
  rw [hm8] at H47
  have HH47 := Lib.hid H47
  have HH71 := Lib.hid H71
  have HC := Lib.hid hC
  have hu : n ≤ 10 := by rw [hn]; exact hul
  have hn1 : 1 ≤ n := by rw [hn]; exact hup
  have hm1 : 1 ≤ m := by rw [hmm]; exact hm
  have HKS : Hid (((kst c l : Nat) : Int) = (n : Int)) := Lib.hid (by rw [kst, if_neg (by omega), hn]; simp)
  clear hn hmm hr H47 H71 hC hN hAt hc hup hul hcb hsz hT hchk hm hm8 hrd he
  generalize pname c = nm at *
  generalize ppath c = pth at *
  have q1 : IntKind.i64.wrap (n : Int) = n := IntWalk.i64_in _ (by omega)
  have q2 : ((m : Int) * 8 == 0) = false := by simp; omega
  have q3 : decide ((m : Int) * 8 < 0) = false := by simp; omega
  have q4 : ((m : Int) * 8).tdiv 8 = (m : Int) := Int.mul_tdiv_cancel _ (by decide)
  have q5 : IntKind.i64.wrap (m : Int) = m := IntWalk.i64_in _ (by omega)
  have q6 : (0 : Int) ≤ (n : Int) := by omega
  have q7 : (n : Int) ≤ ((n + m + r : Nat) : Int) := by omega
  have q8 : decide (((n + m + r - n : Nat) : Int) < (m : Int)) = false := by simp; omega
  have q9 : decide ((m : Int) ≤ 0) = false := by simp; omega
  have qa : IntKind.i64.wrap ((n : Int) + (m : Int)) = ((n + m : Nat) : Int) := by rw [IntWalk.i64_in _ (by omega)]; simp
  have qb : (0 : Int) ≤ ((n + m : Nat) : Int) := by omega
  have qc : ((n + m : Nat) : Int) ≤ (cp : Int) := by omega
  generalize tcv c = tv at *
  rcases hT' with rfl | ⟨tx, rfl⟩
  all_goals
    go_enter Tryz.func55, Tryz.ntmps55
    go_wp2_with (first
      | (go_at_call 74; (with_reducible refine H74.out.mono ?_); rintro e w1 ⟨rfl, hb1⟩)
      | (go_at_call 47; (with_reducible refine (HH47.out _).mono ?_); rintro e w2 ⟨vc, rfl, ⟨g2, hg1, hg2, rfl, hg4⟩, hb2⟩; refine Hid.out ?_))
    refine Lib.hid ?_
    have hb12 : Below w.heap.size w w2 := hb1.trans (hb2.mono hb1.size)
    go_wp2_with (first
      | (go_at_call 71; (with_reducible refine (HH71.out _).mono ?_); rintro e w3 ⟨pp, rfl, hp3, hb3⟩; obtain ⟨hc3, hf3⟩ := bcell hb3; have hbw3 : Below w.heap.size w w3 := (hb12.alloc hb12.size _).trans (hb3.mono (by have := hb12.size; simp; omega)); have hcv := HCV.out w3 hbw3)
      | (go_at_call 75; (with_reducible refine (HV.out w3 pp _ hbw3 hp3).mono ?_); rintro e w5 ⟨rfl, hb5⟩))
    go_ret3
    have hb35 : Below w3.heap.size w3 w5 := ((Below.refl _ _).alloc (Nat.le_refl _) _).trans (hb5.mono (Nat.le_succ _))
    have hs5 := hb5.size
    have hz3 := hbw3.size
    have hc5 : ∀ j, w5.cell? ⟨w3.heap.size, j, none⟩ = (w3.alloc (.cells #[.string ⟨(compBytes c l).toArray⟩, .pointer (some ⟨pp, 0, none⟩), .int .i64 n] 50)).cell? ⟨w3.heap.size, j, none⟩ := fun j => hb5.cell (p := ⟨w3.heap.size, j, none⟩) (by simp)
    refine ⟨w3.heap.size, by rw [HC.out]; rfl, ⟨hz3, by simp at hs5; omega, pp, ?_, ?_, ?_, ?_⟩, hbw3.trans (hb35.mono hz3)⟩
    · rw [hc5]; simp [go_sem]
    · rw [hc5]; simp [go_sem]
    · rw [hc5, HKS.out]; simp [go_sem]
    · exact (hp3.below hb35 (Nat.le_refl _)).mono (by have := hb12.size; simp; omega)

set_option maxRecDepth 100000 in
set_option maxHeartbeats 8000000 in
theorem rc_fixN {c : Int} {l : List UInt8} (hk : known c = true) (hsz : psz c = (l.length : Int) * 8) (hm : 1 ≤ l.length) (hT : Trans c l) (hchk : chk c l = false) (rest : List UInt8) (g o cp : Nat) (w : World) (he : Env w) (hc : At w g o (compBytes c l ++ rest)) (hcp : (compBytes c l ++ rest).length ≤ cp) (hlim : (compBytes c l ++ rest).length ≤ 1000000) :
    Calls Tryz.prog 55 #[.slice (some ⟨g, o, none⟩) (compBytes c l ++ rest).length cp] w fun e w' => ∃ t p, e = .returned (.tuple #[.int .i64 0, .pointer none, .iface t p]) ∧ Below w.heap.size w w' := by
  have hcb : compBytes c l = Lib.uvarint c.toNat ++ l := by rw [compBytes, if_neg (by omega), List.append_nil]
  have hct : ((c.toNat : Nat) : Int) = c := by have := (uvarint_code hk).2; omega
  have hup := Lib.uvarint_pos c.toNat
  have hul : (Lib.uvarint c.toNat).length ≤ 10 := Lib.uvarint_length64 (by have := (uvarint_code hk).1; omega)
  obtain ⟨n, hn⟩ : ∃ n, n = (Lib.uvarint c.toNat).length := ⟨_, rfl⟩
  obtain ⟨r, hr⟩ : ∃ r, r = rest.length := ⟨_, rfl⟩
  obtain ⟨m, hmm⟩ : ∃ m, m = l.length := ⟨_, rfl⟩
  have hN : (compBytes c l ++ rest).length = n + m + r := by simp only [hcb, List.length_append, hn, hmm, hr] <;> omega
  have hC : (compBytes c l).length = n + m := by simp only [hcb, List.length_append, hn, hmm] <;> omega
  have hAt : At w g o (compBytes c l) := hc.take
  have hrd : rdCode (compBytes c l ++ rest) = some (c.toNat, n) := by rw [hcb, List.append_assoc, rdCode_uvarint _ _ (uvarint_code hk).1, hn]
  have H74 : Hid (Calls Tryz.prog 74 #[.slice (some ⟨g, o, none⟩) (n + m + r) cp] w fun e w' => e = .returned (.tuple #[.int .i64 c, .int .i64 n, .nilIface]) ∧ Below w.heap.size w w') := Lib.hid (by
    refine (readVarintCode g o (n + m + r) cp (compBytes c l ++ rest) w hN hc he.errs).mono ?_
    rw [hrd]
    rintro e w' ⟨rfl, hb⟩
    exact ⟨by rw [hct], hb⟩)
  have H47 := protocolWithCode c hk
  have H71 := zzPtr c hk
  have hne := known_ne hk
  rw [hN] at hcp hlim ⊢
  have hm8 : psz c = (m : Int) * 8 := by rw [hsz, hmm]
  have hgl : g < w.heap.size := hAt.lt (by rw [hC]; omega)
  have HCV : Hid (∀ w', Below w.heap.size w w' → (convert 22 9 (.slice (some ⟨g, o, none⟩) (n + m) cp)).run Tryz.prog w' = .ok (.string ⟨(compBytes c l).toArray⟩) w') := Lib.hid fun w' hb => by
    have := convert_bytes (hAt.below hb hgl).bytes cp
    rwa [hC] at this
  have HV : Hid (∀ (w3 : World) (pp : Nat) (B : Nat), Below w.heap.size w w3 → ProtoAt B w3 pp c → Calls Tryz.prog 75 #[.pointer (some ⟨w3.heap.size, 0, none⟩)] (w3.alloc (.cells #[.string ⟨(compBytes c l).toArray⟩, .pointer (some ⟨pp, 0, none⟩), .int .i64 n] 50)) fun e w' =>
      (∃ t p, e = .returned (.iface t p)) ∧ Below (w3.heap.size + 1) (w3.alloc (.cells #[.string ⟨(compBytes c l).toArray⟩, .pointer (some ⟨pp, 0, none⟩), .int .i64 n] 50)) w') := Lib.hid fun w3 pp B hb hp => by
    have := validateNew_fix hk hsz hm hT (by rw [hC]; omega) w3 (he.up hb) pp hp
    rwa [← hn, hchk] at this
  have hT' := tcv_form c
  rw [hm8] at H47
  have HH47 := Lib.hid H47
  have HH71 := Lib.hid H71
  have HC := Lib.hid hC
  have hu : n ≤ 10 := by rw [hn]; exact hul
  have hn1 : 1 ≤ n := by rw [hn]; exact hup
  have hm1 : 1 ≤ m := by rw [hmm]; exact hm
  have HKS : Hid (((kst c l : Nat) : Int) = (n : Int)) := Lib.hid (by rw [kst, if_neg (by omega), hn]; simp)
  clear hn hmm hr H47 H71 hC hN hAt hc hup hul hcb hsz hT hchk hm hm8 hrd he
  generalize pname c = nm at *
  generalize ppath c = pth at *
  have q1 : IntKind.i64.wrap (n : Int) = n := IntWalk.i64_in _ (by omega)
  have q2 : ((m : Int) * 8 == 0) = false := by simp; omega
  have q3 : decide ((m : Int) * 8 < 0) = false := by simp; omega
  have q4 : ((m : Int) * 8).tdiv 8 = (m : Int) := Int.mul_tdiv_cancel _ (by decide)
  have q5 : IntKind.i64.wrap (m : Int) = m := IntWalk.i64_in _ (by omega)
  have q6 : (0 : Int) ≤ (n : Int) := by omega
  have q7 : (n : Int) ≤ ((n + m + r : Nat) : Int) := by omega
  have q8 : decide (((n + m + r - n : Nat) : Int) < (m : Int)) = false := by simp; omega
  have q9 : decide ((m : Int) ≤ 0) = false := by simp; omega
  have qa : IntKind.i64.wrap ((n : Int) + (m : Int)) = ((n + m : Nat) : Int) := by rw [IntWalk.i64_in _ (by omega)]; simp
  have qb : (0 : Int) ≤ ((n + m : Nat) : Int) := by omega
  have qc : ((n + m : Nat) : Int) ≤ (cp : Int) := by omega
  generalize tcv c = tv at *
  rcases hT' with rfl | ⟨tx, rfl⟩
  all_goals
    go_enter Tryz.func55, Tryz.ntmps55
    go_wp2_with (first
      | (go_at_call 74; (with_reducible refine H74.out.mono ?_); rintro e w1 ⟨rfl, hb1⟩)
      | (go_at_call 47; (with_reducible refine (HH47.out _).mono ?_); rintro e w2 ⟨vc, rfl, ⟨g2, hg1, hg2, rfl, hg4⟩, hb2⟩; refine Hid.out ?_))
    refine Lib.hid ?_
    have hb12 : Below w.heap.size w w2 := hb1.trans (hb2.mono hb1.size)
    go_wp2_with (first
      | (go_at_call 71; (with_reducible refine (HH71.out _).mono ?_); rintro e w3 ⟨pp, rfl, hp3, hb3⟩; obtain ⟨hc3, hf3⟩ := bcell hb3; have hbw3 : Below w.heap.size w w3 := (hb12.alloc hb12.size _).trans (hb3.mono (by have := hb12.size; simp; omega)); have hcv := HCV.out w3 hbw3)
      | (go_at_call 75; (with_reducible refine (HV.out w3 pp _ hbw3 hp3).mono ?_); rintro e w5 ⟨⟨t, p, rfl⟩, hb5⟩))
    go_ret3
    have hb35 : Below w3.heap.size w3 w5 := ((Below.refl _ _).alloc (Nat.le_refl _) _).trans (hb5.mono (Nat.le_succ _))
    have hs5 := hb5.size
    have hz3 := hbw3.size
    exact ⟨t, p, rfl, hbw3.trans (hb35.mono hz3)⟩

end Go.Proofs.YtnpcmmjdojdmnaaGreatDoor
namespace Go.Proofs.YtnpcmmjdojdmnaaGreatDoor
open Go Go.RowKit Go.Sort


set_option maxRecDepth 100000 in
set_option maxHeartbeats 8000000 in
theorem rc_varY {c : Int} {l : List UInt8} (hk : known c = true) (hsz : psz c < 0) (hm : 1 ≤ l.length) (hml : l.length ≤ 2147483647) (hT : Trans c l) (hchk : chk c l = true) (rest : List UInt8) (g o cp : Nat) (w : World) (he : Env w) (hc : At w g o (compBytes c l ++ rest)) (hcp : (compBytes c l ++ rest).length ≤ cp) (hlim : (compBytes c l ++ rest).length ≤ 1000000) :
    Calls Tryz.prog 55 #[.slice (some ⟨g, o, none⟩) (compBytes c l ++ rest).length cp] w fun e w' => ∃ q, e = .returned (.tuple #[.int .i64 (compBytes c l).length, .pointer (some ⟨q, 0, none⟩), .nilIface]) ∧ CompK w.heap.size w' q c l ∧ Below w.heap.size w w' := by
  have hcb : compBytes c l = Lib.uvarint c.toNat ++ (Lib.uvarint l.length ++ l) := by rw [compBytes, if_pos hsz, List.append_assoc]
  have hct : ((c.toNat : Nat) : Int) = c := by have := (uvarint_code hk).2; omega
  have hup := Lib.uvarint_pos c.toNat
  have hul : (Lib.uvarint c.toNat).length ≤ 10 := Lib.uvarint_length64 (by have := (uvarint_code hk).1; omega)
  obtain ⟨n, hn⟩ : ∃ n, n = (Lib.uvarint c.toNat).length := ⟨_, rfl⟩
  obtain ⟨r, hr⟩ : ∃ r, r = rest.length := ⟨_, rfl⟩
  obtain ⟨m, hmm⟩ : ∃ m, m = l.length := ⟨_, rfl⟩
  have hkp := Lib.uvarint_pos l.length
  have hkl : (Lib.uvarint l.length).length ≤ 10 := Lib.uvarint_length64 (by omega)
  obtain ⟨k, hkk⟩ : ∃ k, k = (Lib.uvarint l.length).length := ⟨_, rfl⟩
  have hN : (compBytes c l ++ rest).length = n + k + m + r := by simp only [hcb, List.length_append, hn, hmm, hkk, hr] <;> omega
  have hC : (compBytes c l).length = n + k + m := by simp only [hcb, List.length_append, hn, hmm, hkk] <;> omega
  have hAt : At w g o (compBytes c l) := hc.take
  have hrd : rdCode (compBytes c l ++ rest) = some (c.toNat, n) := by rw [hcb, List.append_assoc, rdCode_uvarint _ _ (uvarint_code hk).1, hn]
  have H74 : Hid (Calls Tryz.prog 74 #[.slice (some ⟨g, o, none⟩) (n + k + m + r) cp] w fun e w' => e = .returned (.tuple #[.int .i64 c, .int .i64 n, .nilIface]) ∧ Below w.heap.size w w') := Lib.hid (by
    refine (readVarintCode g o (n + k + m + r) cp (compBytes c l ++ rest) w hN hc he.errs).mono ?_
    rw [hrd]
    rintro e w' ⟨rfl, hb⟩
    exact ⟨by rw [hct], hb⟩)
  have H47 := protocolWithCode c hk
  have H71 := zzPtr c hk
  have hne := known_ne hk
  rw [hN] at hcp hlim ⊢
  have hm8 : psz c = -1 := psz_neg hsz
  have hAt2 : At w g (o + n) (Lib.uvarint l.length ++ l ++ rest) := by
    have : compBytes c l ++ rest = Lib.uvarint c.toNat ++ (Lib.uvarint l.length ++ l ++ rest) := by rw [hcb]; simp
    rw [this] at hc
    rw [hn]
    exact hc.drop
  have hrd2 : rdCode (Lib.uvarint l.length ++ l ++ rest) = some (m, k) := by rw [List.append_assoc, rdCode_uvarint _ _ hml, hmm, hkk]
  have hlen2 : (Lib.uvarint l.length ++ l ++ rest).length = n + k + m + r - n := by rw [List.length_append, List.length_append, ← hkk, ← hmm, ← hr]; omega
  have hgl : g < w.heap.size := hAt.lt (by rw [hC]; omega)
  have HCV : Hid (∀ w', Below w.heap.size w w' → (convert 22 9 (.slice (some ⟨g, o, none⟩) (n + k + m) cp)).run Tryz.prog w' = .ok (.string ⟨(compBytes c l).toArray⟩) w') := Lib.hid fun w' hb => by
    have := convert_bytes (hAt.below hb hgl).bytes cp
    rwa [hC] at this
  have H74b : Hid (∀ w', Below w.heap.size w w' → Calls Tryz.prog 74 #[.slice (some ⟨g, o + n, none⟩) (n + k + m + r - n) (cp - n)] w' fun e w'' => e = .returned (.tuple #[.int .i64 m, .int .i64 k, .nilIface]) ∧ Below w'.heap.size w' w'') := Lib.hid fun w' hb => by
    refine (readVarintCode g (o + n) _ (cp - n) _ w' hlen2 (hAt2.below hb hgl) (he.up hb).errs).mono ?_
    rw [hrd2]
    rintro e w'' ⟨rfl, hb2⟩
    exact ⟨rfl, hb2⟩
  have HV : Hid (∀ (w3 : World) (pp : Nat) (B : Nat), Below w.heap.size w w3 → ProtoAt B w3 pp c → Calls Tryz.prog 75 #[.pointer (some ⟨w3.heap.size, 0, none⟩)] (w3.alloc (.cells #[.string ⟨(compBytes c l).toArray⟩, .pointer (some ⟨pp, 0, none⟩), .int .i64 ((n : Int) + (k : Int))] 50)) fun e w' =>
      (e = .returned .nilIface) ∧ Below (w3.heap.size + 1) (w3.alloc (.cells #[.string ⟨(compBytes c l).toArray⟩, .pointer (some ⟨pp, 0, none⟩), .int .i64 ((n : Int) + (k : Int))] 50)) w') := Lib.hid fun w3 pp B hb hp => by
    have := validateNew_var hk hsz hm hml hT (by rw [hC]; omega) w3 (he.up hb) pp hp
    rw [← hn, ← hkk, hchk] at this
    simp only [Int.natCast_add] at this
    exact this
  have hT' := tcv_form c
  rw [hm8] at H47
  have HH47 := Lib.hid H47
  have HH71 := Lib.hid H71
  have HC := Lib.hid hC
  have hu : n ≤ 10 := by rw [hn]; exact hul
  have hn1 : 1 ≤ n := by rw [hn]; exact hup
  have hm1 : 1 ≤ m := by rw [hmm]; exact hm
  have hk1 : 1 ≤ k := by rw [hkk]; exact hkp
  have hk10 : k ≤ 10 := by rw [hkk]; exact hkl
  have HKS : Hid (((kst c l : Nat) : Int) = (n : Int) + (k : Int)) := Lib.hid (by rw [kst, if_pos hsz, ← hn, ← hkk]; exact Int.natCast_add n k)
  clear hn hmm hr hkk H47 H71 hC hN hAt hAt2 hc hup hul hcb hsz hT hchk hm hml hm8 hrd hrd2 hlen2 hkp hkl he
  generalize pname c = nm at *
  generalize ppath c = pth at *
  have q1 : IntKind.i64.wrap (n : Int) = n := IntWalk.i64_in _ (by omega)
  have q6 : (0 : Int) ≤ (n : Int) := by omega
  have q7 : (n : Int) ≤ ((n + k + m + r : Nat) : Int) := by omega
  have r1 : IntKind.i64.wrap ((n : Int) + (k : Int)) = ((n + k : Nat) : Int) := by rw [IntWalk.i64_in _ (by omega)]; simp
  have r2 : (0 : Int) ≤ ((n + k : Nat) : Int) := by omega
  have r3 : ((n + k : Nat) : Int) ≤ ((n + k + m + r : Nat) : Int) := by omega
  have q8 : decide (((n + k + m + r - (n + k) : Nat) : Int) < (m : Int)) = false := by simp; omega
  have q9 : decide ((m : Int) ≤ 0) = false := by simp; omega
  have qa : IntKind.i64.wrap (((n + k : Nat) : Int) + (m : Int)) = ((n + k + m : Nat) : Int) := by rw [IntWalk.i64_in _ (by omega)]; simp
  have qb : (0 : Int) ≤ ((n + k + m : Nat) : Int) := by omega
  have qc : ((n + k + m : Nat) : Int) ≤ (cp : Int) := by omega
  generalize tcv c = tv at *
  rcases hT' with rfl | ⟨tx, rfl⟩
  all_goals
    go_enter Tryz.func55, Tryz.ntmps55
    go_wp2_with (first
      | (go_at_call 74; (with_reducible refine H74.out.mono ?_); rintro e w1 ⟨rfl, hb1⟩)
      | (go_at_call 47; (with_reducible refine (HH47.out _).mono ?_); rintro e w2 ⟨vc, rfl, ⟨g2, hg1, hg2, rfl, hg4⟩, hb2⟩; refine Hid.out ?_))
    refine Lib.hid ?_
    have hb12 : Below w.heap.size w w2 := hb1.trans (hb2.mono hb1.size)
    go_wp2_with (first
      | (go_at_call 71; (with_reducible refine (HH71.out _).mono ?_); rintro e w3 ⟨pp, rfl, hp3, hb3⟩; obtain ⟨hc3, hf3⟩ := bcell hb3; have hbw3 : Below w.heap.size w w3 := (hb12.alloc hb12.size _).trans (hb3.mono (by have := hb12.size; simp; omega)))
      | (go_at_call 74; (with_reducible refine (H74b.out w3 hbw3).mono ?_); rintro e w4 ⟨rfl, hb4⟩; have hbw4 : Below w.heap.size w w4 := hbw3.trans (hb4.mono hbw3.size); have hp4 := hp3.below hb4 (Nat.le_refl _); have hcv := HCV.out w4 hbw4)
      | (go_at_call 75; (with_reducible refine (HV.out w4 pp _ hbw4 hp4).mono ?_); rintro e w5 ⟨rfl, hb5⟩))
    go_ret3
    have hb35 : Below w4.heap.size w4 w5 := ((Below.refl _ _).alloc (Nat.le_refl _) _).trans (hb5.mono (Nat.le_succ _))
    have hs5 := hb5.size
    have hz3 := hbw4.size
    have hc5 : ∀ j, w5.cell? ⟨w4.heap.size, j, none⟩ = (w4.alloc (.cells #[.string ⟨(compBytes c l).toArray⟩, .pointer (some ⟨pp, 0, none⟩), .int .i64 ((n : Int) + (k : Int))] 50)).cell? ⟨w4.heap.size, j, none⟩ := fun j => hb5.cell (p := ⟨w4.heap.size, j, none⟩) (by simp)
    refine ⟨w4.heap.size, by rw [HC.out]; rfl, ⟨hz3, by simp at hs5; omega, pp, ?_, ?_, ?_, ?_⟩, hbw4.trans (hb35.mono hz3)⟩
    · rw [hc5]; simp [go_sem]
    · rw [hc5]; simp [go_sem]
    · rw [hc5, HKS.out]; simp [go_sem]
    · exact (hp4.below hb35 (Nat.le_refl _)).mono (by have := hb12.size; simp; omega)

set_option maxRecDepth 100000 in
set_option maxHeartbeats 8000000 in
theorem rc_varN {c : Int} {l : List UInt8} (hk : known c = true) (hsz : psz c < 0) (hm : 1 ≤ l.length) (hml : l.length ≤ 2147483647) (hT : Trans c l) (hchk : chk c l = false) (rest : List UInt8) (g o cp : Nat) (w : World) (he : Env w) (hc : At w g o (compBytes c l ++ rest)) (hcp : (compBytes c l ++ rest).length ≤ cp) (hlim : (compBytes c l ++ rest).length ≤ 1000000) :
    Calls Tryz.prog 55 #[.slice (some ⟨g, o, none⟩) (compBytes c l ++ rest).length cp] w fun e w' => ∃ t p, e = .returned (.tuple #[.int .i64 0, .pointer none, .iface t p]) ∧ Below w.heap.size w w' := by
  have hcb : compBytes c l = Lib.uvarint c.toNat ++ (Lib.uvarint l.length ++ l) := by rw [compBytes, if_pos hsz, List.append_assoc]
  have hct : ((c.toNat : Nat) : Int) = c := by have := (uvarint_code hk).2; omega
  have hup := Lib.uvarint_pos c.toNat
  have hul : (Lib.uvarint c.toNat).length ≤ 10 := Lib.uvarint_length64 (by have := (uvarint_code hk).1; omega)
  obtain ⟨n, hn⟩ : ∃ n, n = (Lib.uvarint c.toNat).length := ⟨_, rfl⟩
  obtain ⟨r, hr⟩ : ∃ r, r = rest.length := ⟨_, rfl⟩
  obtain ⟨m, hmm⟩ : ∃ m, m = l.length := ⟨_, rfl⟩
  have hkp := Lib.uvarint_pos l.length
  have hkl : (Lib.uvarint l.length).length ≤ 10 := Lib.uvarint_length64 (by omega)
  obtain ⟨k, hkk⟩ : ∃ k, k = (Lib.uvarint l.length).length := ⟨_, rfl⟩
  have hN : (compBytes c l ++ rest).length = n + k + m + r := by simp only [hcb, List.length_append, hn, hmm, hkk, hr] <;> omega
  have hC : (compBytes c l).length = n + k + m := by simp only [hcb, List.length_append, hn, hmm, hkk] <;> omega
  have hAt : At w g o (compBytes c l) := hc.take
  have hrd : rdCode (compBytes c l ++ rest) = some (c.toNat, n) := by rw [hcb, List.append_assoc, rdCode_uvarint _ _ (uvarint_code hk).1, hn]
  have H74 : Hid (Calls Tryz.prog 74 #[.slice (some ⟨g, o, none⟩) (n + k + m + r) cp] w fun e w' => e = .returned (.tuple #[.int .i64 c, .int .i64 n, .nilIface]) ∧ Below w.heap.size w w') := Lib.hid (by
    refine (readVarintCode g o (n + k + m + r) cp (compBytes c l ++ rest) w hN hc he.errs).mono ?_
    rw [hrd]
    rintro e w' ⟨rfl, hb⟩
    exact ⟨by rw [hct], hb⟩)
  have H47 := protocolWithCode c hk
  have H71 := zzPtr c hk
  have hne := known_ne hk
  rw [hN] at hcp hlim ⊢
  have hm8 : psz c = -1 := psz_neg hsz
  have hAt2 : At w g (o + n) (Lib.uvarint l.length ++ l ++ rest) := by
    have : compBytes c l ++ rest = Lib.uvarint c.toNat ++ (Lib.uvarint l.length ++ l ++ rest) := by rw [hcb]; simp
    rw [this] at hc
    rw [hn]
    exact hc.drop
  have hrd2 : rdCode (Lib.uvarint l.length ++ l ++ rest) = some (m, k) := by rw [List.append_assoc, rdCode_uvarint _ _ hml, hmm, hkk]
  have hlen2 : (Lib.uvarint l.length ++ l ++ rest).length = n + k + m + r - n := by rw [List.length_append, List.length_append, ← hkk, ← hmm, ← hr]; omega
  have hgl : g < w.heap.size := hAt.lt (by rw [hC]; omega)
  have HCV : Hid (∀ w', Below w.heap.size w w' → (convert 22 9 (.slice (some ⟨g, o, none⟩) (n + k + m) cp)).run Tryz.prog w' = .ok (.string ⟨(compBytes c l).toArray⟩) w') := Lib.hid fun w' hb => by
    have := convert_bytes (hAt.below hb hgl).bytes cp
    rwa [hC] at this
  have H74b : Hid (∀ w', Below w.heap.size w w' → Calls Tryz.prog 74 #[.slice (some ⟨g, o + n, none⟩) (n + k + m + r - n) (cp - n)] w' fun e w'' => e = .returned (.tuple #[.int .i64 m, .int .i64 k, .nilIface]) ∧ Below w'.heap.size w' w'') := Lib.hid fun w' hb => by
    refine (readVarintCode g (o + n) _ (cp - n) _ w' hlen2 (hAt2.below hb hgl) (he.up hb).errs).mono ?_
    rw [hrd2]
    rintro e w'' ⟨rfl, hb2⟩
    exact ⟨rfl, hb2⟩
  have HV : Hid (∀ (w3 : World) (pp : Nat) (B : Nat), Below w.heap.size w w3 → ProtoAt B w3 pp c → Calls Tryz.prog 75 #[.pointer (some ⟨w3.heap.size, 0, none⟩)] (w3.alloc (.cells #[.string ⟨(compBytes c l).toArray⟩, .pointer (some ⟨pp, 0, none⟩), .int .i64 ((n : Int) + (k : Int))] 50)) fun e w' =>
      (∃ t p, e = .returned (.iface t p)) ∧ Below (w3.heap.size + 1) (w3.alloc (.cells #[.string ⟨(compBytes c l).toArray⟩, .pointer (some ⟨pp, 0, none⟩), .int .i64 ((n : Int) + (k : Int))] 50)) w') := Lib.hid fun w3 pp B hb hp => by
    have := validateNew_var hk hsz hm hml hT (by rw [hC]; omega) w3 (he.up hb) pp hp
    rw [← hn, ← hkk, hchk] at this
    simp only [Int.natCast_add] at this
    exact this
  have hT' := tcv_form c
  rw [hm8] at H47
  have HH47 := Lib.hid H47
  have HH71 := Lib.hid H71
  have HC := Lib.hid hC
  have hu : n ≤ 10 := by rw [hn]; exact hul
  have hn1 : 1 ≤ n := by rw [hn]; exact hup
  have hm1 : 1 ≤ m := by rw [hmm]; exact hm
  have hk1 : 1 ≤ k := by rw [hkk]; exact hkp
  have hk10 : k ≤ 10 := by rw [hkk]; exact hkl
  have HKS : Hid (((kst c l : Nat) : Int) = (n : Int) + (k : Int)) := Lib.hid (by rw [kst, if_pos hsz, ← hn, ← hkk]; exact Int.natCast_add n k)
  clear hn hmm hr hkk H47 H71 hC hN hAt hAt2 hc hup hul hcb hsz hT hchk hm hml hm8 hrd hrd2 hlen2 hkp hkl he
  generalize pname c = nm at *
  generalize ppath c = pth at *
  have q1 : IntKind.i64.wrap (n : Int) = n := IntWalk.i64_in _ (by omega)
  have q6 : (0 : Int) ≤ (n : Int) := by omega
  have q7 : (n : Int) ≤ ((n + k + m + r : Nat) : Int) := by omega
  have r1 : IntKind.i64.wrap ((n : Int) + (k : Int)) = ((n + k : Nat) : Int) := by rw [IntWalk.i64_in _ (by omega)]; simp
  have r2 : (0 : Int) ≤ ((n + k : Nat) : Int) := by omega
  have r3 : ((n + k : Nat) : Int) ≤ ((n + k + m + r : Nat) : Int) := by omega
  have q8 : decide (((n + k + m + r - (n + k) : Nat) : Int) < (m : Int)) = false := by simp; omega
  have q9 : decide ((m : Int) ≤ 0) = false := by simp; omega
  have qa : IntKind.i64.wrap (((n + k : Nat) : Int) + (m : Int)) = ((n + k + m : Nat) : Int) := by rw [IntWalk.i64_in _ (by omega)]; simp
  have qb : (0 : Int) ≤ ((n + k + m : Nat) : Int) := by omega
  have qc : ((n + k + m : Nat) : Int) ≤ (cp : Int) := by omega
  generalize tcv c = tv at *
  rcases hT' with rfl | ⟨tx, rfl⟩
  all_goals
    go_enter Tryz.func55, Tryz.ntmps55
    go_wp2_with (first
      | (go_at_call 74; (with_reducible refine H74.out.mono ?_); rintro e w1 ⟨rfl, hb1⟩)
      | (go_at_call 47; (with_reducible refine (HH47.out _).mono ?_); rintro e w2 ⟨vc, rfl, ⟨g2, hg1, hg2, rfl, hg4⟩, hb2⟩; refine Hid.out ?_))
    refine Lib.hid ?_
    have hb12 : Below w.heap.size w w2 := hb1.trans (hb2.mono hb1.size)
    go_wp2_with (first
      | (go_at_call 71; (with_reducible refine (HH71.out _).mono ?_); rintro e w3 ⟨pp, rfl, hp3, hb3⟩; obtain ⟨hc3, hf3⟩ := bcell hb3; have hbw3 : Below w.heap.size w w3 := (hb12.alloc hb12.size _).trans (hb3.mono (by have := hb12.size; simp; omega)))
      | (go_at_call 74; (with_reducible refine (H74b.out w3 hbw3).mono ?_); rintro e w4 ⟨rfl, hb4⟩; have hbw4 : Below w.heap.size w w4 := hbw3.trans (hb4.mono hbw3.size); have hp4 := hp3.below hb4 (Nat.le_refl _); have hcv := HCV.out w4 hbw4)
      | (go_at_call 75; (with_reducible refine (HV.out w4 pp _ hbw4 hp4).mono ?_); rintro e w5 ⟨⟨t, p, rfl⟩, hb5⟩))
    go_ret3
    have hb35 : Below w4.heap.size w4 w5 := ((Below.refl _ _).alloc (Nat.le_refl _) _).trans (hb5.mono (Nat.le_succ _))
    have hs5 := hb5.size
    have hz3 := hbw4.size
    exact ⟨t, p, rfl, hbw4.trans (hb35.mono hz3)⟩

end Go.Proofs.YtnpcmmjdojdmnaaGreatDoor
