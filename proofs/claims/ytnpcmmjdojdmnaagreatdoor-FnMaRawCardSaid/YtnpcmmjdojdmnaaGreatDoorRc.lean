/- zzParse6 at a text that begins with two colons. -/
import Derived.Test.YtnpcmmjdojdmnaaGreatDoorRb
namespace Go.Proofs.YtnpcmmjdojdmnaaGreatDoor
open Go Go.RowKit

set_option maxRecDepth 100000 in
set_option maxHeartbeats 16000000 in
theorem zzParse6_b (s : ByteArray) (res : List Nat) (r : List UInt8) (hl : s.data.toList = 58 :: 58 :: r) (hp : parse6 s.data.toList = some res) (w : World) (hs : s.size ≤ 1000) :
    Calls Tryz.prog 340 #[.string s] w fun e w' => e = .returned (.tuple #[.agg (cellsArr (groupBytes res)), .bool true]) ∧ Below w.heap.size w w' := by
  rw [hl, parse6, if_pos (by rfl)] at hp
  obtain ⟨k1, k2', k3⟩ := head_cons hl
  obtain ⟨S2, hS2, l2⟩ : ∃ T, s.extract 2 s.size = T ∧ T.data.toList = r := ⟨_, rfl, by rw [extract_list, hl]; rfl⟩
  have hs2 : S2.size ≤ 1000 := by have := size_drop s 2; rw [hS2] at this; omega
  obtain ⟨k4, k5, _⟩ := drop_cons (s := s) (k := 1) (c := 58) (r := r) (by rw [hl]; rfl)
  have g0 : decide (2 ≤ (s.size : Int)) = true := by simp; omega
  have g1 : s[0].toNat = 58 := by rw [k2']; rfl
  have g2 : s[1].toNat = 58 := by rw [k5]; rfl
  have g3 : 2 ≤ (s.size : Int) := by omega
  have g4 : (1 : Int) < (s.size : Int) := by omega
  by_cases hr : r = []
  · rw [if_pos (by rw [hr]; rfl)] at hp
    have z0 : S2.size = 0 := head_nil (by rw [l2, hr])
    have hres : groupBytes res = List.replicate 16 0 := by rw [← Option.some.inj hp]; rfl
    have HB := Lib.hid hres
    have hL16 : (groupBytes res).length = 16 := by rw [hres]; rfl
    clear hres hp hl k2' k5 l2 hr k3
    have HLD : Hid (((w.alloc (.cells (cellsArr [0, 0, 0, 0, 0, 0, 0, 0, 0, 0, 0, 0, 0, 0, 0, 0]) 219)).alloc (.cells (cellsArr [0, 0, 0, 0, 0, 0, 0, 0, 0, 0, 0, 0, 0, 0, 0, 0]) 219)).heap[w.heap.size + 1]? = some (.cells (cellsArr [0, 0, 0, 0, 0, 0, 0, 0, 0, 0, 0, 0, 0, 0, 0, 0]) 219 (0, 0))) := Lib.hid (heap_alloc2_new w _ _)
    have HST : Hid (((w.alloc (.cells (cellsArr [0, 0, 0, 0, 0, 0, 0, 0, 0, 0, 0, 0, 0, 0, 0, 0]) 219)).alloc (.cells (cellsArr [0, 0, 0, 0, 0, 0, 0, 0, 0, 0, 0, 0, 0, 0, 0, 0]) 219)).heap[w.heap.size]? = some (.cells (cellsArr [0, 0, 0, 0, 0, 0, 0, 0, 0, 0, 0, 0, 0, 0, 0, 0]) 219 (0, 0))) := Lib.hid (heap_alloc2_old w _ _)
    have HSZ : Hid ((Tryz.prog.info? 219).map (·.size) = some (cellsArr [0, 0, 0, 0, 0, 0, 0, 0, 0, 0, 0, 0, 0, 0, 0, 0]).size) := Lib.hid (by rw [cellsArr_size]; exact size219)
    have HS2 : Hid ((cellsArr [0, 0, 0, 0, 0, 0, 0, 0, 0, 0, 0, 0, 0, 0, 0, 0]).size = (cellsArr [0, 0, 0, 0, 0, 0, 0, 0, 0, 0, 0, 0, 0, 0, 0, 0]).size) := Lib.hid rfl
    have HS3 : Hid ((((w.alloc (.cells (cellsArr [0, 0, 0, 0, 0, 0, 0, 0, 0, 0, 0, 0, 0, 0, 0, 0]) 219)).alloc (.cells (cellsArr [0, 0, 0, 0, 0, 0, 0, 0, 0, 0, 0, 0, 0, 0, 0, 0]) 219)).setRow w.heap.size (cellsArr [0, 0, 0, 0, 0, 0, 0, 0, 0, 0, 0, 0, 0, 0, 0, 0])).heap[w.heap.size]? = some (.cells (cellsArr [0, 0, 0, 0, 0, 0, 0, 0, 0, 0, 0, 0, 0, 0, 0, 0]) 219 (0, 0))) := Lib.hid (setRow_heap _ _ _ _ _ _ HST.out)
    go_enter Tryz.func340, Tryz.ntmps340
    go_wp2_with (first | (refine wpList_load_row rfl 219 (.tmp 4) rfl (w.heap.size + 1) rfl 219 _ (0, 0) _ HLD.out Tryz.underlying219 rfl HSZ.out ?_) | (refine wpList_store_row rfl 219 (.tmp 2) (.tmp 30) rfl w.heap.size _ rfl rfl 219 _ HST.out HSZ.out HS2.out (cellsArr_one _) ?_))
    refine bodyPost_ret (v := .tuple #[.agg _, .bool true]) (results340 _ _ _ _ rfl rfl HS3.out HSZ.out) rfl ⟨by rw [HB.out]; rfl, ?_⟩
    exact below_setRow (((Below.refl _ _).alloc (Nat.le_refl _) _).alloc (by simp) _) (Nat.le_refl _) _
  · rw [if_neg (by intro h; exact hr h)] at hp
    have hq : (p6 9 S2.data.toList [] (some 0)).bind expand = some res := by rw [l2]; exact hp
    have HP0 := Lib.hid hq
    have zz : ((S2.size : Int) == 0) = false := by
      have : S2.size ≠ 0 := fun h => hr (by rw [← l2]; exact List.eq_nil_of_length_eq_zero (by rw [Array.length_toList]; exact h))
      rw [beq_eq_false_iff_ne]; omega
    clear hp hl k2' k5 l2 hr k3 hq
    go_enter Tryz.func340, Tryz.ntmps340
    go_wp2
    go_loopw [0, 5, 6] (fun v0 v5 v6 wr => ∃ (t : ByteArray) (gs : List Nat) (ell : Option Nat) (fuel : Nat) (i : Nat), v0 = .string t ∧ v5 = .int .i64 (ellI ell) ∧ v6 = .int .i64 i ∧ Hid (i = 2 * gs.length) ∧ i ≤ 16 ∧ t.size ≤ 1000 ∧ Hid (∀ e, ell = some e → e ≤ gs.length) ∧
        wr = (w.alloc (.cells (cellsArr [0, 0, 0, 0, 0, 0, 0, 0, 0, 0, 0, 0, 0, 0, 0, 0]) 219)).alloc (.cells (cellsArr (padB gs)) 219) ∧ Hid ((p6 fuel t.data.toList gs ell).bind expand = some res)) (fun _ _ v6 _ => 16 - (intOf v6).toNat)
    case atStart => exact ⟨S2, [], some 0, 9, 0, rfl, rfl, rfl, Lib.hid rfl, by omega, hs2, Lib.hid (fun e h => by obtain rfl := Option.some.inj h; simp), rfl, HP0⟩
    case round =>
      obtain ⟨t, gs, ell, fuel, i, rfl, rfl, rfl, hi, hi16, ht, hell, rfl, hq⟩ := hrel
      have hL16 : (padB gs).length = 16 := padB_len gs (by have := hi.out; omega)
      by_cases hlt : i < 16
      · obtain ⟨acc, off, rest, f, hr, hoff, hcase⟩ := p6_step hq.out (by have := hi.out; omega)
        have HC := Lib.hid hcase; clear hcase hq
        have HR := Lib.hid hr; clear hr
        have hi1 : i + 1 < 16 := by have := hi.out; omega
        have ci : decide ((i : Int) < 16) = true := by simp; omega
        have HP := Lib.hid (padB_snoc gs acc (by have := hi.out; omega))
        rw [← hi.out] at HP
        obtain ⟨x0, hx0⟩ : ∃ x0, (cellsArr (padB gs))[i]? = some (.int .u8 (x0 : Nat)) := by
          rw [cellsArr_get, List.getElem?_eq_getElem (by omega)]; exact ⟨_, rfl⟩
        obtain ⟨x1, hx1⟩ : ∃ x1, (cellsArr (padB gs))[i + 1]? = some (.int .u8 (x1 : Nat)) := by
          rw [cellsArr_get, List.getElem?_eq_getElem (by omega)]; exact ⟨_, rfl⟩
        go_wp2
        go_loop [7, 8] (fun v7 v8 => ∃ o a : Nat, v7 = .int .i64 o ∧ v8 = .int .i64 a ∧ o ≤ 4 ∧ o ≤ t.size ∧ Hid (a < 16 ^ o) ∧ Hid (hexRun a o (t.data.toList.drop o) = some (acc, off, rest))) (fun v7 _ => 5 - (intOf v7).toNat)
        case atStart => exact ⟨0, 0, rfl, rfl, by omega, by omega, Lib.hid (by decide), by rw [List.drop_zero]; exact HR⟩
        case round =>
          obtain ⟨o, a, rfl, rfl, ho4, hot, hpow, hrun⟩ := hrel
          have ha : a < 65536 := Nat.lt_of_lt_of_le hpow.out (Nat.pow_le_pow_right (by decide : 16 > 0) ho4)
          by_cases hlt2 : o < t.size
          · have hst := hexRun_step hrun.out
            rw [drop_get t o hlt2] at hst
            rcases hst with ⟨h, _⟩ | ⟨x, u, h, hv, hres⟩ | ⟨x, u, d, h, hv, ho3, hnext⟩
            · cases h
            · obtain ⟨rfl, rfl⟩ := List.cons.inj h
              obtain ⟨rfl, rfl, hrest⟩ : a = acc ∧ o = off ∧ rest = t[o] :: t.data.toList.drop (o + 1) := by
                simp at hres; exact ⟨hres.1.symm, hres.2.1.symm, hres.2.2⟩
              clear hres
              rcases HC.out with ⟨h', _⟩ | ⟨c, c2, r2, hr2, hc58, hc⟩
              · rw [hrest] at h'; cases h'
              rw [hrest] at hr2
              obtain ⟨rfl, hdrop⟩ := List.cons.inj hr2
              have D : Hid (∀ wx, Calls Tryz.prog 388 #[.int .u8 58] wx fun e w' => e = .returned (.int .i64 (-1)) ∧ wx = w') := Lib.hid fun wx => by
                have := zzDigit t[o] wx
                rw [digI_none hv, hc58] at this
                exact this
              obtain ⟨bh, hbh⟩ : ∃ b, b = a / 256 := ⟨_, rfl⟩
              obtain ⟨bl, hbl⟩ : ∃ b, b = a % 256 := ⟨_, rfl⟩
              obtain ⟨k2, hk2⟩ : ∃ k, k = i + 2 := ⟨_, rfl⟩
              have w1 : IntKind.u8.wrap ((a : Int) / 256) = (bh : Int) := by rw [IntWalk.u8_in _ (by omega)]; omega
              have w2 : IntKind.u8.wrap (a : Int) = (bl : Int) := by rw [hbl]; simp [IntKind.wrap, IntKind.bits, IntKind.signed]
              have i1 : IntKind.i64.wrap ((i : Int) + 1) = (i : Int) + 1 := IntWalk.i64_in _ (by omega)
              have i2 : IntKind.i64.wrap ((i : Int) + 2) = (k2 : Int) := by rw [IntWalk.i64_in _ (by omega)]; omega
              have i3 : (i : Int) < 16 := by omega
              have i4 : (i : Int) + 1 < 16 := by omega
              have i5 : ((i : Int) + 1).toNat = i + 1 := by omega
              have hne : ¬ i = i + 1 := by omega
              have s1 : (cellsArr (padB gs)).setIfInBounds i (.int .u8 bh) = cellsArr ((padB gs).set i bh) := cellsArr_set _ _ _
              have s2 : (cellsArr ((padB gs).set i bh)).setIfInBounds (i + 1) (.int .u8 bl) = cellsArr (padB (gs ++ [a])) := by
                rw [cellsArr_set, ← HP.out, hbh, hbl]
              have s3 : (cellsArr ((padB gs).set i bh))[i + 1]? = some (.int .u8 x1) := by
                rw [cellsArr_get, List.getElem?_set_ne (by omega), ← cellsArr_get]; exact hx1
              have HK : Hid (k2 = 2 * (gs ++ [a]).length) := Lib.hid (by have := hi.out; simp; omega)
              have hk16 : k2 ≤ 16 := by omega
              have oz : ((o : Int) == 0) = false := by simp; omega
              have HK2 := Lib.hid hk2
              clear hbh hbl hx1 hrun hpow hk2
              obtain ⟨T1, hT1, l1⟩ : ∃ T, t.extract o t.size = T ∧ T.data.toList = t[o] :: c2 :: r2 := ⟨_, rfl, by rw [extract_list, drop_get t o hlt2, hdrop]⟩
              obtain ⟨g1, g2, g3⟩ := head_cons l1
              have y1 : T1[0].toNat = 58 := by rw [g2, hc58]
              have y2 : ((T1.size : Int) == 0) = false := by rw [beq_eq_false_iff_ne]; omega
              have y3 : ((T1.size : Int) == 1) = false := by rw [List.length_cons] at g3; rw [beq_eq_false_iff_ne]; omega
              have y4 : 1 ≤ (T1.size : Int) := by omega
              have y5 : t[o].toNat = 58 := hc58
              obtain ⟨T2, hT2, l2⟩ : ∃ T, T1.extract 1 T1.size = T ∧ T.data.toList = c2 :: r2 := ⟨_, rfl, by rw [extract_list, l1]; rfl⟩
              obtain ⟨g4, g5, g6⟩ := head_cons l2
              have y6 : 1 ≤ (T2.size : Int) := by omega
              obtain ⟨T3, hT3, l3⟩ : ∃ T, T2.extract 1 T2.size = T ∧ T.data.toList = r2 := ⟨_, rfl, by rw [extract_list, l2]; rfl⟩
              have HSZ : Hid (T2.size ≤ 1000 ∧ T3.size ≤ 1000) := Lib.hid (by
                have e1 := size_drop t o
                have e2 := size_drop T1 1
                have e3 := size_drop T2 1
                rw [hT1] at e1; rw [hT2] at e2; rw [hT3] at e3
                omega)
              have HL := Lib.hid (And.intro l2 l3)
              clear g3 l1 l2 hdrop hr2 hrest hv h HR hoff g2
              rcases hc with ⟨hn58, hnx⟩ | ⟨h58, rfl, rfl, hex⟩ | ⟨h58, rfl, hr0, hnx⟩
              · have y7 : ((T2[0].toNat : Int) == 58) = false := by rw [g5]; simp; omega
                clear g5 g6 l3 hT3 hc58
                go_wp2_with (go_at_call 388; with_reducible refine (D.out _).mono ?_; rintro e w2 ⟨rfl, rfl⟩)
                go_wp2
                have hk2 := HK2.out
                refine ⟨⟨T2, gs ++ [a], ell, f, k2, rfl, rfl, rfl, HK, hk16, HSZ.out.1, Lib.hid (fun e he => by have := hell.out e he; simp; omega), rfl, by rw [HL.out.1]; exact Lib.hid hnx⟩, by simp [intOf]; omega⟩
              · have y7 : T2[0].toNat = 58 := by rw [g5, h58]
                have z3 : T3.size = 0 := head_nil l3
                have he : ellI none = -1 := rfl
                obtain ⟨e, hee⟩ : ∃ e, e = gs.length + 1 := ⟨_, rfl⟩
                have HX : Hid (expand (gs ++ [a], some e) = some res) := by rw [hee]; exact Lib.hid hex
                have HE2 : Hid (e ≤ (gs ++ [a]).length) := Lib.hid (by rw [hee]; simp)
                have HEQ : Hid (k2 = 2 * e) := Lib.hid (by have := HK.out; rw [hee]; simpa using this)
                clear g5 g6 l3 hc58 h58 hex hee hell
                obtain ⟨hres, h8⟩ : res = (gs ++ [a]).take e ++ List.replicate (8 - (gs ++ [a]).length) 0 ++ (gs ++ [a]).drop e ∧ (gs ++ [a]).length < 8 := by
                  rcases expand_cases HX.out with ⟨h, _⟩ | ⟨e', h1, h2, h3⟩
                  · cases h
                  · obtain rfl := Option.some.inj h1; exact ⟨h3, h2⟩
                have HG : Hid (groupBytes res = (groupBytes (gs ++ [a])).take (2 * e) ++ List.replicate (16 - 2 * (gs ++ [a]).length) 0 ++ (groupBytes (gs ++ [a])).drop (2 * e)) := Lib.hid (groupBytes_expand (by omega) hres)
                have hP16 : (padB (gs ++ [a])).length = 16 := padB_len _ (by omega)
                have hk3 : k2 < 16 := by have := HK.out; omega
                have hE : k2 = 2 * e := HEQ.out
                have hEk : k2 ≤ k2 := by have := HK.out; have := HE2.out; omega
                have HEE := Lib.hid hE
                obtain ⟨n, hn⟩ : ∃ n, k2 + n = 16 := ⟨16 - k2, by omega⟩
                obtain ⟨En, hEn⟩ : ∃ z, z = k2 + n := ⟨_, rfl⟩
                have c38 : decide ((k2 : Int) < 16) = true := by simp; omega
                have c39 : decide ((k2 : Int) < 0) = false := by simp
                have p1 : IntKind.i64.wrap (16 - (k2 : Int)) = (n : Int) := by rw [IntWalk.i64_in _ (by omega)]; omega
                have p2 : IntKind.i64.wrap ((k2 : Int) - 1) = (k2 : Int) - 1 := IntWalk.i64_in _ (by omega)
                have p3 : IntKind.i64.wrap ((k2 : Int) + (n : Int)) = (En : Int) := by rw [IntWalk.i64_in _ (by omega)]; omega
                have HN := Lib.hid (And.intro hn hEn)
                clear hres h8 hE hn hEn
                go_wp2_with (go_at_call 388; with_reducible refine (D.out _).mono ?_; rintro e w2 ⟨rfl, rfl⟩)
                go_loopw [10] (fun v10 wr => ∃ (z : Int) (J : Nat) (L : List Nat), v10 = .int .i64 z ∧ Hid (z = J - 1) ∧ k2 ≤ J ∧ J ≤ k2 ∧ L.length = 16 ∧ wr = (w.alloc (.cells (cellsArr [0, 0, 0, 0, 0, 0, 0, 0, 0, 0, 0, 0, 0, 0, 0, 0]) 219)).alloc (.cells (cellsArr L) 219) ∧
                    Hid (∀ k, k < 16 → L[k]? = if J + n ≤ k then (padB (gs ++ [a]))[k - n]? else (padB (gs ++ [a]))[k]?)) (fun v10 _ => (intOf v10 + 1).toNat)
                case atStart => exact ⟨_, k2, _, rfl, Lib.hid rfl, hEk, Nat.le_refl _, hP16, rfl, Lib.hid (fun k hk => by rw [if_neg (by have := HN.out; omega)])⟩
                case round =>
                  obtain ⟨z, J, L, rfl, hz, hJ1, hJ2, hL, rfl, hLk⟩ := hrel
                  by_cases hJ : k2 < J
                  · omega
                  · obtain rfl : k2 = J := by omega
                    have r0 : decide ((k2 : Int) ≤ z) = false := by have := hz.out; simp; omega
                    have r00 : ¬ (k2 : Int) ≤ z := by have := hz.out; omega
                    clear hJ
                    go_wp2
                    go_loopw [11] (fun v11 wr => ∃ (K : Nat) (M : List Nat), v11 = .int .i64 K ∧ k2 ≤ K ∧ K ≤ En ∧ M.length = 16 ∧ wr = (w.alloc (.cells (cellsArr [0, 0, 0, 0, 0, 0, 0, 0, 0, 0, 0, 0, 0, 0, 0, 0]) 219)).alloc (.cells (cellsArr M) 219) ∧
                        Hid (∀ k, k < 16 → M[k]? = if k2 ≤ k ∧ k < K then some 0 else L[k]?)) (fun v11 _ => 16 - (intOf v11).toNat)
                    case atStart => exact ⟨k2, L, rfl, Nat.le_refl _, by have := HN.out; omega, hL, rfl, Lib.hid (fun k hk => by rw [if_neg (by omega)])⟩
                    case round =>
                      obtain ⟨K, M, rfl, hK1, hK2, hL16, rfl, hMk⟩ := hrel
                      have hN := HN.out
                      by_cases hK : K < En
                      · obtain ⟨y2, hy2⟩ : ∃ y, M[K]? = some y := by rw [List.getElem?_eq_getElem (by omega)]; exact ⟨_, rfl⟩
                        have v2 : (cellsArr M)[K]? = some (.int .u8 y2) := by rw [cellsArr_get, hy2]; rfl
                        have v3 : (cellsArr M).setIfInBounds K (.int .u8 0) = cellsArr (M.set K 0) := cellsArr_set _ _ 0
                        have r3 : (K : Int) < 16 := by omega
                        have r5 : decide ((K : Int) < (En : Int)) = true := by simp; omega
                        clear hy2 hN
                        go_wp2
                        have hN := HN.out
                        refine ⟨⟨K + 1, M.set K 0, by go_num, by omega, by omega, by simp [hL16], rfl, Lib.hid ?_⟩, by simp [intOf]; omega⟩
                        intro k hk
                        rw [List.getElem?_set]
                        by_cases hkj : K = k
                        · rw [if_pos hkj, if_pos (by omega), if_pos (by omega)]
                        · rw [if_neg hkj, hMk.out k hk]
                          by_cases h : k2 ≤ k ∧ k < K
                          · rw [if_pos h, if_pos (by omega)]
                          · rw [if_neg h, if_neg (by omega)]
                      · have hKE : K = En := by omega
                        have r5 : decide ((K : Int) < (En : Int)) = false := by simp; omega
                        have r50 : ¬ K < En := by omega
                        have HB : Hid (groupBytes res = M) := Lib.hid (by
                          have hB : (groupBytes (gs ++ [a])).length = k2 := by rw [groupBytes_len, HK.out]
                          rw [HG.out]
                          have hpad : padB (gs ++ [a]) = groupBytes (gs ++ [a]) ++ List.replicate n 0 := by rw [padB]; congr 2; have := HK.out; omega
                          rw [hpad] at hLk
                          have := shift_law (groupBytes (gs ++ [a])) L M n k2 (by omega) (by omega) hLk.out (by rw [← hN.2, ← hKE]; exact hMk.out) hL16
                          rw [this, HEE.out]
                          congr 3; have := HK.out; omega)
                        clear hK hLk hMk hKE hN
                        have HLD : Hid (((w.alloc (.cells (cellsArr [0, 0, 0, 0, 0, 0, 0, 0, 0, 0, 0, 0, 0, 0, 0, 0]) 219)).alloc (.cells (cellsArr M) 219)).heap[w.heap.size + 1]? = some (.cells (cellsArr M) 219 (0, 0))) := Lib.hid (heap_alloc2_new w _ _)
                        have HST : Hid (((w.alloc (.cells (cellsArr [0, 0, 0, 0, 0, 0, 0, 0, 0, 0, 0, 0, 0, 0, 0, 0]) 219)).alloc (.cells (cellsArr M) 219)).heap[w.heap.size]? = some (.cells (cellsArr [0, 0, 0, 0, 0, 0, 0, 0, 0, 0, 0, 0, 0, 0, 0, 0]) 219 (0, 0))) := Lib.hid (heap_alloc2_old w _ _)
                        have HSZ : Hid ((Tryz.prog.info? 219).map (·.size) = some (cellsArr M).size) := Lib.hid (by rw [cellsArr_size, hL16]; exact size219)
                        have HS2 : Hid ((cellsArr [0, 0, 0, 0, 0, 0, 0, 0, 0, 0, 0, 0, 0, 0, 0, 0]).size = (cellsArr M).size) := Lib.hid (by rw [cellsArr_size, cellsArr_size, hL16]; rfl)
                        have HS3 : Hid ((((w.alloc (.cells (cellsArr [0, 0, 0, 0, 0, 0, 0, 0, 0, 0, 0, 0, 0, 0, 0, 0]) 219)).alloc (.cells (cellsArr M) 219)).setRow w.heap.size (cellsArr M)).heap[w.heap.size]? = some (.cells (cellsArr M) 219 (0, 0))) := Lib.hid (setRow_heap _ _ _ _ _ _ HST.out)
                        go_wp2_with (first | (refine wpList_load_row rfl 219 (.tmp 4) rfl (w.heap.size + 1) rfl 219 _ (0, 0) _ HLD.out Tryz.underlying219 rfl HSZ.out ?_) | (refine wpList_store_row rfl 219 (.tmp 2) (.tmp 171) rfl w.heap.size _ rfl rfl 219 _ HST.out HSZ.out HS2.out (cellsArr_one _) ?_))
                        refine bodyPost_ret (v := .tuple #[.agg _, .bool true]) (results340 _ _ _ _ rfl rfl HS3.out HSZ.out) rfl ⟨by rw [HB.out], ?_⟩
                        exact below_setRow (((Below.refl _ _).alloc (Nat.le_refl _) _).alloc (by simp) _) (Nat.le_refl _) _
              · have y7 : T2[0].toNat = 58 := by rw [g5, h58]
                have z3 : ((T3.size : Int) == 0) = false := by
                  have : T3.size ≠ 0 := fun h => hr0 (by rw [← l3]; exact List.eq_nil_of_length_eq_zero (by rw [Array.length_toList]; exact h))
                  rw [beq_eq_false_iff_ne]; omega
                have he : ellI none = -1 := rfl
                clear g5 g6 l3 hc58 h58 hr0
                go_wp2_with (go_at_call 388; with_reducible refine (D.out _).mono ?_; rintro e w2 ⟨rfl, rfl⟩)
                go_wp2
                have hk2 := HK2.out
                refine ⟨⟨T3, gs ++ [a], some (gs.length + 1), f, k2, rfl, by rw [ellI]; congr 1; have := HK.out; simp at this ⊢; omega, rfl, HK, hk16, HSZ.out.2, Lib.hid (fun e he => by obtain rfl := Option.some.inj he; simp), rfl, by rw [HL.out.2]; exact Lib.hid hnx⟩, by simp [intOf]; omega⟩
            · obtain ⟨rfl, rfl⟩ := List.cons.inj h
              have D : Hid (∀ wx, Calls Tryz.prog 388 #[.int .u8 t[o].toNat] wx fun e w' => e = .returned (.int .i64 (d : Nat)) ∧ wx = w') := Lib.hid fun wx => by
                have := zzDigit t[o] wx
                rwa [digI_some hv] at this
              have hd := hexVal_lt hv
              have HN := Lib.hid hnext; clear hnext hv h
              have q1 : IntKind.i64.wrap ((a : Int) * 16) = (a : Int) * 16 := IntWalk.i64_in _ (by omega)
              have q2 : IntKind.i64.wrap ((a : Int) * 16 + d) = ((a * 16 + d : Nat) : Int) := by rw [IntWalk.i64_in _ (by omega)]; omega
              have q3 : decide (3 < (o : Int)) = false := by simp; omega
              go_wp2_with (go_at_call 388; with_reducible refine (D.out _).mono ?_; rintro e w2 ⟨rfl, rfl⟩)
              refine ⟨⟨o + 1, a * 16 + d, by go_num, rfl, by omega, by omega, Lib.hid ?_, HN⟩, by simp [intOf]; omega⟩
              have := hpow.out
              rw [Nat.pow_succ]; omega
          · have hos : o = t.size := by omega
            have hst := hexRun_step hrun.out
            rw [List.drop_of_length_le (by rw [Array.length_toList]; show t.size ≤ o; omega)] at hst
            rcases hst with ⟨_, hres⟩ | ⟨x, u, h, _⟩ | ⟨x, u, d, h, _⟩
            rotate_left
            · cases h
            · cases h
            obtain ⟨rfl, rfl, rfl⟩ : a = acc ∧ o = off ∧ rest = [] := by
              simp at hres; exact ⟨hres.1.symm, hres.2.1.symm, hres.2.2⟩
            clear hres
            rcases HC.out with ⟨_, hex⟩ | ⟨c, c2, r2, h, _⟩
            rotate_left
            · cases h
            have HX := Lib.hid hex
            have olt : decide ((o : Int) < (t.size : Int)) = false := by simp; omega
            obtain ⟨bh, hbh⟩ : ∃ b, b = a / 256 := ⟨_, rfl⟩
            obtain ⟨bl, hbl⟩ : ∃ b, b = a % 256 := ⟨_, rfl⟩
            obtain ⟨k2, hk2⟩ : ∃ k, k = i + 2 := ⟨_, rfl⟩
            have w1 : IntKind.u8.wrap ((a : Int) / 256) = (bh : Int) := by rw [IntWalk.u8_in _ (by omega)]; omega
            have w2 : IntKind.u8.wrap (a : Int) = (bl : Int) := by rw [hbl]; simp [IntKind.wrap, IntKind.bits, IntKind.signed]
            have i1 : IntKind.i64.wrap ((i : Int) + 1) = (i : Int) + 1 := IntWalk.i64_in _ (by omega)
            have i2 : IntKind.i64.wrap ((i : Int) + 2) = (k2 : Int) := by rw [IntWalk.i64_in _ (by omega)]; omega
            have i3 : (i : Int) < 16 := by omega
            have i4 : (i : Int) + 1 < 16 := by omega
            have i5 : ((i : Int) + 1).toNat = i + 1 := by omega
            have hne : ¬ i = i + 1 := by omega
            have s1 : (cellsArr (padB gs)).setIfInBounds i (.int .u8 bh) = cellsArr ((padB gs).set i bh) := cellsArr_set _ _ _
            have s2 : (cellsArr ((padB gs).set i bh)).setIfInBounds (i + 1) (.int .u8 bl) = cellsArr (padB (gs ++ [a])) := by
              rw [cellsArr_set, ← HP.out, hbh, hbl]
            have s3 : (cellsArr ((padB gs).set i bh))[i + 1]? = some (.int .u8 x1) := by
              rw [cellsArr_get, List.getElem?_set_ne (by omega), ← cellsArr_get]; exact hx1
            have HK : Hid (k2 = 2 * (gs ++ [a]).length) := Lib.hid (by have := hi.out; simp; omega)
            have hk16 : k2 ≤ 16 := by omega
            have oz : ((o : Int) == 0) = false := by simp; omega
            have HK2 := Lib.hid hk2
            clear hbh hbl hx1 hrun hpow hk2
            obtain ⟨T1, hT1, z0⟩ : ∃ T, t.extract o t.size = T ∧ T.size = 0 := ⟨_, rfl, by rw [size_drop]; omega⟩
            clear hos hoff HR
            rcases expand_cases hex with ⟨hell0, h8, hres⟩ | ⟨e, hell1, _, _⟩
            · obtain rfl := hell0
              have c38 : ¬ k2 < 16 := by have := HK.out; omega
              have he : ellI none = -1 := rfl
              have hL16 := padB_len (gs ++ [a]) (by omega)
              have HB : Hid (groupBytes res = padB (gs ++ [a])) := Lib.hid (by rw [← hres, padB, h8]; simp)
              clear hres h8 hex HX hell
              have HLD : Hid (((w.alloc (.cells (cellsArr [0, 0, 0, 0, 0, 0, 0, 0, 0, 0, 0, 0, 0, 0, 0, 0]) 219)).alloc (.cells (cellsArr (padB (gs ++ [a]))) 219)).heap[w.heap.size + 1]? = some (.cells (cellsArr (padB (gs ++ [a]))) 219 (0, 0))) := Lib.hid (heap_alloc2_new w _ _)
              have HST : Hid (((w.alloc (.cells (cellsArr [0, 0, 0, 0, 0, 0, 0, 0, 0, 0, 0, 0, 0, 0, 0, 0]) 219)).alloc (.cells (cellsArr (padB (gs ++ [a]))) 219)).heap[w.heap.size]? = some (.cells (cellsArr [0, 0, 0, 0, 0, 0, 0, 0, 0, 0, 0, 0, 0, 0, 0, 0]) 219 (0, 0))) := Lib.hid (heap_alloc2_old w _ _)
              have HSZ : Hid ((Tryz.prog.info? 219).map (·.size) = some (cellsArr (padB (gs ++ [a]))).size) := Lib.hid (by rw [cellsArr_size, hL16]; exact size219)
              have HS2 : Hid ((cellsArr [0, 0, 0, 0, 0, 0, 0, 0, 0, 0, 0, 0, 0, 0, 0, 0]).size = (cellsArr (padB (gs ++ [a]))).size) := Lib.hid (by rw [cellsArr_size, cellsArr_size, hL16]; rfl)
              have HS3 : Hid ((((w.alloc (.cells (cellsArr [0, 0, 0, 0, 0, 0, 0, 0, 0, 0, 0, 0, 0, 0, 0, 0]) 219)).alloc (.cells (cellsArr (padB (gs ++ [a]))) 219)).setRow w.heap.size (cellsArr (padB (gs ++ [a])))).heap[w.heap.size]? = some (.cells (cellsArr (padB (gs ++ [a]))) 219 (0, 0))) := Lib.hid (setRow_heap _ _ _ _ _ _ HST.out)
              go_wp2_with (first | (refine wpList_load_row rfl 219 (.tmp 4) rfl (w.heap.size + 1) rfl 219 _ (0, 0) _ HLD.out Tryz.underlying219 rfl HSZ.out ?_) | (refine wpList_store_row rfl 219 (.tmp 2) (.tmp 171) rfl w.heap.size _ rfl rfl 219 _ HST.out HSZ.out HS2.out (cellsArr_one _) ?_))
              refine bodyPost_ret (v := .tuple #[.agg _, .bool true]) (results340 _ _ _ _ rfl rfl HS3.out HSZ.out) rfl ⟨by rw [HB.out], ?_⟩
              exact below_setRow (((Below.refl _ _).alloc (Nat.le_refl _) _).alloc (by simp) _) (Nat.le_refl _) _
            · obtain rfl := hell1
              have HE2 : Hid (e ≤ (gs ++ [a]).length) := Lib.hid (by have := hell.out e rfl; simp; omega)
              clear hex hell
              obtain ⟨hres, h8⟩ : res = (gs ++ [a]).take e ++ List.replicate (8 - (gs ++ [a]).length) 0 ++ (gs ++ [a]).drop e ∧ (gs ++ [a]).length < 8 := by
                rcases expand_cases HX.out with ⟨h, _⟩ | ⟨e', h1, h2, h3⟩
                · cases h
                · obtain rfl := Option.some.inj h1; exact ⟨h3, h2⟩
              have HG : Hid (groupBytes res = (groupBytes (gs ++ [a])).take (2 * e) ++ List.replicate (16 - 2 * (gs ++ [a]).length) 0 ++ (groupBytes (gs ++ [a])).drop (2 * e)) := Lib.hid (groupBytes_expand (by omega) hres)
              have hP16 : (padB (gs ++ [a])).length = 16 := padB_len _ (by omega)
              have hk3 : k2 < 16 := by have := HK.out; omega
              obtain ⟨E, hE⟩ : ∃ E, E = 2 * e := ⟨_, rfl⟩
              have hEk : E ≤ k2 := by have := HK.out; have := HE2.out; omega
              have HEE := Lib.hid hE
              have hEi : ellI (some e) = (E : Int) := by rw [ellI, hE]
              obtain ⟨n, hn⟩ : ∃ n, k2 + n = 16 := ⟨16 - k2, by omega⟩
              obtain ⟨En, hEn⟩ : ∃ z, z = E + n := ⟨_, rfl⟩
              have c38 : decide ((k2 : Int) < 16) = true := by simp; omega
              have c39 : decide ((E : Int) < 0) = false := by simp
              have p1 : IntKind.i64.wrap (16 - (k2 : Int)) = (n : Int) := by rw [IntWalk.i64_in _ (by omega)]; omega
              have p2 : IntKind.i64.wrap ((k2 : Int) - 1) = (k2 : Int) - 1 := IntWalk.i64_in _ (by omega)
              have p3 : IntKind.i64.wrap ((E : Int) + (n : Int)) = (En : Int) := by rw [IntWalk.i64_in _ (by omega)]; omega
              have HN := Lib.hid (And.intro hn hEn)
              clear hres h8 hE hn hEn
              go_wp2
              go_loopw [10] (fun v10 wr => ∃ (z : Int) (J : Nat) (L : List Nat), v10 = .int .i64 z ∧ Hid (z = J - 1) ∧ E ≤ J ∧ J ≤ k2 ∧ L.length = 16 ∧ wr = (w.alloc (.cells (cellsArr [0, 0, 0, 0, 0, 0, 0, 0, 0, 0, 0, 0, 0, 0, 0, 0]) 219)).alloc (.cells (cellsArr L) 219) ∧
                  Hid (∀ k, k < 16 → L[k]? = if J + n ≤ k then (padB (gs ++ [a]))[k - n]? else (padB (gs ++ [a]))[k]?)) (fun v10 _ => (intOf v10 + 1).toNat)
              case atStart => exact ⟨_, k2, _, rfl, Lib.hid rfl, hEk, Nat.le_refl _, hP16, rfl, Lib.hid (fun k hk => by rw [if_neg (by have := HN.out; omega)])⟩
              case round =>
                obtain ⟨z, J, L, rfl, hz, hJ1, hJ2, hL, rfl, hLk⟩ := hrel
                by_cases hJ : E < J
                · obtain ⟨j, rfl⟩ : ∃ j, J = j + 1 := ⟨J - 1, by omega⟩
                  obtain rfl : z = (j : Int) := by have := hz.out; omega
                  have hN := HN.out
                  obtain ⟨jn, hjn⟩ : ∃ k, k = j + n := ⟨_, rfl⟩
                  obtain ⟨y1, hy1⟩ : ∃ y, L[j]? = some y := by rw [List.getElem?_eq_getElem (by omega)]; exact ⟨_, rfl⟩
                  obtain ⟨y2, hy2⟩ : ∃ y, L[jn]? = some y := by rw [List.getElem?_eq_getElem (by omega)]; exact ⟨_, rfl⟩
                  have v1 : (cellsArr L)[j]? = some (.int .u8 y1) := by rw [cellsArr_get, hy1]; rfl
                  have v2 : (cellsArr L)[jn]? = some (.int .u8 y2) := by rw [cellsArr_get, hy2]; rfl
                  have v3 : (cellsArr L).setIfInBounds jn (.int .u8 y1) = cellsArr (L.set jn y1) := cellsArr_set _ _ _
                  have r0 : decide ((E : Int) ≤ (j : Int)) = true := by simp; omega
                  have r1 : IntKind.i64.wrap ((j : Int) + (n : Int)) = (jn : Int) := by rw [IntWalk.i64_in _ (by omega)]; omega
                  have r2 : IntKind.i64.wrap ((j : Int) - 1) = (j : Int) - 1 := IntWalk.i64_in _ (by omega)
                  have r3 : (j : Int) < 16 := by omega
                  have r4 : (jn : Int) < 16 := by omega
                  have HY := Lib.hid (And.intro hy1 hjn); clear hy1 hy2 hjn hN
                  go_wp2
                  have hjn := HY.out.2
                  have hN := HN.out
                  refine ⟨⟨_, j, L.set jn y1, rfl, Lib.hid rfl, by omega, by omega, by simp [hL], rfl, Lib.hid ?_⟩, by first | (simp [intOf]; done) | (simp [intOf]; omega)⟩
                  intro k hk
                  rw [List.getElem?_set]
                  by_cases hkj : jn = k
                  · rw [if_pos hkj, if_pos (by omega), if_pos (by omega), show k - n = j by omega]
                    have := hLk.out j (by omega)
                    rw [if_neg (by omega)] at this
                    rw [← this, HY.out.1]
                  · rw [if_neg hkj, hLk.out k hk]
                    by_cases h : j + 1 + n ≤ k
                    · rw [if_pos h, if_pos (by omega)]
                    · rw [if_neg h, if_neg (by omega)]
                · obtain rfl : E = J := by omega
                  have r0 : decide ((E : Int) ≤ z) = false := by have := hz.out; simp; omega
                  have r00 : ¬ (E : Int) ≤ z := by have := hz.out; omega
                  clear hJ
                  go_wp2
                  go_loopw [11] (fun v11 wr => ∃ (K : Nat) (M : List Nat), v11 = .int .i64 K ∧ E ≤ K ∧ K ≤ En ∧ M.length = 16 ∧ wr = (w.alloc (.cells (cellsArr [0, 0, 0, 0, 0, 0, 0, 0, 0, 0, 0, 0, 0, 0, 0, 0]) 219)).alloc (.cells (cellsArr M) 219) ∧
                      Hid (∀ k, k < 16 → M[k]? = if E ≤ k ∧ k < K then some 0 else L[k]?)) (fun v11 _ => 16 - (intOf v11).toNat)
                  case atStart => exact ⟨E, L, rfl, Nat.le_refl _, by have := HN.out; omega, hL, rfl, Lib.hid (fun k hk => by rw [if_neg (by omega)])⟩
                  case round =>
                    obtain ⟨K, M, rfl, hK1, hK2, hL16, rfl, hMk⟩ := hrel
                    have hN := HN.out
                    by_cases hK : K < En
                    · obtain ⟨y2, hy2⟩ : ∃ y, M[K]? = some y := by rw [List.getElem?_eq_getElem (by omega)]; exact ⟨_, rfl⟩
                      have v2 : (cellsArr M)[K]? = some (.int .u8 y2) := by rw [cellsArr_get, hy2]; rfl
                      have v3 : (cellsArr M).setIfInBounds K (.int .u8 0) = cellsArr (M.set K 0) := cellsArr_set _ _ 0
                      have r3 : (K : Int) < 16 := by omega
                      have r5 : decide ((K : Int) < (En : Int)) = true := by simp; omega
                      clear hy2 hN
                      go_wp2
                      have hN := HN.out
                      refine ⟨⟨K + 1, M.set K 0, by go_num, by omega, by omega, by simp [hL16], rfl, Lib.hid ?_⟩, by simp [intOf]; omega⟩
                      intro k hk
                      rw [List.getElem?_set]
                      by_cases hkj : K = k
                      · rw [if_pos hkj, if_pos (by omega), if_pos (by omega)]
                      · rw [if_neg hkj, hMk.out k hk]
                        by_cases h : E ≤ k ∧ k < K
                        · rw [if_pos h, if_pos (by omega)]
                        · rw [if_neg h, if_neg (by omega)]
                    · have hKE : K = En := by omega
                      have r5 : decide ((K : Int) < (En : Int)) = false := by simp; omega
                      have r50 : ¬ K < En := by omega
                      have HB : Hid (groupBytes res = M) := Lib.hid (by
                        have hB : (groupBytes (gs ++ [a])).length = k2 := by rw [groupBytes_len, HK.out]
                        rw [HG.out]
                        have hpad : padB (gs ++ [a]) = groupBytes (gs ++ [a]) ++ List.replicate n 0 := by rw [padB]; congr 2; have := HK.out; omega
                        rw [hpad] at hLk
                        have := shift_law (groupBytes (gs ++ [a])) L M n E (by omega) (by omega) hLk.out (by rw [← hN.2, ← hKE]; exact hMk.out) hL16
                        rw [this, HEE.out]
                        congr 3; have := HK.out; omega)
                      clear hK hLk hMk hKE hN
                      have HLD : Hid (((w.alloc (.cells (cellsArr [0, 0, 0, 0, 0, 0, 0, 0, 0, 0, 0, 0, 0, 0, 0, 0]) 219)).alloc (.cells (cellsArr M) 219)).heap[w.heap.size + 1]? = some (.cells (cellsArr M) 219 (0, 0))) := Lib.hid (heap_alloc2_new w _ _)
                      have HST : Hid (((w.alloc (.cells (cellsArr [0, 0, 0, 0, 0, 0, 0, 0, 0, 0, 0, 0, 0, 0, 0, 0]) 219)).alloc (.cells (cellsArr M) 219)).heap[w.heap.size]? = some (.cells (cellsArr [0, 0, 0, 0, 0, 0, 0, 0, 0, 0, 0, 0, 0, 0, 0, 0]) 219 (0, 0))) := Lib.hid (heap_alloc2_old w _ _)
                      have HSZ : Hid ((Tryz.prog.info? 219).map (·.size) = some (cellsArr M).size) := Lib.hid (by rw [cellsArr_size, hL16]; exact size219)
                      have HS2 : Hid ((cellsArr [0, 0, 0, 0, 0, 0, 0, 0, 0, 0, 0, 0, 0, 0, 0, 0]).size = (cellsArr M).size) := Lib.hid (by rw [cellsArr_size, cellsArr_size, hL16]; rfl)
                      have HS3 : Hid ((((w.alloc (.cells (cellsArr [0, 0, 0, 0, 0, 0, 0, 0, 0, 0, 0, 0, 0, 0, 0, 0]) 219)).alloc (.cells (cellsArr M) 219)).setRow w.heap.size (cellsArr M)).heap[w.heap.size]? = some (.cells (cellsArr M) 219 (0, 0))) := Lib.hid (setRow_heap _ _ _ _ _ _ HST.out)
                      go_wp2_with (first | (refine wpList_load_row rfl 219 (.tmp 4) rfl (w.heap.size + 1) rfl 219 _ (0, 0) _ HLD.out Tryz.underlying219 rfl HSZ.out ?_) | (refine wpList_store_row rfl 219 (.tmp 2) (.tmp 171) rfl w.heap.size _ rfl rfl 219 _ HST.out HSZ.out HS2.out (cellsArr_one _) ?_))
                      refine bodyPost_ret (v := .tuple #[.agg _, .bool true]) (results340 _ _ _ _ rfl rfl HS3.out HSZ.out) rfl ⟨by rw [HB.out], ?_⟩
                      exact below_setRow (((Below.refl _ _).alloc (Nat.le_refl _) _).alloc (by simp) _) (Nat.le_refl _) _
      · have h8 : gs.length = 8 := by have := hi.out; omega
        obtain ⟨ht0, rfl, hres⟩ := p6_full hq.out h8
        have hts : t.size = 0 := by
          have h : t.data.toList.length = 0 := by rw [ht0]; rfl
          rw [Array.length_toList] at h; exact h
        obtain rfl : i = 16 := by omega
        have HB : Hid (groupBytes res = padB gs) := Lib.hid (by rw [padB, h8, hres]; simp)
        have he : ellI none = -1 := rfl
        clear hres h8 hlt hi ht0 hell hq
        have HLD : Hid (((w.alloc (.cells (cellsArr [0, 0, 0, 0, 0, 0, 0, 0, 0, 0, 0, 0, 0, 0, 0, 0]) 219)).alloc (.cells (cellsArr (padB gs)) 219)).heap[w.heap.size + 1]? = some (.cells (cellsArr (padB gs)) 219 (0, 0))) := Lib.hid (heap_alloc2_new w _ _)
        have HST : Hid (((w.alloc (.cells (cellsArr [0, 0, 0, 0, 0, 0, 0, 0, 0, 0, 0, 0, 0, 0, 0, 0]) 219)).alloc (.cells (cellsArr (padB gs)) 219)).heap[w.heap.size]? = some (.cells (cellsArr [0, 0, 0, 0, 0, 0, 0, 0, 0, 0, 0, 0, 0, 0, 0, 0]) 219 (0, 0))) := Lib.hid (heap_alloc2_old w _ _)
        have HSZ : Hid ((Tryz.prog.info? 219).map (·.size) = some (cellsArr (padB gs)).size) := Lib.hid (by rw [cellsArr_size, hL16]; exact size219)
        have HS2 : Hid ((cellsArr [0, 0, 0, 0, 0, 0, 0, 0, 0, 0, 0, 0, 0, 0, 0, 0]).size = (cellsArr (padB gs)).size) := Lib.hid (by rw [cellsArr_size, cellsArr_size, hL16]; rfl)
        have HS3 : Hid ((((w.alloc (.cells (cellsArr [0, 0, 0, 0, 0, 0, 0, 0, 0, 0, 0, 0, 0, 0, 0, 0]) 219)).alloc (.cells (cellsArr (padB gs)) 219)).setRow w.heap.size (cellsArr (padB gs))).heap[w.heap.size]? = some (.cells (cellsArr (padB gs)) 219 (0, 0))) := Lib.hid (setRow_heap _ _ _ _ _ _ HST.out)
        go_wp2_with (first | (refine wpList_load_row rfl 219 (.tmp 4) rfl (w.heap.size + 1) rfl 219 _ (0, 0) _ HLD.out Tryz.underlying219 rfl HSZ.out ?_) | (refine wpList_store_row rfl 219 (.tmp 2) (.tmp 171) rfl w.heap.size _ rfl rfl 219 _ HST.out HSZ.out HS2.out (cellsArr_one _) ?_))
        refine bodyPost_ret (v := .tuple #[.agg _, .bool true]) (results340 _ _ _ _ rfl rfl HS3.out HSZ.out) rfl ⟨by rw [HB.out], ?_⟩
        exact below_setRow (((Below.refl _ _).alloc (Nat.le_refl _) _).alloc (by simp) _) (Nat.le_refl _) _
end Go.Proofs.YtnpcmmjdojdmnaaGreatDoor
