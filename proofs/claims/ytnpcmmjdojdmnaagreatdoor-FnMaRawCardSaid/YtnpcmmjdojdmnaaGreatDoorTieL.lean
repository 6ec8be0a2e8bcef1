/- The tie of the listed variables, joined. The row's tie. The row's tie of FnMaRaw. -/
import Derived.Test.YtnpcmmjdojdmnaaGreatDoorTieF
import Derived.Test.YtnpcmmjdojdmnaaGreatDoorTieG
import Derived.Test.YtnpcmmjdojdmnaaGreatDoorTieH
import Derived.Test.YtnpcmmjdojdmnaaGreatDoorTieI
import Derived.Test.YtnpcmmjdojdmnaaGreatDoorTieK
import Derived.SevenTiedAt
namespace Go.Proofs.YtnpcmmjdojdmnaaGreatDoor
open Go
set_option maxRecDepth 100000

theorem laidRun_append {P : Program} {w : World} {fuel : Nat} : ∀ (a b : List String) (x : List (String × DataW Unit) × List MemPlace), DataW.laidRun P w fuel (a ++ b) = some x →
    ∃ y z, DataW.laidRun P w fuel a = some y ∧ DataW.laidRun P w fuel b = some z ∧ x.2 = y.2 ++ z.2
  | [], b, x, h => ⟨([], []), x, rfl, h, rfl⟩
  | n :: a, b, x, h => by
    rw [List.cons_append, DataW.laidRun] at h
    split at h
    · rename_i g hg
      split at h
      · rename_i t cs ht hv
        split at h
        · rename_i u v hu hr
          obtain ⟨y, z, h1, h2, h3⟩ := laidRun_append a b v hr
          cases h
          refine ⟨((n, u.1) :: y.1, MemPlace.row ⟨g, 0, none⟩ cs.size ++ u.2 ++ y.2), z, ?_, h2, ?_⟩
          · rw [DataW.laidRun, hg]
            simp only [ht, hv, hu, h1]
          · simp only [h3, List.append_assoc]
        · cases h
      · cases h
    · cases h
theorem rows_append (P : Program) (w : World) (a b : List MemPlace) : laidRowsB P w (a ++ b) = (laidRowsB P w a && laidRowsB P w b) := by
  simp [laidRowsB, List.all_append]

theorem map_some {α β : Type} {o : Option α} {f : α → β} {b : β} (h : o.map f = some b) : ∃ x, o = some x ∧ f x = b := by
  cases o with
  | none => cases h
  | some x => exact ⟨x, rfl, Option.some.inj h⟩

theorem names_split : laidFull.map (·.1) = (laidFull.take 7).map (·.1) ++ (((laidFull.drop 7).take 2).map (·.1) ++ (laidFull.drop 9).map (·.1)) := rfl

theorem join_h2 {P : Program} {w : World} {ns a b c : List String} (hs : ns = a ++ (b ++ c)) (hn : (DataW.laidRun P w 8 ns).map (fun x => nodupBits 257 x.2 0) = some true)
    (ha : (DataW.laidRun P w 8 a).map (fun x => laidRowsB P w x.2) = some true) (hb : (DataW.laidRun P w 8 b).map (fun x => laidRowsB P w x.2) = some true) (hc : (DataW.laidRun P w 8 c).map (fun x => laidRowsB P w x.2) = some true) :
    (DataW.laidRun P w 8 ns).map (fun x => decide x.2.Nodup && laidRowsB P w x.2) = some true := by
  obtain ⟨x, hx, h1⟩ := map_some hn
  obtain ⟨ya, hya, h2⟩ := map_some ha
  obtain ⟨yb, hyb, h3⟩ := map_some hb
  obtain ⟨yc, hyc, h4⟩ := map_some hc
  have hx' := hx
  rw [hs] at hx'
  obtain ⟨y, z, e1, e2, e3⟩ := laidRun_append _ _ _ hx'
  obtain ⟨u, v, e4, e5, e6⟩ := laidRun_append _ _ _ e2
  obtain rfl := Option.some.inj (hya.symm.trans e1)
  obtain rfl := Option.some.inj (hyb.symm.trans e4)
  obtain rfl := Option.some.inj (hyc.symm.trans e5)
  rw [hx]
  show some (decide x.2.Nodup && laidRowsB P w x.2) = some true
  rw [decide_eq_true (nodupBits_sound h1).1, e3, e6, rows_append, rows_append, h2, h3, h4]
  rfl

theorem tieFull : Tryz.prog.laidByTextLater laidFull kindsFull true :=
  Program.laidByTextLater_by_run 400 8 tieW1 tieW2 tieW3 tieKF tieG tieNF tieHD tieH1 (fun os tape => join_h2 names_split (tieH2a os tape) (tieH2b os tape) (tieH2d os tape) (tieH2c os tape)) (by kernel_rfl)
end Go.Proofs.YtnpcmmjdojdmnaaGreatDoor
namespace Go.Proofs.YtnpcmmjdojdmnaaGreatDoor
open Go
theorem pin_laid_unicode_utf8_first : Tryz.pinned.checked.prog.pinnedFits "unicode/utf8.first" = true := by kernel_rfl
theorem fits1 : Tryz.pinned.checked.prog.listedFits [("internal/strconv.uint64pow10", Rows.laid_internal_strconv_uint64pow10), ("math/bits.deBruijn32tab", Rows.laid_math_bits_deBruijn32tab), ("math/bits.deBruijn64tab", Rows.laid_math_bits_deBruijn64tab), ("strconv.ErrSyntax", Rows.laid_strconv_ErrSyntax), ("strconv.ErrRange", Rows.laid_strconv_ErrRange), ("pub-brocade/pub/gomultibase.ErrUnsupportedEncoding", Rows.laid_pub_brocade_pub_gomultibase_ErrUnsupportedEncoding), ("unicode/utf8.first", Rows.laid_unicode_utf8_first), ("unicode/utf8.acceptRanges", Rows.laid_unicode_utf8_acceptRanges), ("encoding/hex.ErrLength", Rows.laid_encoding_hex_ErrLength), ("pub-brocade/pub/gomultibase.base256emojiTable", Rows.laid_pub_brocade_pub_gomultibase_base256emojiTable), ("pub-brocade/pub/gomultihash.ErrTooShort", Rows.laid_pub_brocade_pub_gomultihash_ErrTooShort), ("pub-brocade/pub/gomultihash.ErrVarintBufferShort", Rows.laid_pub_brocade_pub_gomultihash_ErrVarintBufferShort), ("pub-brocade/pub/gomultihash.ErrVarintTooLong", Rows.laid_pub_brocade_pub_gomultihash_ErrVarintTooLong), ("pub-brocade/pub/govarint.ErrOverflow", Rows.laid_pub_brocade_pub_govarint_ErrOverflow), ("pub-brocade/pub/govarint.ErrNotMinimal", Rows.laid_pub_brocade_pub_govarint_ErrNotMinimal), ("pub-brocade/pub/govarint.ErrUnderflow", Rows.laid_pub_brocade_pub_govarint_ErrUnderflow), ("pub-brocade/pub/gomultibase.hexTableUppers", Rows.laid_pub_brocade_pub_gomultibase_hexTableUppers), ("net/url.table", Rows.laid_net_url_table), ("pub-brocade/pub/gomultihash.ErrInvalidMultihash", Rows.laid_pub_brocade_pub_gomultihash_ErrInvalidMultihash), ("pub-brocade/pub/gocid.errCidTooShort", Rows.laid_pub_brocade_pub_gocid_errCidTooShort), ("bytes.ErrTooLarge", Rows.laid_bytes_ErrTooLarge), ("pub-brocade/pub/multiaddr.errNilPtr", Rows.laid_pub_brocade_pub_multiaddr_errNilPtr)] = true := by
  unfold Program.listedFits
  rw [noOwnUnsafeA]
  kernel_rfl
theorem fnMaComponents_row_tie : Rows.fnMaComponentsRow.laidByTextAt .later Tryz.pinned [.data, .data, .data, .sentinel, .sentinel, .sentinel, .pinned, .data, .sentinel, .data, .sentinel, .sentinel, .sentinel, .sentinel, .sentinel, .sentinel, .data, .data, .sentinel, .sentinel, .sentinel, .sentinel] true :=
  OpenClaim.laidByTextAt_pinned rfl rfl tieFull rfl rfl rfl rfl (fun y hy _e => by
    simp only [Rows.fnMaComponentsRow, List.zip_cons_cons, List.zip_nil_right, List.mem_cons, List.mem_nil_iff, or_false] at hy
    rcases hy with rfl | rfl | rfl | rfl | rfl | rfl | rfl | rfl | rfl | rfl | rfl | rfl | rfl | rfl | rfl | rfl | rfl | rfl | rfl | rfl | rfl | rfl
    · cases _e
    · cases _e
    · cases _e
    · cases _e
    · cases _e
    · cases _e
    · exact ⟨pin_laid_unicode_utf8_first, by kernel_rfl⟩
    · cases _e
    · cases _e
    · cases _e
    · cases _e
    · cases _e
    · cases _e
    · cases _e
    · cases _e
    · cases _e
    · cases _e
    · cases _e
    · cases _e
    · cases _e
    · cases _e
    · cases _e) fits1
end Go.Proofs.YtnpcmmjdojdmnaaGreatDoor
namespace Go.Proofs.YtnpcmmjdojdmnaaGreatDoor
open Go
theorem fnMaRaw_row_tie : Rows.fnMaRawRow.laidByTextAt .later Tryz.pinned [.data, .data, .data, .sentinel, .sentinel, .sentinel, .pinned, .data, .sentinel, .data, .sentinel, .sentinel, .sentinel, .sentinel, .sentinel, .sentinel, .data, .data, .sentinel, .sentinel, .sentinel, .sentinel] true :=
  OpenClaim.laidByTextAt_pinned rfl rfl tieFull rfl rfl rfl rfl (fun y hy _e => by
    simp only [Rows.fnMaRawRow, List.zip_cons_cons, List.zip_nil_right, List.mem_cons, List.mem_nil_iff, or_false] at hy
    rcases hy with rfl | rfl | rfl | rfl | rfl | rfl | rfl | rfl | rfl | rfl | rfl | rfl | rfl | rfl | rfl | rfl | rfl | rfl | rfl | rfl | rfl | rfl
    · cases _e
    · cases _e
    · cases _e
    · cases _e
    · cases _e
    · cases _e
    · exact ⟨pin_laid_unicode_utf8_first, by kernel_rfl⟩
    · cases _e
    · cases _e
    · cases _e
    · cases _e
    · cases _e
    · cases _e
    · cases _e
    · cases _e
    · cases _e
    · cases _e
    · cases _e
    · cases _e
    · cases _e
    · cases _e
    · cases _e) fits1
end Go.Proofs.YtnpcmmjdojdmnaaGreatDoor
