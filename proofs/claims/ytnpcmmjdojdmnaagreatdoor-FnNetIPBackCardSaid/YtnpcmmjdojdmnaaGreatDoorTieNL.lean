/- The tie of FnNetIPBack's listed variables, joined. -/
import Derived.Test.YtnpcmmjdojdmnaaGreatDoorTieF
import Derived.Test.YtnpcmmjdojdmnaaGreatDoorTieI
import Derived.Test.YtnpcmmjdojdmnaaGreatDoorTieK
import Derived.Test.YtnpcmmjdojdmnaaGreatDoorTieNE
import Derived.Test.YtnpcmmjdojdmnaaGreatDoorTieNG
import Derived.Test.YtnpcmmjdojdmnaaGreatDoorTieNH
import Derived.Test.YtnpcmmjdojdmnaaGreatDoorTieNJ
namespace Go.Proofs.YtnpcmmjdojdmnaaGreatDoor
open Go
set_option maxRecDepth 100000
theorem laidRun_append {P : Program} {w : World} {fuel : Nat} : ∀ (a b : List String) (x : List (String × DataW Unit) × List MemPlace), DataW.laidRun P w fuel (a ++ b) = some x →
    ∃ y z, DataW.laidRun P w fuel a = some y ∧ DataW.laidRun P w fuel b = some z ∧ x.2 = y.2 ++ z.2
  | [], b, x, h => ⟨([], []), x, rfl, h, rfl⟩
  | n :: a, b, x, h => by
    rw [List.cons_append, DataW.laidRun] at h
    split at h
    · rename_i g hg
      split at h
      · rename_i t cs ht hv
        split at h
        · rename_i u v hu hr
          obtain ⟨y, z, h1, h2, h3⟩ := laidRun_append a b v hr
          cases h
          refine ⟨((n, u.1) :: y.1, MemPlace.row ⟨g, 0, none⟩ cs.size ++ u.2 ++ y.2), z, ?_, h2, ?_⟩
          · rw [DataW.laidRun, hg]
            simp only [ht, hv, hu, h1]
          · simp only [h3, List.append_assoc]
        · cases h
      · cases h
    · cases h
theorem rows_append (P : Program) (w : World) (a b : List MemPlace) : laidRowsB P w (a ++ b) = (laidRowsB P w a && laidRowsB P w b) := by
  simp [laidRowsB, List.all_append]

theorem map_some {α β : Type} {o : Option α} {f : α → β} {b : β} (h : o.map f = some b) : ∃ x, o = some x ∧ f x = b := by
  cases o with
  | none => cases h
  | some x => exact ⟨x, rfl, Option.some.inj h⟩
theorem join_h2 {P : Program} {w : World} {ns a b c : List String} (hs : ns = a ++ (b ++ c)) (hn : (DataW.laidRun P w 8 ns).map (fun x => nodupBits 257 x.2 0) = some true)
    (ha : (DataW.laidRun P w 8 a).map (fun x => laidRowsB P w x.2) = some true) (hb : (DataW.laidRun P w 8 b).map (fun x => laidRowsB P w x.2) = some true) (hc : (DataW.laidRun P w 8 c).map (fun x => laidRowsB P w x.2) = some true) :
    (DataW.laidRun P w 8 ns).map (fun x => decide x.2.Nodup && laidRowsB P w x.2) = some true := by
  obtain ⟨x, hx, h1⟩ := map_some hn
  obtain ⟨ya, hya, h2⟩ := map_some ha
  obtain ⟨yb, hyb, h3⟩ := map_some hb
  obtain ⟨yc, hyc, h4⟩ := map_some hc
  have hx' := hx
  rw [hs] at hx'
  obtain ⟨y, z, e1, e2, e3⟩ := laidRun_append _ _ _ hx'
  obtain ⟨u, v, e4, e5, e6⟩ := laidRun_append _ _ _ e2
  obtain rfl := Option.some.inj (hya.symm.trans e1)
  obtain rfl := Option.some.inj (hyb.symm.trans e4)
  obtain rfl := Option.some.inj (hyc.symm.trans e5)
  rw [hx]
  show some (decide x.2.Nodup && laidRowsB P w x.2) = some true
  rw [decide_eq_true (nodupBits_sound h1).1, e3, e6, rows_append, rows_append, h2, h3, h4]
  rfl
theorem names_splitN : laidFullN.map (·.1) = (laidFull.take 7).map (·.1) ++ (((laidFull.drop 7).take 2).map (·.1) ++ (laidFullN.drop 9).map (·.1)) := rfl
theorem tieFullN : Tryz.prog.laidByTextLater laidFullN kindsFullN true :=
  Program.laidByTextLater_by_run 400 8 tieW1 tieW2 tieW3 tieKFN tieG tieNFN tieHD tieH1N (fun os tape => join_h2 names_splitN (tieH2aN os tape) (tieH2b os tape) (tieH2d os tape) (tieH2cN os tape)) (by kernel_rfl)
end Go.Proofs.YtnpcmmjdojdmnaaGreatDoor
