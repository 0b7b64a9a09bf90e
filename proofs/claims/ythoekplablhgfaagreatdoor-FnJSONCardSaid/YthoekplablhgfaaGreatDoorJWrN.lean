/-
  The contract of (*bytes.Buffer).Write at nil.
-/
import Derived.Test.YthoekplablhgfaaGreatDoorJSmall
namespace Go.Proofs.YthoekplablhgfaaGreatDoor
open Go.RowKit
set_option linter.unusedVariables false

set_option maxRecDepth 100000 in
set_option maxHeartbeats 3200000 in
theorem Write_nil (b g : Nat) (bs : List Int) (w : World) (hb : OutB w b (some g) bs) (hl : bs.length ≤ 1000000) :
    Calls Tryz.prog 139 #[.pointer (some ⟨b, 0, none⟩), .slice none 0 0] w fun e w' => e = .returned (.tuple #[.int .i64 0, .nilIface]) ∧ OutB w' b (some g) bs ∧ Chg w w' (fun k => k = b) := by
  obtain ⟨lr, hb⟩ := hb
  rcases hb with ⟨h0, _⟩ | ⟨g', cap, tl, hg', hb, hbuf, hcap, hcm, hgb⟩
  · cases h0
  · injection hg' with hg'
    subst hg'
    obtain ⟨l, hbl⟩ : ∃ l, bs.length = l := ⟨_, rfl⟩
    have hB : BB w b (.slice (some ⟨g, 0, none⟩) l cap) lr := by rw [← hbl]; exact hb
    have k2 := hB.c2
    have kf := hB.fz 2
    have HB0 := Lib.hid (hB.put2 0)
    have HG0 := Lib.hid (moved_set w b 2 (.int .i8 0))
    have HF := Lib.hid hbuf
    have HL := Lib.hid hbl
    have hlc : l ≤ cap := by omega
    have hl1 : l ≤ 1000000 := by omega
    have HC := Lib.hid hcap
    clear hb hB hbuf hbl hcap hl
    go_enter Tryz.func139, Tryz.ntmps139
    go_wp2_with fail
    refine (try_yes b g l cap 0 _ _ HB0.out (by omega) hcm).mono ?_
    rintro e w2 ⟨rfl, hb2, hg2⟩
    rw [Nat.add_zero] at hb2
    have d0 := hb2.c0
    have HB2 := Lib.hid hb2
    have HG2 := Lib.hid hg2
    have i1 : ((l : Nat) : Int) ≤ ((cap : Nat) : Int) := by omega
    have hcp : ∀ (d : Option Addr) (dLen dCap : Nat) (W : World), (Builtin.copy_ #[44, 44] 3 #[.slice d dLen dCap, .slice none 0 0]).run Tryz.prog W = .ok (goInt 0) W := fun d dLen dCap W => run_copy_none (P := Tryz.prog) W 44 44 3 5 d none dLen dCap 0 0 Tryz.underlying44 size_u8w (Nat.zero_min _)
    clear hb2 hg2
    go_wp2_with fail
    all_goals
      go_ret2
      have hbl := HL.out
      have hgw := grownBy_trans HG0.out HG2.out
      refine ⟨rfl, ⟨0, .inr ⟨g, cap, tl, rfl, by rw [hbl]; exact HB2.out, HF.out.keep (hgw.block g HF.out.lt (fun e => hgb (by injection e))), HC.out, hcm, hgb⟩⟩, Chg.of hgw (fun k e => by injection e with e; exact e.symm)⟩

end Go.Proofs.YthoekplablhgfaaGreatDoor
