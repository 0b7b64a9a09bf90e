/-
  The contracts of the parser's consumeLiteralToken and consumeNumberToken.
-/
import Derived.Test.YthoekplablhgfaaGreatDoorMRead
import Derived.Test.YthoekplablhgfaaGreatDoorMTree
namespace Go.Proofs.YthoekplablhgfaaGreatDoor
open Go.RowKit
set_option linter.unusedVariables false

/-- What the parser's lexing methods ask for: its block, the input, the bytes. -/
structure Lex (w : World) (p z h n cap pos st : Nat) (rf sv : Value) (nc : Bool) (xs : List Int) (tail : List Value) : Prop where
  hp : Par w p z sv nc
  hi : Inp w z h n cap pos st rf
  hb : Buf w h xs tail
  hn : xs.length = n
  hs : n ≤ 1000000
  hpz : p ≠ z
  hhz : h ≠ z
theorem Lex.to {w w' : World} {p z h n cap pos st pos' st' : Nat} {rf sv : Value} {nc : Bool} {xs : List Int} {tail : List Value} (x : Lex w p z h n cap pos st rf sv nc xs tail) (hi : Inp w' z h n cap pos' st' rf) (hg : w.grownBy w' (some z)) : Lex w' p z h n cap pos' st' rf sv nc xs tail :=
  ⟨x.hp.keep (hg.block p x.hp.lt (fun e => x.hpz (by injection e))), hi, x.hb.keep (hg.block h x.hb.lt (fun e => x.hhz (by injection e))), x.hn, x.hs, x.hpz, x.hhz⟩
theorem Lex.peek {w : World} {p z h n cap pos st : Nat} {rf sv : Value} {nc : Bool} {xs : List Int} {tail : List Value} (x : Lex w p z h n cap pos st rf sv nc xs tail) (k : Nat) (c : Int) (hx : pos + k < xs.length ∧ xs.getD (pos + k) 0 = c) (hk : k ≤ 1000) :
    Calls Tryz.prog 51 #[.pointer (some ⟨z, 0, none⟩), .int .i64 (k : Nat)] w fun e w' => e = .returned (.int .u8 c) ∧ w = w' := by
  rw [← hx.2]
  exact Peek_at z h n cap pos st k rf xs tail w x.hi x.hb hx.1 x.hn x.hs hk
theorem Lex.move {w : World} {p z h n cap pos st : Nat} {rf sv : Value} {nc : Bool} {xs : List Int} {tail : List Value} (x : Lex w p z h n cap pos st rf sv nc xs tail) (k : Int) (q : Nat) (hq : (pos : Int) + k = (q : Nat)) (h1 : q ≤ 1000000) (h2 : pos ≤ 1000000) :
    Calls Tryz.prog 53 #[.pointer (some ⟨z, 0, none⟩), .int .i64 k] w fun e w' => e = .returned (.tuple #[]) ∧ Lex w' p z h n cap q st rf sv nc xs tail ∧ w.grownBy w' (some z) :=
  (Move_at z h n cap pos st q k rf w x.hi hq h1 h2).mono (by rintro e w' ⟨rfl, h1, h2⟩; exact ⟨rfl, x.to h1 h2, h2⟩)
/-- A token of length m is taken. -/
def Taken (b : Bool) (m p z h n cap pos st : Nat) (rf sv : Value) (nc : Bool) (xs : List Int) (tail : List Value) (w : World) (e : Ending) (w' : World) : Prop :=
  e = .returned (.bool b) ∧ Lex w' p z h n cap (pos + m) st rf sv nc xs tail ∧ w.grownBy w' (some z)

set_option maxRecDepth 100000 in
set_option maxHeartbeats 3200000 in
theorem lit_at (p z h n cap pos st : Nat) (rf sv : Value) (nc : Bool) (xs t l : List Int) (tail : List Value) (w : World) (x : Lex w p z h n cap pos st rf sv nc xs tail) (ht : t ∈ jlitL) (hl : LiesL xs pos (t ++ l)) :
    Calls Tryz.prog 59 #[.pointer (some ⟨p, 0, none⟩)] w (Taken true t.length p z h n cap pos st rf sv nc xs tail w) := by
  have k0 := x.hp.c0
  have hll := hl.left.1
  have hnn := x.hs
  have hnn2 := x.hn
  simp only [jlitL, List.mem_cons, List.not_mem_nil, or_false] at ht
  have hby := fun j (hj : j < t.length) => hl.left.2 j hj
  have X := Lib.hid x
  clear x hl
  rcases ht with rfl | rfl | rfl
  · have P0 := Lib.hid (fun w' (y : Lex w' p z h n cap pos st rf sv nc xs tail) => y.peek 0 110 ⟨by simp at hll; omega, hby 0 (by decide)⟩ (by omega))
    have P1 := Lib.hid (fun w' (y : Lex w' p z h n cap pos st rf sv nc xs tail) => y.peek 1 117 ⟨by simp at hll; omega, hby 1 (by decide)⟩ (by omega))
    have P2 := Lib.hid (fun w' (y : Lex w' p z h n cap pos st rf sv nc xs tail) => y.peek 2 108 ⟨by simp at hll; omega, hby 2 (by decide)⟩ (by omega))
    have P3 := Lib.hid (fun w' (y : Lex w' p z h n cap pos st rf sv nc xs tail) => y.peek 3 108 ⟨by simp at hll; omega, hby 3 (by decide)⟩ (by omega))
    have hll2 : pos + 4 ≤ n := by simp at hll; omega
    clear hby hll
    go_enter Tryz.func59, Tryz.ntmps59
    go_wp2_with fail
    refine (P0.out w X.out).mono ?_
    rintro e w1 ⟨rfl, rfl⟩
    go_wp2_with fail
    refine (P1.out w X.out).mono ?_
    rintro e w1 ⟨rfl, rfl⟩
    go_wp2_with fail
    refine (P2.out w X.out).mono ?_
    rintro e w1 ⟨rfl, rfl⟩
    go_wp2_with fail
    refine (P3.out w X.out).mono ?_
    rintro e w1 ⟨rfl, rfl⟩
    go_wp2_with fail
    refine (X.out.move 4 (pos + 4) (by omega) (by omega) (by omega)).mono ?_
    rintro e w2 ⟨rfl, hx2, hg2⟩
    have HX2 := Lib.hid hx2
    have HG2 := Lib.hid hg2
    clear hx2 hg2
    go_wp2_with fail
    go_ret
    exact ⟨rfl, HX2.out, HG2.out⟩
  · have P0 := Lib.hid (fun w' (y : Lex w' p z h n cap pos st rf sv nc xs tail) => y.peek 0 116 ⟨by simp at hll; omega, hby 0 (by decide)⟩ (by omega))
    have P1 := Lib.hid (fun w' (y : Lex w' p z h n cap pos st rf sv nc xs tail) => y.peek 1 114 ⟨by simp at hll; omega, hby 1 (by decide)⟩ (by omega))
    have P2 := Lib.hid (fun w' (y : Lex w' p z h n cap pos st rf sv nc xs tail) => y.peek 2 117 ⟨by simp at hll; omega, hby 2 (by decide)⟩ (by omega))
    have P3 := Lib.hid (fun w' (y : Lex w' p z h n cap pos st rf sv nc xs tail) => y.peek 3 101 ⟨by simp at hll; omega, hby 3 (by decide)⟩ (by omega))
    have hll2 : pos + 4 ≤ n := by simp at hll; omega
    clear hby hll
    go_enter Tryz.func59, Tryz.ntmps59
    go_wp2_with fail
    refine (P0.out w X.out).mono ?_
    rintro e w1 ⟨rfl, rfl⟩
    go_wp2_with fail
    refine (P1.out w X.out).mono ?_
    rintro e w1 ⟨rfl, rfl⟩
    go_wp2_with fail
    refine (P2.out w X.out).mono ?_
    rintro e w1 ⟨rfl, rfl⟩
    go_wp2_with fail
    refine (P3.out w X.out).mono ?_
    rintro e w1 ⟨rfl, rfl⟩
    go_wp2_with fail
    refine (X.out.move 4 (pos + 4) (by omega) (by omega) (by omega)).mono ?_
    rintro e w2 ⟨rfl, hx2, hg2⟩
    have HX2 := Lib.hid hx2
    have HG2 := Lib.hid hg2
    clear hx2 hg2
    go_wp2_with fail
    go_ret
    exact ⟨rfl, HX2.out, HG2.out⟩
  · have P0 := Lib.hid (fun w' (y : Lex w' p z h n cap pos st rf sv nc xs tail) => y.peek 0 102 ⟨by simp at hll; omega, hby 0 (by decide)⟩ (by omega))
    have P1 := Lib.hid (fun w' (y : Lex w' p z h n cap pos st rf sv nc xs tail) => y.peek 1 97 ⟨by simp at hll; omega, hby 1 (by decide)⟩ (by omega))
    have P2 := Lib.hid (fun w' (y : Lex w' p z h n cap pos st rf sv nc xs tail) => y.peek 2 108 ⟨by simp at hll; omega, hby 2 (by decide)⟩ (by omega))
    have P3 := Lib.hid (fun w' (y : Lex w' p z h n cap pos st rf sv nc xs tail) => y.peek 3 115 ⟨by simp at hll; omega, hby 3 (by decide)⟩ (by omega))
    have P4 := Lib.hid (fun w' (y : Lex w' p z h n cap pos st rf sv nc xs tail) => y.peek 4 101 ⟨by simp at hll; omega, hby 4 (by decide)⟩ (by omega))
    have hll2 : pos + 5 ≤ n := by simp at hll; omega
    clear hby hll
    go_enter Tryz.func59, Tryz.ntmps59
    go_wp2_with fail
    refine (P0.out w X.out).mono ?_
    rintro e w1 ⟨rfl, rfl⟩
    go_wp2_with fail
    refine (P1.out w X.out).mono ?_
    rintro e w1 ⟨rfl, rfl⟩
    go_wp2_with fail
    refine (P2.out w X.out).mono ?_
    rintro e w1 ⟨rfl, rfl⟩
    go_wp2_with fail
    refine (P3.out w X.out).mono ?_
    rintro e w1 ⟨rfl, rfl⟩
    go_wp2_with fail
    refine (P4.out w X.out).mono ?_
    rintro e w1 ⟨rfl, rfl⟩
    go_wp2_with fail
    refine (X.out.move 5 (pos + 5) (by omega) (by omega) (by omega)).mono ?_
    rintro e w2 ⟨rfl, hx2, hg2⟩
    have HX2 := Lib.hid hx2
    have HG2 := Lib.hid hg2
    clear hx2 hg2
    go_wp2_with fail
    go_ret
    exact ⟨rfl, HX2.out, HG2.out⟩

set_option maxRecDepth 100000 in
set_option maxHeartbeats 3200000 in
theorem lit_none (p z h n cap pos st : Nat) (rf sv : Value) (nc : Bool) (xs : List Int) (tail : List Value) (w : World) (x : Lex w p z h n cap pos st rf sv nc xs tail) (hl : pos < xs.length ∧ xs.getD pos 0 = 0) :
    Calls Tryz.prog 59 #[.pointer (some ⟨p, 0, none⟩)] w fun e w' => e = .returned (.bool false) ∧ w = w' := by
  have k0 := x.hp.c0
  have P0 := Lib.hid (x.peek 0 0 hl (by omega))
  clear x hl
  go_enter Tryz.func59, Tryz.ntmps59
  go_wp2_with fail
  refine P0.out.mono ?_
  rintro e w1 ⟨rfl, rfl⟩
  go_wp2_with fail
  go_ret
  exact ⟨rfl, rfl⟩

end Go.Proofs.YthoekplablhgfaaGreatDoor
