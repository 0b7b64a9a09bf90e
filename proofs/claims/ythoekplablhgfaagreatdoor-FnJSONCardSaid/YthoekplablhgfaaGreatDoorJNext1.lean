/-
  The contract of the parser's Next: what it does ahead of a token.
-/
import Derived.Test.YthoekplablhgfaaGreatDoorJNext0
namespace Go.Proofs.YthoekplablhgfaaGreatDoor
open Go.RowKit
set_option linter.unusedVariables false

/-- What may stand ahead of a token: white space, or a comma between such; and whether a comma is due then. -/
def PreOk (nc : Bool) (top : Int) (pre : List Int) (nc' : Bool) : Prop :=
  (JWs pre ∧ nc' = nc) ∨ (∃ w1 w2, pre = w1 ++ 44 :: w2 ∧ JWs w1 ∧ JWs w2 ∧ (top = 3 ∨ top = 1) ∧ nc' = false)
theorem pre_parts {nc nc' : Bool} {top c : Int} {pre l xs : List Int} {pos : Nat} (h : PreOk nc top pre nc') (hl : LiesL xs pos (pre ++ c :: l)) (hc : c ≠ 44) (hw : ¬ wsb c) :
    ∃ (w1 l1 : List Int) (c1 : Int), JWs w1 ∧ LiesL xs pos (w1 ++ c1 :: l1) ∧ ¬ wsb c1 ∧ ((c1 ≠ 44 ∧ c1 = c ∧ nc' = nc ∧ pos + w1.length = pos + pre.length) ∨ (c1 = 44 ∧ (top = 3 ∨ top = 1) ∧ nc' = false ∧ ∃ w2, JWs w2 ∧ LiesL xs (pos + w1.length + 1) (w2 ++ c :: l) ∧ pos + w1.length + 1 + w2.length = pos + pre.length)) := by
  rcases h with ⟨h1, h2⟩ | ⟨w1, w2, rfl, h1, h2, h3, h4⟩
  · exact ⟨pre, l, c, h1, hl, hw, .inl ⟨hc, rfl, h2, rfl⟩⟩
  · have e : w1 ++ 44 :: w2 ++ c :: l = w1 ++ 44 :: (w2 ++ c :: l) := by simp
    rw [e] at hl
    exact ⟨w1, w2 ++ c :: l, 44, h1, hl, by unfold wsb; omega, .inr ⟨rfl, h3, h4, w2, h2, hl.drop.tail, by simp; omega⟩⟩
/-- The blocks that the parser writes. -/
def nX (p z : Nat) (sv : Value) (k : Nat) : Prop := k = z ∨ k = p ∨ sv.ownBlock = some k
def NextPost (gt : Int) (q len cx p z h n cap q' : Nat) (rf sv : Value) (ncF : Bool) (xs : List Int) (tail : List Value) (S : List Int) (w : World) (e : Ending) (w' : World) : Prop :=
  e = .returned (.tuple #[.int .u32 gt, .slice (some ⟨h, q, none⟩) len cx]) ∧ ∃ sv', PS w' p z h n cap q' q' rf sv' ncF xs tail S ∧ Chg w w' (nX p z sv) ∧ (sv'.ownBlock = sv.ownBlock ∨ ∀ k, sv'.ownBlock = some k → w.heap.size ≤ k)
theorem PS.comma {w : World} {p z h n cap pos st : Nat} {rf sv : Value} {nc : Bool} {xs : List Int} {tail : List Value} {S : List Int} (x : PS w p z h n cap pos st rf sv nc xs tail S) (b : Bool) (hhp : h ≠ p) : PS (w.setCell ⟨p, 3, none⟩ (.bool b)) p z h n cap pos st rf sv b xs tail S :=
  ⟨⟨x.lex.hp.comma b, x.lex.hi.keep (Below.heap_setCell _ _ _ _ (fun e => x.lex.hpz (by rw [show z = p from e]))), x.lex.hb.keep (Below.heap_setCell _ _ _ _ hhp), x.lex.hn, x.lex.hs, x.lex.hpz, x.lex.hhz⟩, x.stk.keep fun k e => Below.heap_setCell _ _ _ _ (x.own k e).1, x.own⟩
theorem PS.white {w : World} {p z h n cap pos st : Nat} {rf sv : Value} {nc : Bool} {xs : List Int} {tail : List Value} {S : List Int} (x : PS w p z h n cap pos st rf sv nc xs tail S) (ws l : List Int) (c : Int) (hw : JWs ws) (hl : LiesL xs pos (ws ++ c :: l)) (hc : ¬ wsb c) (q : Nat) (hq : pos + ws.length = q) :
    Calls Tryz.prog 50 #[.pointer (some ⟨p, 0, none⟩)] w fun e w' => e = .returned (.tuple #[]) ∧ PS w' p z h n cap q st rf sv nc xs tail S ∧ Chg w w' (nX p z sv) :=
  (white_at p z h n cap pos st rf sv nc xs ws l c tail w x.lex.hp x.lex.hi x.lex.hb x.lex.hn x.lex.hs x.lex.hpz x.lex.hhz hw hl hc).mono (by
    rintro e w' ⟨rfl, h1, h2⟩
    rw [hq] at h1
    exact ⟨rfl, x.to h1 h2, Chg.of h2 (fun k e => .inl (by injection e with e; exact e.symm))⟩)
theorem PS.move {w : World} {p z h n cap pos st : Nat} {rf sv : Value} {nc : Bool} {xs : List Int} {tail : List Value} {S : List Int} (x : PS w p z h n cap pos st rf sv nc xs tail S) (q : Nat) (hq : pos + 1 = q) (hs : q ≤ 1000000) :
    Calls Tryz.prog 53 #[.pointer (some ⟨z, 0, none⟩), .int .i64 1] w fun e w' => e = .returned (.tuple #[]) ∧ PS w' p z h n cap q st rf sv nc xs tail S ∧ Chg w w' (nX p z sv) :=
  (Move_at z h n cap pos st q 1 rf w x.lex.hi (by omega) hs (by omega)).mono (by
    rintro e w' ⟨rfl, h1, h2⟩
    exact ⟨rfl, x.to h1 h2, Chg.of h2 (fun k e => .inl (by injection e with e; exact e.symm))⟩)
theorem PS.skip {w : World} {p z h n cap pos st : Nat} {rf sv : Value} {nc : Bool} {xs : List Int} {tail : List Value} {S : List Int} (x : PS w p z h n cap pos st rf sv nc xs tail S) :
    Calls Tryz.prog 54 #[.pointer (some ⟨z, 0, none⟩)] w fun e w' => e = .returned (.tuple #[]) ∧ PS w' p z h n cap pos pos rf sv nc xs tail S ∧ Chg w w' (nX p z sv) :=
  (Skip_at z h n cap pos st rf w x.lex.hi).mono (by
    rintro e w' ⟨rfl, h1, h2⟩
    exact ⟨rfl, x.to h1 h2, Chg.of h2 (fun k e => .inl (by injection e with e; exact e.symm))⟩)
theorem PS.shift {w : World} {p z h n cap pos st k : Nat} {rf sv : Value} {nc : Bool} {xs : List Int} {tail : List Value} {S : List Int} (x : PS w p z h n cap pos st rf sv nc xs tail S) (hq : st + k = pos) (hk1 : 1 ≤ k) (hs : pos ≤ 1000000) (hp : pos ≤ cap) :
    Calls Tryz.prog 55 #[.pointer (some ⟨z, 0, none⟩)] w fun e w' => e = .returned (.slice (some ⟨h, st, none⟩) k k) ∧ PS w' p z h n cap pos pos rf sv nc xs tail S ∧ Chg w w' (nX p z sv) :=
  (Shift_at z h n cap pos st k rf w x.lex.hi hk1 hq hs hp).mono (by
    rintro e w' ⟨rfl, h1, h2⟩
    exact ⟨rfl, x.to h1 h2, Chg.of h2 (fun k e => .inl (by injection e with e; exact e.symm))⟩)
theorem nX_trans {a b c : World} {p z : Nat} {sv : Value} (h : Chg a b (nX p z sv)) (k : Chg b c (nX p z sv)) : Chg a c (nX p z sv) := h.trans k fun _ _ x => x

end Go.Proofs.YthoekplablhgfaaGreatDoor
