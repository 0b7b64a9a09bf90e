/-
  The parser's stack of states, and the contract of State.
-/
import Derived.Test.YthoekplablhgfaaGreatDoorJStrTok
import Derived.Laws.AppendOwn
import Derived.Deep.AppendLies
namespace Go.Proofs.YthoekplablhgfaaGreatDoor
open Go.RowKit
set_option linter.unusedVariables false

/-- The stack S, its top at the end, lies in the row sv. -/
def Stk (w : World) (sv : Value) (S : List Int) : Prop := w.ownsRow 0 87 1 sv S.length (S.map (Value.int .u32))
theorem Stk.keep {w w' : World} {sv : Value} {S : List Int} (h : Stk w sv S) (hk : ∀ b, sv.ownBlock = some b → w'.heap[b]? = w.heap[b]?) : Stk w' sv S := by
  obtain ⟨h1, h2⟩ := h
  refine ⟨h1, ?_⟩
  rcases h2 with h2 | ⟨g, cap, cur, rfl, h3, h4, h5⟩
  · exact .inl h2
  · exact .inr ⟨g, cap, cur, rfl, h3, (hk g rfl).trans h4, h5⟩
theorem Stk.top {w : World} {sv : Value} {S : List Int} {a : Int} (h : Stk w sv (S ++ [a])) : ∃ g cap, sv = .slice (some ⟨g, 0, none⟩) (S.length + 1) cap ∧ w.cell? ⟨g, S.length, none⟩ = some (.int .u32 a) ∧ w.frozen? ⟨g, S.length, none⟩ = false ∧ S.length + 1 ≤ cap ∧ cap ≤ maxLen ∧ g < w.heap.size := by
  obtain ⟨h1, h2⟩ := h
  rw [List.length_append, List.length_singleton] at h2
  rcases h2 with ⟨_, h2⟩ | ⟨g, cap, cur, rfl, h3, h4, h5, h6, h7, h8⟩
  · omega
  · refine ⟨g, cap, rfl, ?_, by simp [World.frozen?, h4], h5, h6, (Array.getElem?_eq_some_iff.1 h4).1⟩
    rw [cell_of_row w g _ _ _ _ h4, ← Array.getElem?_toList]
    have h9 : (cur.toList.take ((S.length + 1) * 1))[S.length]? = ((S ++ [a]).map (Value.int .u32))[S.length]? := by rw [h8]
    rw [List.getElem?_take, if_pos (by omega)] at h9
    rw [h9]
    simp
theorem Stk.pop {w : World} {g cap : Nat} {S : List Int} {a : Int} (h : Stk w (.slice (some ⟨g, 0, none⟩) (S.length + 1) cap) (S ++ [a])) : Stk w (.slice (some ⟨g, 0, none⟩) S.length cap) S := by
  obtain ⟨h1, h2⟩ := h
  rw [List.length_append, List.length_singleton] at h2
  rcases h2 with ⟨_, h2⟩ | ⟨g', cap', cur, e, h3, h4, h5, h6, h7, h8⟩
  · omega
  · injection e with e1 e2 e3
    injection e1 with e1
    injection e1 with e1
    subst e1 e3
    refine ⟨by simp, .inr ⟨g, cap, cur, rfl, h3, h4, by omega, h6, h7, ?_⟩⟩
    have h9 : (cur.toList.take ((S.length + 1) * 1)).take (S.length * 1) = ((S ++ [a]).map (Value.int .u32)).take (S.length * 1) := by rw [h8]
    rw [List.take_take, show min (S.length * 1) ((S.length + 1) * 1) = S.length * 1 from by omega] at h9
    rw [h9]
    simp
theorem Stk.put {w : World} {g cap : Nat} {S : List Int} {a : Int} (b : Int) (h : Stk w (.slice (some ⟨g, 0, none⟩) (S.length + 1) cap) (S ++ [a])) : Stk (w.setCell ⟨g, S.length, none⟩ (.int .u32 b)) (.slice (some ⟨g, 0, none⟩) (S.length + 1) cap) (S ++ [b]) := by
  obtain ⟨h1, h2⟩ := h
  rw [List.length_append, List.length_singleton] at h2
  rcases h2 with ⟨_, h2⟩ | ⟨g', cap', cur, e, h3, h4, h5, h6, h7, h8⟩
  · omega
  · injection e with e1 e2 e3
    injection e1 with e1
    injection e1 with e1
    subst e1 e3
    refine ⟨by simp, .inr ⟨g, cap, cur.set! S.length (.int .u32 b), by rw [List.length_append, List.length_singleton], h3, (heap_set h4 _).trans rfl, by rw [List.length_append, List.length_singleton]; exact h5, h6, by simpa using h7, ?_⟩⟩
    rw [List.length_append, List.length_singleton]
    have hl : S.length < cur.size := by rw [h7]; omega
    rw [Array.set!_eq_setIfInBounds, Array.toList_setIfInBounds]
    apply List.ext_getElem?
    intro k
    have h9 : (cur.toList.take ((S.length + 1) * 1))[k]? = ((S ++ [a]).map (Value.int .u32))[k]? := by rw [h8]
    rw [List.getElem?_take] at h9 ⊢
    rw [List.getElem?_set]
    by_cases hk : k < (S.length + 1) * 1
    · rw [if_pos hk] at h9 ⊢
      by_cases hk2 : S.length = k
      · subst hk2
        rw [if_pos rfl, if_pos (by simpa using hl)]
        simp
      · rw [if_neg hk2, h9]
        rw [List.getElem?_map, List.getElem?_map, List.getElem?_append_left (by omega), List.getElem?_append_left (by omega)]
    · rw [if_neg hk, List.getElem?_eq_none (by simp; omega)]
/-- Only the blocks in X have been written, and new ones. -/
structure Chg (w w' : World) (X : Nat → Prop) : Prop where
  os : w'.os = w.os
  tape : w'.tape = w.tape
  output : w'.output = w.output
  size : w.heap.size ≤ w'.heap.size
  block : ∀ k, k < w.heap.size → ¬ X k → w'.heap[k]? = w.heap[k]?
theorem Chg.refl (w : World) (X : Nat → Prop) : Chg w w X := ⟨rfl, rfl, rfl, Nat.le_refl _, fun _ _ _ => rfl⟩
theorem Chg.trans {a b c : World} {X Y : Nat → Prop} (h : Chg a b X) (k : Chg b c Y) (hy : ∀ i, i < a.heap.size → Y i → X i) : Chg a c X :=
  ⟨k.os.trans h.os, k.tape.trans h.tape, k.output.trans h.output, Nat.le_trans h.size k.size, fun i hi hx => (k.block i (Nat.lt_of_lt_of_le hi h.size) (fun y => hx (hy i hi y))).trans (h.block i hi hx)⟩
theorem Chg.of {w w' : World} {r : Option Nat} {X : Nat → Prop} (h : w.grownBy w' r) (hx : ∀ k, r = some k → X k) : Chg w w' X :=
  ⟨h.os, h.tape, h.output, h.size, fun k hk hn => h.block k hk (fun e => hn (hx k e.symm))⟩
theorem Chg.set {w : World} {X : Nat → Prop} {b o : Nat} {v : Value} (hx : X b) : Chg w (w.setCell ⟨b, o, none⟩ v) X :=
  ⟨rfl, rfl, rfl, by simp [World.setCell], fun k _ hn => Below.heap_setCell _ _ _ _ (fun e => hn (by rw [show k = b from e]; exact hx))⟩
theorem Chg.drewN {w w' : World} {X : Nat → Prop} (h : Chg w w' X) (n : Nat) : Chg w (w'.drewN n) X := ⟨h.os, h.tape, h.output, h.size, h.block⟩
theorem Chg.drew {w w' : World} {X : Nat → Prop} (h : Chg w w' X) : Chg w w'.drew X := ⟨h.os, h.tape, h.output, h.size, h.block⟩
theorem Chg.mono {w w' : World} {X Y : Nat → Prop} (h : Chg w w' X) (hy : ∀ k, X k → Y k) : Chg w w' Y := ⟨h.os, h.tape, h.output, h.size, fun k hk hn => h.block k hk (fun x => hn (hy k x))⟩
/-- The parser as a whole. -/
structure PS (w : World) (p z h n cap pos st : Nat) (rf sv : Value) (nc : Bool) (xs : List Int) (tail : List Value) (S : List Int) : Prop where
  lex : Lex w p z h n cap pos st rf sv nc xs tail
  stk : Stk w sv S
  own : ∀ b, sv.ownBlock = some b → b ≠ p ∧ b ≠ z ∧ b ≠ h
theorem PS.to {w w' : World} {p z h n cap pos st pos' st' : Nat} {rf sv : Value} {nc : Bool} {xs : List Int} {tail : List Value} {S : List Int} (x : PS w p z h n cap pos st rf sv nc xs tail S) (hi : Inp w' z h n cap pos' st' rf) (hg : w.grownBy w' (some z)) : PS w' p z h n cap pos' st' rf sv nc xs tail S := by
  refine ⟨x.lex.to hi hg, x.stk.keep fun b e => ?_, x.own⟩
  have hlt : b < w.heap.size := by
    obtain ⟨_, h2⟩ := x.stk
    rcases h2 with ⟨rfl, _⟩ | ⟨g, cap, cur, rfl, _, h4, _⟩
    · simp [Value.ownBlock] at e
    · have e : some g = some b := e
      injection e with e
      subst e
      exact (Array.getElem?_eq_some_iff.1 h4).1
  exact hg.block b hlt (fun h => (x.own b e).2.1 (by injection h))
theorem PS.drewN {w : World} {p z h n cap pos st : Nat} {rf sv : Value} {nc : Bool} {xs : List Int} {tail : List Value} {S : List Int} (x : PS w p z h n cap pos st rf sv nc xs tail S) (k : Nat) : PS (w.drewN k) p z h n cap pos st rf sv nc xs tail S :=
  ⟨⟨x.lex.hp.keep rfl, x.lex.hi.keep rfl, x.lex.hb.keep rfl, x.lex.hn, x.lex.hs, x.lex.hpz, x.lex.hhz⟩, x.stk.keep fun _ _ => rfl, x.own⟩

set_option maxRecDepth 100000 in
theorem State_at (p z h n cap pos st : Nat) (rf sv : Value) (nc : Bool) (xs : List Int) (tail : List Value) (S : List Int) (a : Int) (w : World) (x : PS w p z h n cap pos st rf sv nc xs tail (S ++ [a])) (hS : S.length ≤ 1000) :
    Calls Tryz.prog 35 #[.pointer (some ⟨p, 0, none⟩)] w fun e w' => e = .returned (.int .u32 a) ∧ ∃ k, w' = w.drewN k := by
  obtain ⟨g, cs, hsv, hc, hf, h1, h2, h3⟩ := x.stk.top
  have k1 := x.lex.hp.c1
  rw [hsv] at k1
  obtain ⟨m, hm⟩ : ∃ m, S.length = m := ⟨_, rfl⟩
  rw [hm] at hc k1 hS
  have e1 : ((m + 1 : Nat) : Int) - 1 = ((m : Nat) : Int) := by omega
  have e2 : IntKind.i64.wrap (((m : Nat) : Int) + 1 - 1) = ((m : Nat) : Int) := by rw [IntWalk.i64_in _ (by omega)]; omega
  have e3 : ((m : Nat) : Int) + 1 - 1 = ((m : Nat) : Int) := by omega
  have e4 : ((m : Nat) : Int) < ((m : Nat) : Int) + 1 := by omega
  clear hsv x hm
  go_enter Tryz.func35, Tryz.ntmps35
  go_wp2_with fail
  go_quiet (fail)
  go_wp2_with fail
  go_ret
  exact ⟨rfl, _, rfl⟩

end Go.Proofs.YthoekplablhgfaaGreatDoor
