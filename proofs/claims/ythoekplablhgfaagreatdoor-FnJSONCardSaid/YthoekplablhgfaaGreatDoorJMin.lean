/-
  The contract of the JSON minifier's Minify.
-/
import Derived.Test.YthoekplablhgfaaGreatDoorJTok
import Derived.Test.YthoekplablhgfaaGreatDoorJNumK
import Derived.Test.YthoekplablhgfaaGreatDoorJNew2
import Derived.Test.YthoekplablhgfaaGreatDoorJWrN
namespace Go.Proofs.YthoekplablhgfaaGreatDoor
open Go.RowKit
set_option linter.unusedVariables false

/-- Where the input stands. -/
def posOf (w : World) (z : Nat) : Nat := match w.cell? ⟨z, 1, none⟩ with
  | some (.int _ k) => k.toNat
  | _ => 0
theorem Inp.posOf {w : World} {z h n cap pos st : Nat} {rf : Value} (i : Inp w z h n cap pos st rf) : Go.Proofs.YthoekplablhgfaaGreatDoor.posOf w z = pos := by
  unfold Go.Proofs.YthoekplablhgfaaGreatDoor.posOf
  rw [i.c1]
  rfl
/-- The blocks that the loop writes. -/
def mX (b h p z : Nat) (sv0 : Value) (k : Nat) : Prop := k = b ∨ k = h ∨ nX p z sv0 k
/-- What does not turn in the loop. -/
structure MFix (wL : World) (b p z h : Nat) (sv0 : Value) : Prop where
  bl : b < wL.heap.size
  pl : p < wL.heap.size
  zl : z < wL.heap.size
  hl : h < wL.heap.size
  sl : ∀ k, sv0.ownBlock = some k → k < wL.heap.size ∧ k ≠ b ∧ k ≠ 0
  bp : b ≠ p
  bz : b ≠ z
  bh : b ≠ h
  b0 : b ≠ 0
  p0 : p ≠ 0
  z0 : z ≠ 0
  h0 : h ≠ 0
  hp : h ≠ p
theorem PS.keepAll {w w' : World} {p z h n cap pos st : Nat} {rf sv : Value} {nc : Bool} {xs : List Int} {tail : List Value} {S : List Int} (x : PS w p z h n cap pos st rf sv nc xs tail S) (hp : w'.heap[p]? = w.heap[p]?) (hz : w'.heap[z]? = w.heap[z]?) (hh : w'.heap[h]? = w.heap[h]?) (hs : ∀ k, sv.ownBlock = some k → w'.heap[k]? = w.heap[k]?) : PS w' p z h n cap pos st rf sv nc xs tail S :=
  ⟨⟨x.lex.hp.keep hp, x.lex.hi.keep hz, x.lex.hb.keep hh, x.lex.hn, x.lex.hs, x.lex.hpz, x.lex.hhz⟩, x.stk.keep hs, x.own⟩
/-- The parser over bytes that have turned behind it. -/
theorem PS.bytes {w w' : World} {p z h n cap pos st : Nat} {rf sv : Value} {nc : Bool} {xs xs' : List Int} {tail : List Value} {S : List Int} (x : PS w p z h n cap pos st rf sv nc xs tail S) (hon : Onl h w w') (hb : Buf w' h xs' tail) (hl : xs'.length = xs.length) (hhp : h ≠ p) : PS w' p z h n cap pos st rf sv nc xs' tail S := by
  have hk : ∀ k, k < w.heap.size → k ≠ h → w'.heap[k]? = w.heap[k]? := fun k hk hn => hon.1.block k hk (fun e => hn (by injection e))
  refine ⟨⟨x.lex.hp.keep (hk p x.lex.hp.lt (fun e => hhp e.symm)), x.lex.hi.keep (hk z x.lex.hi.lt (fun e => x.lex.hhz e.symm)), hb, by rw [hl]; exact x.lex.hn, x.lex.hs, x.lex.hpz, x.lex.hhz⟩, x.stk.keep fun k e => ?_, x.own⟩
  have h9 := x.own k e
  have hlt : k < w.heap.size := (x.stk.lt k e).2
  exact hk k hlt h9.2.2
/-- The parser's blocks, and the buffer's, are not one. -/
theorem PS.notb {w : World} {p z h n cap pos st : Nat} {rf sv : Value} {nc : Bool} {xs : List Int} {tail : List Value} {S : List Int} (x : PS w p z h n cap pos st rf sv nc xs tail S) {b : Nat} {r' : Option Nat} {done : List Int} (ho : OutB w b r' done) : b ≠ p ∧ b ≠ z ∧ b ≠ h ∧ (∀ k, sv.ownBlock = some k → k ≠ b) ∧ (∀ g, r' = some g → g ≠ p ∧ g ≠ z ∧ ∀ k, sv.ownBlock = some k → k ≠ g) := by
  have hbb : ∃ cur, w.heap[b]? = some (.cells cur 61 (0, 0)) := by
    obtain ⟨lr, h1 | ⟨g, cap, tl, _, h1, _⟩⟩ := ho
    · exact ⟨_, h1.2.2⟩
    · exact ⟨_, h1⟩
  obtain ⟨cur, hcur⟩ := hbb
  have hne : ∀ (k : Nat) (cu : Array Value) (e : TypeId), w.heap[k]? = some (.cells cu e (0, 0)) → e ≠ 61 → b ≠ k := by
    rintro k cu e h1 h2 rfl
    rw [hcur] at h1
    injection h1 with h1
    injection h1 with _ h1 _
    exact h2 h1.symm
  have hsvb : ∀ k, sv.ownBlock = some k → ∃ cu, w.heap[k]? = some (.cells cu 87 (0, 0)) := by
    intro k hk
    rcases x.stk.2 with ⟨h1, _⟩ | ⟨g, cap, cu, h1, _, h2, _⟩
    · rw [h1] at hk; simp [Value.ownBlock] at hk
    · rw [h1] at hk
      have e1 : g = k := by
        have e2 : some g = some k := hk
        injection e2
      subst e1
      exact ⟨cu, h2⟩
  refine ⟨hne p _ _ x.lex.hp (by decide), hne z _ _ x.lex.hi (by decide), hne h _ _ x.lex.hb (by decide), fun k hk => ?_, ?_⟩
  · obtain ⟨cu, h1⟩ := hsvb k hk
    exact fun e => hne k _ _ h1 (by decide) e.symm
  · rintro g hg
    obtain ⟨lr, h1 | ⟨g', cap', tl, hg', _, h1, _⟩⟩ := ho
    · rw [h1.1] at hg; cases hg
    · rw [hg'] at hg
      injection hg with hg
      subst hg
      refine ⟨buf_ne h1 x.lex.hp (by decide), buf_ne h1 x.lex.hi (by decide), fun k hk => ?_⟩
      obtain ⟨cu, h2⟩ := hsvb k hk
      exact fun e => buf_ne h1 h2 (by decide) e.symm

theorem OutB.keep {w w' : World} {b : Nat} {r' : Option Nat} {done : List Int} (ho : OutB w b r' done) (hb : w'.heap[b]? = w.heap[b]?) (hr : ∀ g, r' = some g → w'.heap[g]? = w.heap[g]?) : OutB w' b r' done := by
  obtain ⟨lr, ⟨h1, h2, h3⟩ | ⟨g, cap, tl, hg, h1, h2, h3⟩⟩ := ho
  · exact ⟨lr, .inl ⟨h1, h2, hb.trans h3⟩⟩
  · exact ⟨lr, .inr ⟨g, cap, tl, hg, hb.trans h1, h2.keep (hr g hg), h3⟩⟩
theorem OutB.lt {w : World} {b : Nat} {r' : Option Nat} {done : List Int} (ho : OutB w b r' done) : b < w.heap.size ∧ ∀ g, r' = some g → g < w.heap.size := by
  obtain ⟨lr, ⟨h1, h2, h3⟩ | ⟨g, cap, tl, hg, h1, h2, h3⟩⟩ := ho
  · exact ⟨(Array.getElem?_eq_some_iff.1 h3).1, fun g e => by rw [h1] at e; cases e⟩
  · refine ⟨(Array.getElem?_eq_some_iff.1 h1).1, fun g' e => ?_⟩
    rw [hg] at e
    injection e with e
    subst e
    exact h2.lt
/-- The core of what the loop holds. -/
structure MC (wL : World) (b p z h N cap : Nat) (rf sv0 : Value) (tail : List Value) (w : World) (S : List Int) (nc : Bool) (pos st : Nat) (sv : Value) (xs done : List Int) (r' : Option Nat) : Prop where
  ps : PS w p z h N cap pos st rf sv nc xs tail S
  out : OutB w b r' done
  chg : Chg wL w (mX b h p z sv0)
  svf : sv.ownBlock = sv0.ownBlock ∨ ∀ k, sv.ownBlock = some k → wL.heap.size ≤ k
  rff : ∀ k, r' = some k → wL.heap.size ≤ k
section
variable {wL w w' : World} {b p z h N cap pos st : Nat} {rf sv0 sv : Value} {tail : List Value} {S xs done cs : List Int} {nc : Bool} {r' r2 : Option Nat}
theorem PS.blk (x : PS w p z h N cap pos st rf sv nc xs tail S) : p < w.heap.size ∧ z < w.heap.size ∧ h < w.heap.size ∧ ∀ k, sv.ownBlock = some k → k < w.heap.size :=
  ⟨x.lex.hp.lt, x.lex.hi.lt, x.lex.hb.lt, fun k hk => (x.stk.lt k hk).2⟩
theorem MC.grown (m : MC wL b p z h N cap rf sv0 tail w S nc pos st sv xs done r') (hg : w.grownBy w' none) : MC wL b p z h N cap rf sv0 tail w' S nc pos st sv xs done r' := by
  obtain ⟨q1, q2, q3, q4⟩ := m.ps.blk
  obtain ⟨o1, o2⟩ := m.out.lt
  exact ⟨m.ps.keepAll (hg.block p q1 (by simp)) (hg.block z q2 (by simp)) (hg.block h q3 (by simp)) (fun k hk => hg.block k (q4 k hk) (by simp)), m.out.keep (hg.block b o1 (by simp)) (fun g e => hg.block g (o2 g e) (by simp)), m.chg.trans (Chg.of (X := fun _ => False) hg (fun k e => by cases e)) (fun _ _ h => h.elim), m.svf, m.rff⟩
theorem MC.drewN (m : MC wL b p z h N cap rf sv0 tail w S nc pos st sv xs done r') (k : Nat) : MC wL b p z h N cap rf sv0 tail (w.drewN k) S nc pos st sv xs done r' := m.grown ⟨rfl, rfl, rfl, Nat.le_refl _, fun _ _ _ => rfl⟩
theorem MC.write (m : MC wL b p z h N cap rf sv0 tail w S nc pos st sv xs done r') (fx : MFix wL b p z h sv0) (ho : OutB w' b r2 (done ++ cs)) (hc : Chg w w' (fun k => k = b ∨ r' = some k)) (hr : r2 = r' ∨ ∃ k, r2 = some k ∧ w.heap.size ≤ k) : MC wL b p z h N cap rf sv0 tail w' S nc pos st sv xs (done ++ cs) r2 := by
  obtain ⟨q1, q2, q3, q4⟩ := m.ps.blk
  obtain ⟨n1, n2, n3, n4, n5⟩ := m.ps.notb m.out
  refine ⟨m.ps.keepAll (hc.block p q1 (fun e => e.elim (fun e => n1 e.symm) (fun e => (n5 p e).1 rfl))) (hc.block z q2 (fun e => e.elim (fun e => n2 e.symm) (fun e => (n5 z e).2.1 rfl))) (hc.block h q3 (fun e => e.elim (fun e => n3 e.symm) (fun e => by have := m.rff h e; have := fx.hl; omega))) (fun k hk => hc.block k (q4 k hk) (fun e => e.elim (fun e => n4 k hk e) (fun e => (n5 k e).2.2 k hk rfl))), ho, m.chg.trans hc (fun k hk e => e.elim .inl (fun e => by have := m.rff k e; omega)), m.svf, fun k e => ?_⟩
  rcases hr with hr | ⟨k2, hr, hk2⟩
  · exact m.rff k (by rw [← hr]; exact e)
  · rw [hr] at e
    injection e with e
    have := m.chg.size
    omega
theorem MC.next (m : MC wL b p z h N cap rf sv0 tail w S nc pos st sv xs done r') (fx : MFix wL b p z h sv0) {pos' st' : Nat} {sv' : Value} {nc' : Bool} {S' : List Int} (hp : PS w' p z h N cap pos' st' rf sv' nc' xs tail S') (hc : Chg w w' (nX p z sv)) (hs : sv'.ownBlock = sv.ownBlock ∨ ∀ k, sv'.ownBlock = some k → w.heap.size ≤ k) : MC wL b p z h N cap rf sv0 tail w' S' nc' pos' st' sv' xs done r' := by
  obtain ⟨o1, o2⟩ := m.out.lt
  obtain ⟨n1, n2, n3, n4, n5⟩ := m.ps.notb m.out
  refine ⟨hp, m.out.keep (hc.block b o1 (fun e => ?_)) (fun g e => hc.block g (o2 g e) (fun q => ?_)), m.chg.trans hc (fun k hk e => ?_), ?_, m.rff⟩
  · rcases e with e | e | e
    · exact n2 e
    · exact n1 e
    · exact n4 b e rfl
  · rcases q with q | q | q
    · exact (n5 g e).2.1 q
    · exact (n5 g e).1 q
    · exact (n5 g e).2.2 g q rfl
  · rcases e with e | e | e
    · exact .inr (.inr (.inl e))
    · exact .inr (.inr (.inr (.inl e)))
    · rcases m.svf with q | q
      · exact .inr (.inr (.inr (.inr (by rw [← q]; exact e))))
      · have := q k e
        omega
  · have hsz := m.chg.size
    rcases hs with hs | hs
    · rcases m.svf with q | q
      · exact .inl (hs.trans q)
      · exact .inr (fun k e => q k (by rw [← hs]; exact e))
    · exact .inr (fun k e => Nat.le_trans hsz (hs k e))
theorem MC.bytes (m : MC wL b p z h N cap rf sv0 tail w S nc pos st sv xs done r') (fx : MFix wL b p z h sv0) {xs' : List Int} (hon : Onl h w w') (hb : Buf w' h xs' tail) (hl : xs'.length = xs.length) : MC wL b p z h N cap rf sv0 tail w' S nc pos st sv xs' done r' := by
  obtain ⟨o1, o2⟩ := m.out.lt
  refine ⟨m.ps.bytes hon hb hl fx.hp, m.out.keep (hon.1.block b o1 (fun e => fx.bh (by injection e))) (fun g e => hon.1.block g (o2 g e) (fun q => ?_)), m.chg.trans (Chg.of (X := fun k => k = h) hon.1 (fun k e => by injection e with e; exact e.symm)) (fun k _ e => .inr (.inl e)), m.svf, m.rff⟩
  have := m.rff g e
  have := fx.hl
  injection q with q
  omega
/-- The cell of io.EOF, and the minifier's, are as they were. -/
theorem MC.far (m : MC wL b p z h N cap rf sv0 tail w S nc pos st sv xs done r') {k : Nat} (hk : k < wL.heap.size) (hn : ¬ mX b h p z sv0 k) : w.heap[k]? = wL.heap[k]? := m.chg.block k hk hn
end

end Go.Proofs.YthoekplablhgfaaGreatDoor
