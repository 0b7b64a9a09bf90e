/-
  What the parser's Next does at each token of a text that is left to be read.
-/
import Derived.Test.YthoekplablhgfaaGreatDoorMSame
import Derived.Test.YthoekplablhgfaaGreatDoorMEnd
import Derived.Test.YthoekplablhgfaaGreatDoorJNextB
import Derived.Test.YthoekplablhgfaaGreatDoorJNextC
namespace Go.Proofs.YthoekplablhgfaaGreatDoor
open Go.RowKit
set_option linter.unusedVariables false

/-- A token, with what is left behind it. -/
def TokPost (keep : Bool) (p z h n cap : Nat) (rf sv : Value) (xs : List Int) (tail : List Value) (skip : Bool) (top : Int) (rest em : List Int) (w : World) (e : Ending) (w' : World) : Prop :=
  ∃ (gt : Int) (q len cx : Nat) (pos' : Nat) (sv' : Value) (nc' : Bool) (S' : List Int) (top' : Int) (t u rest' em' : List Int),
    e = .returned (.tuple #[.int .u32 gt, .slice (some ⟨h, q, none⟩) len cx]) ∧ (gt = 2 ∨ gt = 3 ∨ gt = 4 ∨ gt = 5 ∨ gt = 6 ∨ gt = 7 ∨ gt = 8) ∧ PS w' p z h n cap pos' pos' rf sv' nc' xs tail (S' ++ [top']) ∧ Chg w w' (nX p z sv) ∧
    (sv'.ownBlock = sv.ownBlock ∨ ∀ k, sv'.ownBlock = some k → w.heap.size ≤ k) ∧ t.length = len ∧ 1 ≤ len ∧ len ≤ 60 ∧ len ≤ cx ∧ LiesL xs q t ∧ q + len ≤ pos' ∧ LiesL xs pos' rest' ∧ pos' + rest'.length = n ∧ rest'.length < rest.length ∧ (∃ k, rest' = rest.drop k) ∧
    Rem keep S' top' nc' (decide (gt = 5 ∨ gt = 7)) rest' em' ∧ em = (if gt = 6 ∨ gt = 8 then [] else sep skip top) ++ (u ++ em') ∧
    (((t.getD 0 0 = 45 ∨ (48 ≤ t.getD 0 0 ∧ t.getD 0 0 ≤ 57)) ∧ NumTok keep t u) ∨ (¬ (t.getD 0 0 = 45 ∨ (48 ≤ t.getD 0 0 ∧ t.getD 0 0 ≤ 57)) ∧ u = t))
def EndPost (p z h n cap : Nat) (rf sv : Value) (xs : List Int) (tail : List Value) (S : List Int) (em : List Int) (w : World) (e : Ending) (w' : World) : Prop :=
  e = .returned (.tuple #[.int .u32 0, .slice none 0 0]) ∧ S = [] ∧ em = [] ∧ ∃ pos' sv', PS w' p z h n cap pos' pos' rf sv' true xs tail [0] ∧ pos' + 1 = n ∧ Chg w w' (nX p z sv) ∧ (sv'.ownBlock = sv.ownBlock ∨ ∀ k, sv'.ownBlock = some k → w.heap.size ≤ k)
theorem aft_or (t2 : Int) : (t2 = 2 ∧ aft t2 = 1) ∨ (t2 ≠ 2 ∧ aft t2 = t2) := by
  unfold aft
  by_cases h : t2 = 2
  · exact .inl ⟨h, by rw [if_pos h]⟩
  · exact .inr ⟨h, by rw [if_neg h]⟩
/-- The bytes that are left, as a text of their own. -/
theorem rest_bytes {xs rest : List Int} {pos n : Nat} (hl : LiesL xs pos rest) (he : pos + rest.length = n) (hn : xs.length = n) (hb : ∀ c ∈ rest, byteN c) : ∃ s : ByteArray, s.size = n ∧ ∀ k, pos ≤ k → byteAt s k = xs.getD k 0 := by
  have hbb : ∀ c ∈ List.replicate pos (0 : Int) ++ rest, byteN c := by
    intro c hc
    rcases List.mem_append.1 hc with hc | hc
    · rw [List.eq_of_mem_replicate hc]; unfold byteN; omega
    · exact hb c hc
  refine ⟨strOfNums (List.replicate pos 0 ++ rest), by rw [str_size]; simp; omega, fun k hk => ?_⟩
  unfold byteAt
  rw [bytesL_str hbb, getD_append_right' (by simpa using hk), List.length_replicate]
  by_cases h : k - pos < rest.length
  · rw [← hl.2 _ h, show pos + (k - pos) = k from by omega]
  · rw [getD_over (by omega), getD_over (by omega)]
theorem sep_end (gt : Int) (h : gt = 6 ∨ gt = 8) (skip : Bool) (top : Int) : (if gt = 6 ∨ gt = 8 then ([] : List Int) else sep skip top) = [] := if_pos h
theorem sep_not (gt : Int) (h : ¬ (gt = 6 ∨ gt = 8)) (skip : Bool) (top : Int) : (if gt = 6 ∨ gt = 8 then ([] : List Int) else sep skip top) = sep skip top := if_neg h

set_option maxRecDepth 100000 in
theorem next_step (keep : Bool) (p z h n cap pos st : Nat) (rf sv : Value) (nc skip : Bool) (xs : List Int) (tail : List Value) (S : List Int) (top : Int) (rest em : List Int) (a : Addr) (w : World) (x : PS w p z h n cap pos st rf sv nc xs tail (S ++ [top])) (hhp : h ≠ p) (hcap : n ≤ 1000000) (hnc : n ≤ cap)
    (hl : LiesL xs pos rest) (hend : pos + rest.length = n) (hr : Rem keep S top nc skip rest em) (hby : ∀ c ∈ rest, byteN c) (hE : Eof w a) (hE0 : 0 < w.heap.size ∧ ¬ nX p z sv 0) :
    Calls Tryz.prog 36 #[.pointer (some ⟨p, 0, none⟩)] w fun e w' => EndPost p z h n cap rf sv xs tail S em w e w' ∨ TokPost keep p z h n cap rf sv xs tail skip top rest em w e w' := by
  have hxn : xs.length = n := x.lex.hn
  cases hr with
  | @eof _ pre hw =>
    refine (next_eof p z h n cap pos st rf sv true true xs tail [] 0 pre [] w x hhp (by simp) hcap hnc (by omega) (.inl ⟨hw, rfl⟩) hl a rfl rfl (by simp at hend; omega) hE hE0).mono ?_
    rintro e w' ⟨rfl, sv', h1, h2, h3⟩
    exact .inl ⟨rfl, rfl, rfl, _, sv', h1, by simp at hend; omega, h2, h3⟩
  | @arr _ _ _ _ pre rest' em' hS ht h1 hp hr =>
    refine (next_arr p z h n cap pos st rf sv nc false xs tail S top pre rest' w x hhp hS hcap hnc ht hp hl rfl).mono ?_
    rintro e w' ⟨rfl, sv', hps, hc, hs⟩
    have hd := hl.drop
    have hle : pos + (pre.length + (rest'.length + 1)) = n := by simpa using hend
    exact .inr ⟨7, _, 1, 1, _, sv', false, S ++ [top], 3, [91], [91], rest', em', rfl, by omega, hps, hc, hs, rfl, by omega, by omega, by omega, LiesL.left (b := rest') hd, by omega, hd.tail, by omega, by simp; omega, ⟨pre.length + 1, by simp [List.drop_append]⟩, hr, by rw [sep_not _ (by omega)]; simp, .inr ⟨by simp, rfl⟩⟩
  | @obj _ _ _ _ pre rest' em' hS ht h1 hp hr =>
    refine (next_obj p z h n cap pos st rf sv nc false xs tail S top pre rest' w x hhp hS hcap hnc ht hp hl rfl).mono ?_
    rintro e w' ⟨rfl, sv', hps, hc, hs⟩
    have hd := hl.drop
    have hle : pos + (pre.length + (rest'.length + 1)) = n := by simpa using hend
    exact .inr ⟨5, _, 1, 1, _, sv', false, S ++ [top], 1, [123], [123], rest', em', rfl, by omega, hps, hc, hs, rfl, by omega, by omega, by omega, LiesL.left (b := rest') hd, by omega, hd.tail, by omega, by simp; omega, ⟨pre.length + 1, by simp [List.drop_append]⟩, hr, by rw [sep_not _ (by omega)]; simp, .inr ⟨by simp, rfl⟩⟩
  | @arrE S t2 _ nc' _ pre rest' em' hS hp hr =>
    refine (next_arr_end p z h n cap pos st rf sv nc nc' xs tail (S ++ [t2]) 3 pre rest' w x hhp hS hcap hnc (by omega) hp hl S t2 (aft t2) rfl rfl (aft_or t2)).mono ?_
    rintro e w' ⟨rfl, sv', hps, hc, hs⟩
    have hd := hl.drop
    have hle : pos + (pre.length + (rest'.length + 1)) = n := by simpa using hend
    exact .inr ⟨8, _, 1, 1, _, sv', true, S, aft t2, [93], [93], rest', em', rfl, by omega, hps, hc, hs, rfl, by omega, by omega, by omega, LiesL.left (b := rest') hd, by omega, hd.tail, by omega, by simp; omega, ⟨pre.length + 1, by simp [List.drop_append]⟩, hr, by rw [sep_end _ (by omega)]; simp, .inr ⟨by simp, rfl⟩⟩
  | @objE S t2 _ nc' _ pre rest' em' hS hp hr =>
    refine (next_obj_end p z h n cap pos st rf sv nc nc' xs tail (S ++ [t2]) 1 pre rest' w x hhp hS hcap hnc (by omega) hp hl S t2 (aft t2) rfl rfl (aft_or t2)).mono ?_
    rintro e w' ⟨rfl, sv', hps, hc, hs⟩
    have hd := hl.drop
    have hle : pos + (pre.length + (rest'.length + 1)) = n := by simpa using hend
    exact .inr ⟨6, _, 1, 1, _, sv', true, S, aft t2, [125], [125], rest', em', rfl, by omega, hps, hc, hs, rfl, by omega, by omega, by omega, LiesL.left (b := rest') hd, by omega, hd.tail, by omega, by simp; omega, ⟨pre.length + 1, by simp [List.drop_append]⟩, hr, by rw [sep_end _ (by omega)]; simp, .inr ⟨by simp, rfl⟩⟩
  | @str _ _ _ _ pre t rest' em' hS ht h1 hp hj hne hr =>
    have hjl := hj.len
    obtain ⟨us, rfl, hu⟩ := jstr_units hj
    have hle : pos + (pre.length + ((flat us).length + 2 + rest'.length)) = n := by simp at hend; omega
    have hrp : 1 ≤ rest'.length := by
      rcases Nat.eq_zero_or_pos rest'.length with e | e
      · exact absurd (List.eq_nil_of_length_eq_zero e) hne
      · exact e
    have el : pre ++ (34 :: flat us ++ [34] ++ rest') = pre ++ 34 :: (flat us ++ 34 :: rest') := by simp
    have hl2 := hl
    rw [el] at hl
    refine (next_str p z h n cap pos st rf sv nc false xs tail S top pre (flat us ++ 34 :: rest') w x hhp hS hcap hnc ht hp hl us rest' (flat us).length.succ.succ (by omega) (aft top) (aft_or top) h1 rfl hu rfl hne rfl).mono ?_
    rintro e w' ⟨rfl, sv', hps, hc, hs⟩
    have hd := hl2.drop
    have hd2 := hd.drop
    have hlt : (34 :: flat us ++ [34]).length = (flat us).length.succ.succ := by simp
    rw [hlt] at hd2
    exact .inr ⟨4, _, _, _, _, sv', true, S, aft top, 34 :: flat us ++ [34], 34 :: flat us ++ [34], rest', em', rfl, by omega, hps, hc, hs, hlt, by omega, by simp at hjl; omega, Nat.le_refl _, hd.left, Nat.le_refl _, hd2, by omega, by simp; omega, ⟨pre.length + (34 :: flat us ++ [34]).length, by rw [← List.drop_drop]; simp⟩, hr, by rw [sep_not _ (by omega)], .inr ⟨by simp, rfl⟩⟩
  | @num _ _ _ _ pre t t' rest' em' hS ht h1 hp hj hne hst hr =>
    obtain ⟨hnt, htl, _, _⟩ := id hj
    obtain ⟨s, hss, hsb⟩ := rest_bytes hl hend hxn hby
    have hle : pos + (pre.length + (t.length + rest'.length)) = n := by simp at hend; omega
    have hrp : 1 ≤ rest'.length := by
      rcases Nat.eq_zero_or_pos rest'.length with e | e
      · exact absurd (List.eq_nil_of_length_eq_zero e) hne
      · exact e
    have hd := hl.drop
    have hd2 := hd.drop
    have hla : LiesAt s (pos + pre.length) t := ⟨by omega, fun j hj => by rw [hsb _ (by omega)]; exact hd.left.2 j hj⟩
    have hns := num_at hnt hla (by
      rw [hsb _ (by omega)]
      have h9 := hd2.2 0 (by omega)
      rw [Nat.add_zero] at h9
      rw [h9]
      exact hst)
    obtain ⟨c, r, rfl, hc⟩ := num_opens hnt
    have el : pre ++ (c :: r ++ rest') = pre ++ c :: (r ++ rest') := by simp
    rw [el] at hl
    have htl1 : 1 ≤ (c :: r).length := by simp
    refine (next_num p z h n cap pos st rf sv nc false xs tail S top pre (r ++ rest') w x hhp hS hcap hnc ht hp c hl (c :: r).length (by omega) (aft top) (aft_or top) h1 rfl hc s hsb hns htl1 (by omega)).mono ?_
    rintro e w' ⟨rfl, sv', hps, hc2, hs⟩
    exact .inr ⟨3, _, _, _, _, sv', true, S, aft top, c :: r, t', rest', em', rfl, by omega, hps, hc2, hs, rfl, htl1, htl, Nat.le_refl _, hd.left, Nat.le_refl _, hd2, by omega, by simp; omega, ⟨pre.length + (c :: r).length, by rw [← List.drop_drop]; simp⟩, hr, by rw [sep_not _ (by omega)], .inl ⟨by simpa [isDg] using hc, hj⟩⟩
  | @lit _ _ _ _ pre t rest' em' hS ht h1 hp hj hne hr =>
    have hle : pos + (pre.length + (t.length + rest'.length)) = n := by simp at hend; omega
    have hrp : 1 ≤ rest'.length := by
      rcases Nat.eq_zero_or_pos rest'.length with e | e
      · exact absurd (List.eq_nil_of_length_eq_zero e) hne
      · exact e
    have hd := hl.drop
    have hd2 := hd.drop
    obtain ⟨c, r, rfl, hc, hlen⟩ : ∃ c r, t = c :: r ∧ (c = 110 ∨ c = 116 ∨ c = 102) ∧ t.length ≤ 5 := by
      have hj2 := hj
      simp only [jlitL, List.mem_cons, List.not_mem_nil, or_false] at hj2
      rcases hj2 with rfl | rfl | rfl <;> exact ⟨_, _, rfl, by omega, by simp⟩
    have el : pre ++ (c :: r ++ rest') = pre ++ c :: (r ++ rest') := by simp
    rw [el] at hl
    have htl1 : 1 ≤ (c :: r).length := by simp
    refine (next_lit p z h n cap pos st rf sv nc false xs tail S top pre (r ++ rest') w x hhp hS hcap hnc ht hp c hl (c :: r) rest' (c :: r).length (by omega) (aft top) (aft_or top) h1 rfl hj rfl rfl htl1 hc).mono ?_
    rintro e w' ⟨rfl, sv', hps, hc2, hs⟩
    exact .inr ⟨2, _, _, _, _, sv', true, S, aft top, c :: r, c :: r, rest', em', rfl, by omega, hps, hc2, hs, rfl, htl1, by omega, Nat.le_refl _, hd.left, Nat.le_refl _, hd2, by omega, by simp; omega, ⟨pre.length + (c :: r).length, by rw [← List.drop_drop]; simp⟩, hr, by rw [sep_not _ (by omega)], .inr ⟨by simp; omega, rfl⟩⟩
  | @key _ _ _ pre t wk rest' em' hS hp hj hwk hr =>
    have hjl := hj.len
    obtain ⟨us, rfl, hu⟩ := jstr_units hj
    have hle : pos + (pre.length + ((flat us).length + 2 + (wk.length + (rest'.length + 1)))) = n := by simp at hend; omega
    have el : pre ++ (34 :: flat us ++ [34] ++ (wk ++ 58 :: rest')) = pre ++ 34 :: (flat us ++ 34 :: (wk ++ 58 :: rest')) := by simp
    have hd := hl.drop
    have hd2 := hd.drop
    have hd3 := hd2.drop
    rw [el] at hl
    refine (next_key p z h n cap pos st rf sv nc false xs tail S 1 pre _ w x hhp hS hcap hnc (by omega) hp hl us wk rest' (flat us).length.succ.succ hu hwk rfl rfl rfl rfl).mono ?_
    rintro e w' ⟨rfl, sv', hps, hc, hs⟩
    have hlt : (34 :: flat us ++ [34]).length = (flat us).length.succ.succ := by simp
    rw [hlt] at hd2 hd3
    exact .inr ⟨4, _, _, _, _, sv', false, S, 2, 34 :: flat us ++ [34], 34 :: flat us ++ [34], rest', em', rfl, by omega, hps, hc, hs, hlt, by omega, by simp at hjl; omega, by omega, hd.left, by omega, hd3.tail, by omega, by simp; omega, ⟨pre.length + ((34 :: flat us ++ [34]).length + (wk.length + 1)), by rw [← List.drop_drop, ← List.drop_drop, ← List.drop_drop]; simp⟩, hr, by rw [sep_not _ (by omega)], .inr ⟨by simp, rfl⟩⟩

end Go.Proofs.YthoekplablhgfaaGreatDoor
