/-
  laws.FnJSON holds: for every input it returns true and leaves what it was handed. The card (FnJSONCardSaid) ties the listed variables (io.EOF alone is read) to the program's text.
-/
import Derived.Test.YthoekplablhgfaaGreatDoorTie
import Derived.Test.YthoekplablhgfaaGreatDoorCards
import Derived.Test.YthoekplablhgfaaGreatDoorJFn
import Derived.WalkKit
import Derived.ProofKit
import Derived.OpenShut
import Derived.ChangeOld
import Derived.Below
import Derived.SevenTiedAt
import Derived.LaidOnce
import Derived.LaidHandle
import Derived.LaidLaws
import Derived.Lib.LaidTab
import Derived.LaidMore
import Derived.Stop.LaidErr

namespace Go.Proofs.YthoekplablhgfaaGreatDoor
open Go.ChangeShapes Go.WideShapes Go.ChangeAt Go.RowKit
set_option linter.unusedVariables false

theorem own : ownKnob Tryz.prog.godebug = none := by kernel_rfl
theorem laidOut : laidOutB Tryz.prog = true := by kernel_rfl
theorem eofG : Tryz.prog.globalNamed "io.EOF" = some 0 := by kernel_rfl
theorem eofT : (Tryz.prog.globals[0]?).map (·.type) = some 46 := by kernel_rfl
theorem star : "*" ++ "errors.errorString" = "*errors.errorString" := by decide
theorem eofRow (u : TypeId) (h : Tryz.prog.typeName? 3 u = some "*errors.errorString") : u = 182 :=
  typeName_ptr_named (nm := "errors.errorString") (by rw [star]; kernel_rfl) (by kernel_rfl) (by decide) u (by rw [star]; exact h)
theorem esCells : Tryz.prog.cellsOf 225 = 1 := by kernel_rfl
theorem stCells : Tryz.prog.cellsOf 9 = 1 := by kernel_rfl

abbrev laid1 : List (String × DataW Unit) := [("math/bits.deBruijn32tab", Rows.laid_math_bits_deBruijn32tab), ("math/bits.deBruijn64tab", Rows.laid_math_bits_deBruijn64tab), ("internal/strconv.uint64pow10", Rows.laid_internal_strconv_uint64pow10), ("io.EOF", Rows.laid_io_EOF), ("unicode.properties", Rows.laid_unicode_properties)]
/-- What the row's condition gives the walk. -/
theorem eof_of_laid {W : World} (h : laidMet Tryz.prog laid1 W) : ∃ a, Eof W a := by
  have h1 : laidMet Tryz.prog [("io.EOF", Rows.laid_io_EOF), ("unicode.properties", Rows.laid_unicode_properties)] W := h.tail.tail.tail
  obtain ⟨a, s, hv, _⟩ := laid_sentinel (nm := "*errors.errorString") (text := [69, 79, 70]) h1 eofG eofT Tryz.underlying46 eofRow Tryz.underlying182 Tryz.underlying225 rfl rfl Tryz.underlying9 esCells stCells
  refine ⟨a, ?_⟩
  have hcell := World.var?_cell eofG hv 0
  unfold Eof
  rw [hcell]
  rfl

def IsRow (k : IntKind) (w : World) (a : Option Addr) (len cap : Nat) (zs : List Int) : Prop :=
  (a = none ∧ len = 0 ∧ cap = 0 ∧ zs = []) ∨
  ∃ x, a = some x ∧ (0 < cap → x.block < w.heap.size) ∧ len ≤ cap ∧ cap ≤ maxLen ∧ zs.length = cap ∧ (∀ i, i < zs.length → w.cell? (x.add i) = some (.int k (zs.getD i 0)))
theorem IsRow.ints {w : World} {a : Option Addr} {len cap : Nat} {zs : List Int} (h : IsRow .i64 w a len cap zs) : RInts w w.heap.size a len (zs.take len) ∧ len ≤ cap ∧ cap ≤ 9223372036854775807 := by
  rcases h with ⟨rfl, rfl, rfl, rfl⟩ | ⟨x, rfl, hx, h1, h2, h3, h4⟩
  · exact ⟨⟨rfl, by omega, fun h => by omega⟩, by omega, by omega⟩
  · unfold maxLen at h2
    refine ⟨⟨by rw [List.length_take]; omega, by omega, fun _ => ⟨x, rfl, hx (by omega), fun j hj => ?_⟩⟩, h1, h2⟩
    rw [h4 j (by omega), List.getD_eq_getElem?_getD, List.getD_eq_getElem?_getD, List.getElem?_take, if_pos hj]

theorem block_of_cell0 {w : World} {x : Addr} {v : Value} (h : w.cell? (x.add 0) = some v) : x.block < w.heap.size := by
  have e : (x.add 0) = x := by unfold Addr.add; simp
  rw [e] at h
  exact World.block_lt_of_cell? w x h

theorem door_met (os : Os) (args : Array Value) : laidMet Tryz.prog laid1 ((World.doorLaid Tryz.prog 86 os).forCall (fun _ _ => 0) ⟨#[], args, []⟩).memory :=
  laidMet_of_run' 8 (by kernel_rfl) (by kernel_rfl)

set_option maxRecDepth 100000 in
theorem lifted (os : Os) (started : os.Started) (H : Type) (enc : TypeId × Value → H) :
    ReturnsInHanded {} Tryz.checked os 3 .any (fun w args => (Rows.fnJSONSpec.pre enc Tryz.prog Tryz.f3 [] false w args ∧ laidMet Tryz.prog laid1 w) ∧ sizedMet enc Tryz.prog Tryz.f3 (OpenSpec.ofChange Rows.fnJSONSpec) false w args)
      (Rows.fnJSONSpec.post enc Tryz.prog Tryz.f3 false true false false) := by
  refine returnsInHanded_of_change_and (C := Tryz.checked) (X := fun w _ => laidMet Tryz.prog laid1 w) (fun _ _ _ hh h => h.of_heap hh) own started (by kernel_rfl) Tryz.func3
    (ChangeSpec.witness_shaped (enc := enc) (C := Tryz.checked) (os := os) (X := fun w _ => laidMet Tryz.prog laid1 w) false (World.doorLaid Tryz.prog 86 os) #[.slice none 0 0, .slice none 0 0, .bool false] 8 rfl (World.shaped_of_RefB (by kernel_rfl) (by kernel_rfl)) (by kernel_rfl) (by kernel_rfl) (by kernel_rfl) (door_met os _)) ?_
  intro W base args ds gs before hval0 hW _ _ hL _
  have hval : ∀ (j : Nat) t v, Tryz.f3.params[j]? = some t → args[j]? = some v → Value.okWide Tryz.prog W .any base t v := hval0
  have hW' := hW
  obtain ⟨p, q, hA0, hV, rfl, hfz, hnd⟩ := hW
  have hA : DataW.TrodAll enc Tryz.prog W 0 (fun _ => true) true Tryz.f3.params.toList args.toList ds p := hA0
  rw [Tryz.params3] at hA hval
  obtain ⟨v0, vs0, d0, ds0, p0, q0, hargs, rfl, rfl, h0, r0⟩ := trodAll_cons hA
  obtain ⟨v1, vs1, d1, ds1, p1, q1, rfl, rfl, rfl, h1, r1⟩ := trodAll_cons r0
  obtain ⟨v2, vs2, d2, ds2, p2, q2, rfl, rfl, rfl, h2, r2⟩ := trodAll_cons r1
  obtain ⟨rfl, rfl, rfl⟩ := trodAll_nil r2
  obtain rfl : args = #[v0, v1, v2] := by cases args; simp_all
  obtain ⟨rfl, rfl⟩ := trodVars_none hV
  obtain ⟨a0, len0, cap0, rfl⟩ := okWide_slice Tryz.underlying22 (hval 0 22 v0 rfl rfl)
  have k0 := h0
  have lt0 : ∀ x ∈ p0, x.block < W.heap.size := by obtain ⟨m, hm⟩ := k0; exact DataW.trod_lt m _ _ _ hm
  obtain ⟨z0, w0⟩ : ∃ zs, IsRow .i64 W a0 len0 cap0 zs := by
    obtain ⟨fuel, hf⟩ := h0
    rcases open_ints Tryz.underlying22 Tryz.underlying3 (by kernel_rfl) hf with ⟨hcs, _⟩ | ⟨x, l, c, zs, hcs, _, hl, hm, hz, _, hcell, hwz⟩
    · simp [Value.cells] at hcs
      obtain ⟨rfl, rfl, rfl⟩ := hcs
      exact ⟨[], .inl ⟨rfl, rfl, rfl, rfl⟩⟩
    · simp [Value.cells] at hcs
      obtain ⟨rfl, rfl, rfl⟩ := hcs
      exact ⟨zs, .inr ⟨_, rfl, fun hp => block_of_cell0 (hcell 0 (by have : zs.length = cap0 := by simpa using hz
                                                                     omega)), hl, hm, by simpa using hz, hcell⟩⟩
  obtain ⟨a1, len1, cap1, rfl⟩ := okWide_slice Tryz.underlying22 (hval 1 22 v1 rfl rfl)
  have k1 := h1
  have lt1 : ∀ x ∈ p1, x.block < W.heap.size := by obtain ⟨m, hm⟩ := k1; exact DataW.trod_lt m _ _ _ hm
  obtain ⟨z1, w1⟩ : ∃ zs, IsRow .i64 W a1 len1 cap1 zs := by
    obtain ⟨fuel, hf⟩ := h1
    rcases open_ints Tryz.underlying22 Tryz.underlying3 (by kernel_rfl) hf with ⟨hcs, _⟩ | ⟨x, l, c, zs, hcs, _, hl, hm, hz, _, hcell, hwz⟩
    · simp [Value.cells] at hcs
      obtain ⟨rfl, rfl, rfl⟩ := hcs
      exact ⟨[], .inl ⟨rfl, rfl, rfl, rfl⟩⟩
    · simp [Value.cells] at hcs
      obtain ⟨rfl, rfl, rfl⟩ := hcs
      exact ⟨zs, .inr ⟨_, rfl, fun hp => block_of_cell0 (hcell 0 (by have : zs.length = cap1 := by simpa using hz
                                                                     omega)), hl, hm, by simpa using hz, hcell⟩⟩
  have k2 := h2
  have lt2 : ∀ x ∈ p2, x.block < W.heap.size := by obtain ⟨m, hm⟩ := k2; exact DataW.trod_lt m _ _ _ hm
  obtain ⟨kb, rfl, _, _⟩ := open_bool Tryz.underlying4 (hval 2 4 v2 rfl rfl) h2
  clear hA0 hval0
  obtain ⟨q0', c0', m0'⟩ := w0.ints
  obtain ⟨q1', c1', m1'⟩ := w1.ints
  obtain ⟨ae, hae⟩ := eof_of_laid hL
  refine (FnJSON_any a0 a1 len0 cap0 len1 cap1 _ _ kb ae W q0' q1' c0' c1' m0' m1' hae).mono fun e W' ⟨he, bel⟩ => ?_
  subst he
  exact ⟨_, rfl, _, _, _, [], _, [], hW', trodAll_mk1 (shut_bool Tryz.underlying4 _), (trodAll_cons_mk (Below.trod laidOut (by kernel_rfl) (of_decide_eq_true (by kernel_rfl)) k0 bel lt0) (trodAll_cons_mk (Below.trod laidOut (by kernel_rfl) (of_decide_eq_true (by kernel_rfl)) k1 bel lt1) (trodAll_cons_mk (Below.trod laidOut (by kernel_rfl) (of_decide_eq_true (by kernel_rfl)) k2 bel lt2) trodAll_mk0))), rfl, bel.frame _, fun h => by cases h⟩

theorem row_holds : Rows.FnJSONSaid :=
  OpenClaim.holds_of_wide 3 Tryz.f3 rfl rfl rfl rfl rfl rfl rfl ⟨rfl, rfl, rfl, rfl, rfl⟩ rfl rfl rfl rfl rfl (by kernel_rfl) Tryz.func3 (by kernel_rfl)
    (of_decide_eq_true (by kernel_rfl)) (by unfold Func.isWrapper; first | (rw [if_pos (by decide +kernel)]; kernel_rfl) | (rw [if_neg (by decide +kernel)]; exact ⟨rfl, rfl⟩))
    (fun os started H enc _ => lifted os started H enc)

end Go.Proofs.YthoekplablhgfaaGreatDoor
