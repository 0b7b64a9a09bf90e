/-
  The contracts of NewInputBytes, NewInput and NewParser, and of the deferred Restore.
-/
import Derived.Test.YthoekplablhgfaaGreatDoorJAll0
import Derived.Defers
import Derived.Laws.EntriesVeiled
namespace Go.Proofs.YthoekplablhgfaaGreatDoor
open Go.RowKit
set_option linter.unusedVariables false

/-- What lies in z.restore: nothing, or what puts the byte behind the text back. -/
def RestOk (w : World) (h z n : Nat) (rf : Value) (lo : Nat) : Prop :=
  rf = .nilFunc ∨ ∃ pc pb pn cap v, rf = .func (.func 65) #[] #[.pointer (some ⟨pc, 0, none⟩), .pointer (some ⟨pb, 0, none⟩), .pointer (some ⟨pn, 0, none⟩)] ∧
    w.cell? ⟨pc, 0, none⟩ = some (.int .u8 v) ∧ w.cell? ⟨pb, 0, none⟩ = some (.slice (some ⟨h, 0, none⟩) (n + 1) cap) ∧ w.cell? ⟨pn, 0, none⟩ = some (.int .i64 (n : Nat)) ∧ lo ≤ pc ∧ lo ≤ pb ∧ lo ≤ pn ∧ n + 1 ≤ cap ∧ cap ≤ maxLen ∧ (pc ≠ h ∧ pb ≠ h ∧ pn ≠ h ∧ pc ≠ z ∧ pb ≠ z ∧ pn ≠ z)

/-- append onto a row of bytes that has no room. -/
theorem wpList_grow {w : World} {ops : Array Oper} {rest : List Oper} {o : Oper} {a : Act} {Q : Exit → Act → World → Prop} (hgd : o.guard = none) (s x : Operand)
    (ho : o.op = .call { callee := .builtin .append, args := #[s, x], argTypes := #[44, 44] }) (g l c m c2 l2 : Nat) (ad : Addr) (xs cs : List Int) (tl : List Value) (hs : a.eval s = .slice (some ⟨g, 0, none⟩) l c) (hx : a.eval x = .slice (some ad) m c2)
    (hb : Buf w g xs tl) (hl : xs.length = l) (hm : cs.length = m) (hsrc : SrcL w ad cs) (hroom : c < l + m) (hlim : l + m ≤ 200000) (hl2 : l + m = l2)
    (h : ∀ c3 Z, l2 ≤ c3 → c3 ≤ maxLen → wpList Tryz.prog ops Q rest (a.put o.dst (.slice (some ⟨w.heap.size, 0, none⟩) l2 c3)) (w.drew.alloc (.cells ((xs ++ cs).map (Value.int .u8) ++ Z).toArray 5))) : wpList Tryz.prog ops Q (o :: rest) a w := by
  obtain ⟨iu, hiu, hu0, hu1, hu2⟩ := info_parts info_u8'
  subst hl2
  have hold : ∀ j v, (xs.map (Value.int .u8))[j]? = some v → w.cell? ((⟨g, 0, none⟩ : Addr).add j) = some v := srcL_buf hb
  have hr := run_append_grow (P := Tryz.prog) w 44 o.type 5 iu (.int .u8 0) Tryz.underlying44 hiu hu0 ⟨g, 0, none⟩ l c (xs.map (Value.int .u8)) (by rw [hu1, List.length_map, hl, Nat.mul_one]) hold ad m c2 (cs.map (Value.int .u8)) (by rw [hu1, List.length_map, hm, Nat.mul_one]) hsrc hroom (by omega) (growslice_fits hroom (by rw [hu2]; omega))
  refine Lib.wpList_append_run _ hgd s x _ _ ho _ _ hs hx _ _ hr ?_
  have hge := grownCap_ge w (l + m) c 5
  have hle := grownCap_le_maxLen w (l + m) c 5 (by unfold maxLen; omega)
  have h9 := h (grownCap w (l + m) c 5) (Builtin.zeroCells (Value.int .u8 0).cells (grownCap w (l + m) c 5 - (l + m))).toList hge hle
  have e : ((xs ++ cs).map (Value.int .u8) ++ (Builtin.zeroCells (Value.int .u8 0).cells (grownCap w (l + m) c 5 - (l + m))).toList).toArray = (xs.map (Value.int .u8)).toArray ++ (cs.map (Value.int .u8)).toArray ++ Builtin.zeroCells (Value.int .u8 0).cells (grownCap w (l + m) c 5 - (l + m)) := by
    apply Array.ext'
    simp
  rw [e] at h9
  exact h9

set_option maxRecDepth 100000 in
set_option maxHeartbeats 3200000 in
theorem NewInputBytes_at (h n cap : Nat) (xs : List Int) (tl : List Value) (w : World) (hb : Buf w h xs tl) (hn : xs.length = n) (hn1 : 1 ≤ n) (hcap : n + tl.length = cap) (hz : Zt tl) (hs : n ≤ 50000) (hcm : cap ≤ maxLen) :
    Calls Tryz.prog 49 #[.slice (some ⟨h, 0, none⟩) n cap] w fun e w' => ∃ z h' cap' rf tl', e = .returned (.pointer (some ⟨z, 0, none⟩)) ∧ Inp w' z h' (n + 1) cap' 0 0 rf ∧ Buf w' h' (xs ++ [0]) tl' ∧ n + 1 ≤ cap' ∧ RestOk w' h' z n rf w.heap.size ∧
      w.heap.size ≤ z ∧ z < w'.heap.size ∧ (h' = h ∨ w.heap.size ≤ h') ∧ h' < w'.heap.size ∧ h' ≠ z ∧ Chg w w' (fun k => k = h) := by
  have hmf : ∀ (fn : Fn) (first cap : Array Value) (w : World), (Instr.makeFunc fn first cap).run Tryz.prog w = .ok (.func fn first cap) w := fun _ _ _ _ => rfl
  have HB := Lib.hid hb
  have hlt := hb.lt
  by_cases hroom : n < cap
  · have hc0 := hb.cell
    obtain ⟨n1, hn1e⟩ : ∃ n1, n + 1 = n1 := ⟨_, rfl⟩
    have e1 : IntKind.i64.wrap (((n : Nat) : Int) + 1) = ((n1 : Nat) : Int) := by rw [IntWalk.i64_in _ (by omega)]; omega
    have e2 : ((n : Nat) : Int) + 1 = ((n1 : Nat) : Int) := by omega
    have i1 : ((n1 : Nat) : Int) ≤ ((cap : Nat) : Int) := by omega
    have i2 : ((n : Nat) : Int) < ((n1 : Nat) : Int) := by omega
    have i3 : n < n1 := by omega
    have HN1 := Lib.hid hn1e
    have hcn : w.cell? ⟨h, n, none⟩ = some (.int .u8 0) := by
      unfold Buf at hb
      rw [cell_of_row w h n _ _ _ hb, ← Array.getElem?_toList]
      have h9 : 0 < tl.length := by omega
      rw [List.getElem?_append_right (by simp; omega), List.length_map, hn, Nat.sub_self, List.getElem?_eq_getElem h9, hz _ (List.getElem_mem h9)]
    have hA : ∀ o1 o2 o3, (((w.alloc o1).alloc o2).alloc o3).cell? ⟨h, n, none⟩ = some (.int .u8 0) := fun o1 o2 o3 => by
      refine (World.cell?_of_block (a := ⟨h, n, none⟩) ?_).trans hcn
      exact (heap_alloc_old _ _ (by simp; omega)).trans ((heap_alloc_old _ _ (by simp; omega)).trans (heap_alloc_old _ _ hlt))
    have hF : ∀ o1 o2 o3 o4, ((((w.alloc o1).alloc o2).alloc o3).alloc o4).frozen? ⟨h, n, none⟩ = false := fun o1 o2 o3 o4 => by
      refine (World.frozen?_of_block (a := ⟨h, n, none⟩) ?_).trans (hb.frozen n)
      exact (heap_alloc_old _ _ (by simp; omega)).trans ((heap_alloc_old _ _ (by simp; omega)).trans ((heap_alloc_old _ _ (by simp; omega)).trans (heap_alloc_old _ _ hlt)))
    have hA4 : ∀ o1 o2 o3 o4, ((((w.alloc o1).alloc o2).alloc o3).alloc o4).cell? ⟨h, n, none⟩ = some (.int .u8 0) := fun o1 o2 o3 o4 => by
      refine (World.cell?_of_block (a := ⟨h, n, none⟩) ?_).trans hcn
      exact (heap_alloc_old _ _ (by simp; omega)).trans ((heap_alloc_old _ _ (by simp; omega)).trans ((heap_alloc_old _ _ (by simp; omega)).trans (heap_alloc_old _ _ hlt)))
    have HN := Lib.hid hn
    have HZ := Lib.hid hz
    have HC := Lib.hid hcap
    clear hb hc0 hz hcap hn hn1e
    go_enter Tryz.func49, Tryz.ntmps49
    go_wp2_with fail
    go_ret
    have hn := HN.out
    have hn1e := HN1.out
    have htl : tl = .int .u8 0 :: tl.drop 1 := by
      cases tl with
      | nil => have := HC.out; simp at this; omega
      | cons v tl => rw [HZ.out v (by simp)]; rfl
    have hb0 : Buf w h (xs ++ [0]) (tl.drop 1) := by
      have h9 := HB.out
      unfold Buf at h9 ⊢
      rw [h9]
      conv => lhs; rw [htl]
      simp
    generalize hrf : Value.func (Fn.func 65) #[] _ = rf
    generalize ho1 : Obj.cells #[Value.slice (some ⟨h, 0, none⟩) n1 cap] 44 (0, 0) = o1
    generalize ho2 : Obj.cells #[Value.slice (some ⟨h, 0, none⟩) n cap, Value.int IntKind.i64 0, Value.int IntKind.i64 0, Value.nilIface, Value.nilFunc] 107 (0, 0) = o2
    generalize ho3 : Obj.cells #[Value.int IntKind.i64 (n : Nat)] 3 (0, 0) = o3
    generalize ho4 : Obj.cells #[Value.int IntKind.u8 0] 5 (0, 0) = o4
    generalize hs0 : w.heap.size = s
    rw [hs0] at hlt
    have g1 : ((((w.alloc o1).alloc o2).alloc o3).alloc o4).heap[s]? = some o1 := by
      rw [heap_alloc_old _ _ (by simp; omega), heap_alloc_old _ _ (by simp; omega), heap_alloc_old _ _ (by simp; omega), ← hs0]
      exact heap_alloc_new w o1
    have g2 : ((((w.alloc o1).alloc o2).alloc o3).alloc o4).heap[s + 1]? = some o2 := by
      rw [heap_alloc_old _ _ (by simp; omega), heap_alloc_old _ _ (by simp; omega)]
      have h9 := heap_alloc_new (w.alloc o1) o2
      rw [World.size_alloc, hs0] at h9
      exact h9
    have g3 : ((((w.alloc o1).alloc o2).alloc o3).alloc o4).heap[s + 1 + 1]? = some o3 := by
      rw [heap_alloc_old _ _ (by simp; omega)]
      have h9 := heap_alloc_new ((w.alloc o1).alloc o2) o3
      rw [World.size_alloc, World.size_alloc, hs0] at h9
      exact h9
    have g4 : ((((w.alloc o1).alloc o2).alloc o3).alloc o4).heap[s + 1 + 1 + 1]? = some o4 := by
      have h9 := heap_alloc_new (((w.alloc o1).alloc o2).alloc o3) o4
      rw [World.size_alloc, World.size_alloc, World.size_alloc, hs0] at h9
      exact h9
    have g5 : Buf ((((w.alloc o1).alloc o2).alloc o3).alloc o4) h (xs ++ [0]) (tl.drop 1) := by
      refine Eq.trans ?_ hb0
      rw [heap_alloc_old _ _ (by simp; omega), heap_alloc_old _ _ (by simp; omega), heap_alloc_old _ _ (by simp; omega), heap_alloc_old _ _ (by omega)]
    have g6 : w.grownBy ((((w.alloc o1).alloc o2).alloc o3).alloc o4) none := grownBy_trans (World.grownBy_alloc _ _ _) (grownBy_trans (World.grownBy_alloc _ _ _) (grownBy_trans (World.grownBy_alloc _ _ _) (World.grownBy_alloc _ _ _)))
    have g7 : ((((w.alloc o1).alloc o2).alloc o3).alloc o4).heap.size = s + 4 := by simp; omega
    generalize ((((w.alloc o1).alloc o2).alloc o3).alloc o4) = W4 at *
    have q5 := g5.set n (by rw [List.length_append, hn]; simp) 0
    have qe : (xs ++ [(0 : Int)]).set n 0 = xs ++ [0] := by rw [List.set_append_right _ _ (by omega), hn, Nat.sub_self]; rfl
    rw [qe] at q5
    have qs : ∀ b, b ≠ h → b ≠ s + 1 → (((W4.setCell ⟨h, n, none⟩ (.int .u8 0)).setCell ⟨s + 1, 0, none⟩ (.slice (some ⟨h, 0, none⟩) n1 cap)).setCell ⟨s + 1, 4, none⟩ rf).heap[b]? = W4.heap[b]? := fun b h1 h2 =>
      (Below.heap_setCell _ _ _ _ h2).trans ((Below.heap_setCell _ _ _ _ h2).trans (Below.heap_setCell _ _ _ _ h1))
    have q1 := qs s (by omega) (by omega)
    have q3 := qs (s + 1 + 1) (by omega) (by omega)
    have q4 := qs (s + 1 + 1 + 1) (by omega) (by omega)
    rw [g1, ← ho1] at q1
    rw [g3, ← ho3] at q3
    rw [g4, ← ho4] at q4
    refine ⟨s + 1, h, cap, rf, tl.drop 1, rfl, ?_, ?_, by omega, .inr ⟨s + 1 + 1 + 1, s, s + 1 + 1, cap, 0, by rw [← hrf, hs0], by rw [cell_of_row _ _ _ _ _ _ q4]; rfl, by rw [cell_of_row _ _ _ _ _ _ q1, hn1e]; rfl, by rw [cell_of_row _ _ _ _ _ _ q3]; rfl, by omega, by omega, by omega, by omega, hcm, by omega, by omega, by omega, by omega, by omega, by omega⟩, by omega, by simp; omega, .inl rfl, by simp; omega, by omega, ?_⟩
    · unfold Inp
      rw [hn1e]
      refine (heap_set (heap_set ((Below.heap_setCell _ _ _ _ (show s + 1 ≠ h by omega)).trans (g2.trans (by rw [← ho2]))) _) _).trans ?_
      rfl
    · exact (Below.heap_setCell _ _ _ _ (show h ≠ s + 1 by omega)).trans ((Below.heap_setCell _ _ _ _ (show h ≠ s + 1 by omega)).trans q5)
    · exact ⟨g6.os, g6.tape, g6.output, by simp; omega, fun k hk hn => (qs k hn (by omega)).trans (g6.block k hk (by simp))⟩
  · have hce : cap = n := by omega
    subst hce
    have htl : tl = [] := List.eq_nil_of_length_eq_zero (by omega)
    subst htl
    obtain ⟨n1, hn1e⟩ : ∃ n1, cap + 1 = n1 := ⟨_, rfl⟩
    have HN := Lib.hid hn
    have HN1 := Lib.hid hn1e
    have hBO : RowKit.Hid (∀ o1 o2 o3 o4, Buf ((((w.alloc o1).alloc o2).alloc o3).alloc o4) h xs []) := Lib.hid (fun o1 o2 o3 o4 => by
      refine Eq.trans ?_ hb
      rw [heap_alloc_old _ _ (by simp; omega), heap_alloc_old _ _ (by simp; omega), heap_alloc_old _ _ (by simp; omega), heap_alloc_old _ _ (by omega)])
    have hSO : RowKit.Hid (∀ o1 o2 o3, SrcL ((((w.alloc o1).alloc o2).alloc o3).alloc (.cells #[Value.int IntKind.u8 0] 5)) ⟨w.heap.size + 1 + 1 + 1, 0, none⟩ [0]) := Lib.hid (fun o1 o2 o3 => by
      have h9 : Buf ((((w.alloc o1).alloc o2).alloc o3).alloc (.cells #[Value.int IntKind.u8 0] 5)) (w.heap.size + 1 + 1 + 1) [0] [] := by
        have h8 := heap_alloc_new (((w.alloc o1).alloc o2).alloc o3) (.cells #[Value.int IntKind.u8 0] 5)
        rw [World.size_alloc, World.size_alloc, World.size_alloc] at h8
        exact h8
      exact srcL_buf h9)
    clear hb hz hcap hroom hn hn1e
    go_enter Tryz.func49, Tryz.ntmps49
    go_wp2_with (at_builtin; refine wpList_grow rfl _ _ rfl h cap cap 1 1 n1 ⟨w.heap.size + 1 + 1 + 1, 0, none⟩ xs [0] [] rfl rfl (hBO.out _ _ _ _) HN.out rfl (hSO.out _ _ _) (by omega) (by omega) HN1.out ?_; intro c3 Z z1 z2)
    go_ret
    have hn1e := HN1.out
    generalize ho1 : Obj.cells #[Value.slice (some ⟨h, 0, none⟩) cap cap] 44 (0, 0) = o1
    generalize ho2 : Obj.cells #[Value.slice (some ⟨w.heap.size + 1 + 1 + 1 + 1, 0, none⟩) n1 c3, Value.int IntKind.i64 0, Value.int IntKind.i64 0, Value.nilIface, Value.nilFunc] 107 (0, 0) = o2
    generalize ho3 : Obj.cells #[Value.int IntKind.i64 (cap : Nat)] 3 (0, 0) = o3
    generalize ho4 : Obj.cells #[Value.int IntKind.u8 0] 5 (0, 0) = o4
    generalize ho5 : Obj.cells (List.map (Value.int .u8) xs ++ Value.int .u8 0 :: Z).toArray 5 (0, 0) = o5
    have g2 : (((((w.alloc o1).alloc o2).alloc o3).alloc o4).alloc o5).heap[w.heap.size + 1]? = some o2 := by
      rw [heap_alloc_old _ _ (by simp <;> omega), heap_alloc_old _ _ (by simp <;> omega), heap_alloc_old _ _ (by simp)]
      have h9 := heap_alloc_new (w.alloc o1) o2
      rw [World.size_alloc] at h9
      exact h9
    have g5 : (((((w.alloc o1).alloc o2).alloc o3).alloc o4).alloc o5).heap[w.heap.size + 1 + 1 + 1 + 1]? = some o5 := by
      have h9 := heap_alloc_new ((((w.alloc o1).alloc o2).alloc o3).alloc o4) o5
      rw [World.size_alloc, World.size_alloc, World.size_alloc, World.size_alloc] at h9
      exact h9
    have g6 : w.grownBy (((((w.alloc o1).alloc o2).alloc o3).alloc o4).alloc o5) none := grownBy_trans (World.grownBy_alloc _ _ _) (grownBy_trans (World.grownBy_alloc _ _ _) (grownBy_trans (World.grownBy_alloc _ _ _) (grownBy_trans (World.grownBy_alloc _ _ _) (World.grownBy_alloc _ _ _))))
    refine ⟨w.heap.size + 1, w.heap.size + 1 + 1 + 1 + 1, c3, .nilFunc, Z, rfl, ?_, ?_, by omega, .inl rfl, by omega, by simp <;> omega, .inr (by omega), by simp <;> omega, by omega, Chg.of (show w.grownBy _ none from ⟨g6.os, g6.tape, g6.output, g6.size, g6.block⟩) (fun k e => by cases e)⟩
    · show (((((w.alloc o1).alloc o2).alloc o3).alloc o4).alloc o5).heap[w.heap.size + 1]? = _
      rw [g2, ← ho2, hn1e]
      rfl
    · show (((((w.alloc o1).alloc o2).alloc o3).alloc o4).alloc o5).heap[w.heap.size + 1 + 1 + 1 + 1]? = _
      rw [g5, ← ho5]
      simp


end Go.Proofs.YthoekplablhgfaaGreatDoor
