import Derived.Test.Qxb6604580aReqC
namespace Go.Proofs.Qxb6604580a.ReqD
open Go.ChangeShapes Go.WideShapes Go.ChangeAt Go.RowKit ReqA ReqB ReqC
set_option linter.unusedVariables false

theorem Try.info5 : (Try.prog.info? 5).map (fun i => (i.zero, i.size, i.bytes)) = some (some (.int .u8 0), 1, 1) := by kernel_rfl

/-- What is told of an argument: its bytes; nil means nothing. -/
structure Arg (w : World) (p : Option Addr) (n c : Nat) (xs : List Int) : Prop where
  inn : In w p n xs
  none : p = none → n = 0 ∧ c = 0
  rng : ∀ x ∈ xs, 0 ≤ x ∧ x < 256

theorem Arg.src {w wc : World} {p : Option Addr} {n c : Nat} {xs : List Int} (h : Arg w p n c xs) (hb : Below w.heap.size w wc) :
    ∀ ad, p = some ad → ∀ j u, (xs.map (Value.int .u8))[j]? = some u → wc.cell? (ad.add j) = some u := by
  intro ad hp j u hj
  have hl : j < xs.length := by have := (List.getElem?_eq_some_iff.1 hj).1; simpa using this
  obtain ⟨b, o, e, hcell⟩ := h.inn.2 (by have := h.inn.1; omega)
  rw [hp] at e; cases e
  have hc := hcell j (by have := h.inn.1; omega)
  have hlt := World.block_lt_of_cell? w _ hc
  rw [Go.WideShapes.add_plain, hb.cell hlt, hc]
  simp [hl] at hj
  simp [hl, hj]

theorem one_new (w : World) (c : Int) : ∀ j u, [Value.int .u8 c][j]? = some u → (w.alloc (.cells #[.int .u8 c] 5)).cell? ((⟨w.heap.size, 0, none⟩ : Addr).add j) = some u := by
  intro j u hj
  match j, hj with
  | 0, hj => simp at hj; subst hj; simp [Addr.add]

theorem two_new (w : World) (c d : Int) : ∀ j u, [Value.int .u8 c, Value.int .u8 d][j]? = some u → (w.alloc (.cells #[.int .u8 c, .int .u8 d] 5)).cell? ((⟨w.heap.size, 0, none⟩ : Addr).add j) = some u := by
  intro j u hj
  match j, hj with
  | 0, hj => simp at hj; subst hj; simp [Addr.add]
  | 1, hj => simp at hj; subst hj; simp [Addr.add]

set_option maxHeartbeats 1000000 in
theorem main_yes (a0 a1 a2 a3 : Option Addr) (l0 l1 l2 l3 c0 c1 c2 c3 : Nat) (m t v r : List Int) (w : World) (A0 : Arg w a0 l0 c0 m) (A1 : Arg w a1 l1 c1 t) (A2 : Arg w a2 l2 c2 v) (A3 : Arg w a3 l3 c3 r)
    (hm1 : hasB m 32 = false) (hm2 : hasB m 10 = false) (ht1 : hasB t 32 = false) (ht2 : hasB t 10 = false) (hv1 : hasB v 32 = false) (hv2 : hasB v 10 = false)
    (hf : fits l0 l1 l2 l3 = true) (h0 : l0 ≤ 262144) (h1 : l1 ≤ 262144) (h2 : l2 ≤ 262144) (h3 : l3 ≤ 262144) :
    Calls Try.prog 3 #[.slice a0 l0 c0, .slice a1 l1 c1, .slice a2 l2 c2, .slice a3 l3 c3] w fun e w' => e = .returned (.bool true) ∧ Below w.heap.size w w' := by
  have mx : maxLen = 9223372036854775807 := rfl
  have k4 := zzBytes_any a0 a1 a2 a3 l0 l1 l2 l3 c0 c1 c2 c3 w (by omega) (by omega) (by omega) (by omega)
  have k51 := hasByte_any a0 l0 c0 m 32 w (by omega) A0.inn
  have k52 := hasByte_any a0 l0 c0 m 10 w (by omega) A0.inn
  have k53 := hasByte_any a1 l1 c1 t 32 w (by omega) A1.inn
  have k54 := hasByte_any a1 l1 c1 t 10 w (by omega) A1.inn
  have k55 := hasByte_any a2 l2 c2 v 32 w (by omega) A2.inn
  have k56 := hasByte_any a2 l2 c2 v 10 w (by omega) A2.inn
  rw [hf] at k4; rw [hm1] at k51; rw [hm2] at k52; rw [ht1] at k53; rw [ht2] at k54; rw [hv1] at k55; rw [hv2] at k56
  have K4 : Hid _ := k4; have K51 : Hid _ := k51; have K52 : Hid _ := k52; have K53 : Hid _ := k53; have K54 : Hid _ := k54; have K55 : Hid _ := k55; have K56 : Hid _ := k56
  clear k4 k51 k52 k53 k54 k55 k56 mx
  have H1 : Hid (hasB m 32 = false ∧ hasB m 10 = false ∧ hasB t 32 = false ∧ hasB t 10 = false ∧ hasB v 32 = false ∧ hasB v 10 = false ∧ fits l0 l1 l2 l3 = true) := ⟨hm1, hm2, ht1, ht2, hv1, hv2, hf⟩
  clear hm1 hm2 ht1 ht2 hv1 hv2 hf
  obtain ⟨i0, hi, hz0, hz1, hz2⟩ := info_parts Try.info5
  go_enter Try.func3, Try.ntmps3
  go_wp2_with fail
  refine use K4.out ?_
  go_wp2_with fail
  refine use K51.out ?_
  go_wp2_with fail
  refine use K52.out ?_
  go_wp2_with fail
  refine use K53.out ?_
  go_wp2_with fail
  refine use K54.out ?_
  go_wp2_with fail
  refine use K55.out ?_
  go_wp2_with fail
  refine use K56.out ?_
  clear K4 K51 K52 K53 K54 K55 K56
  go_wp2_with (first
    | (at_make; refine wpList_make_own _ rfl _ _ 22 rfl w.heap.size 5 i0 (.int .u8 0) 1 Try.underlying22 hi hz0 hz1 _ _ _ (l0 + l1 + l2 + l3 + 4) rfl rfl (by omega) (by rw [hz2]; omega) (by unfold maxLen; omega) (Nat.le_refl _) ?_; intro w0 own0 gr0; have b0 := (Below.refl w.heap.size w).grown gr0 (Nat.le_refl _) (by intro k hk; cases hk); clear gr0)
    | (at_builtin; refine wpList_append_fits_any _ rfl (.tmp 62) (.tmp 63) 22 rfl w.heap.size 5 i0 1 Try.underlying22 hi hz1 w.heap.size 0 (l0 + l1 + l2 + l3 + 4) [] rfl own0 a0 l0 c0 (m.map (Value.int .u8)) rfl (by simp [A0.inn.1]) A0.none (A0.src b0) (ints_oneCell _ _) (by omega) ?_; intro w1 own1 gr1; have b1 := b0.grown gr1 (by have := b0.size; simp; omega) (by intro k hk; cases hk; exact Nat.le_refl _); clear gr1 own0 b0; simp only [Nat.zero_add, List.nil_append] at own1)
    | (at_builtin; refine wpList_append_fits_any _ rfl (.tmp 65) (.tmp 66) 22 rfl w.heap.size 5 i0 1 Try.underlying22 hi hz1 w.heap.size l0 (l0 + l1 + l2 + l3 + 4) _ rfl (own1.alloc _) (some ⟨w1.heap.size, 0, none⟩) 1 1 [.int .u8 32] rfl rfl (by intro h; cases h) (by intro ad had; cases had; exact one_new w1 32) (by intro u hu; simp at hu; subst hu; rfl) (by omega) ?_; intro w2 own2 gr2; have b2 := (b1.alloc b1.size _).grown gr2 (by have := b1.size; simp; omega) (by intro k hk; cases hk; exact Nat.le_refl _); clear gr2 own1 b1; skip)
    | (at_builtin; refine wpList_append_fits_any _ rfl (.tmp 68) (.tmp 69) 22 rfl w.heap.size 5 i0 1 Try.underlying22 hi hz1 w.heap.size (l0 + 1) (l0 + l1 + l2 + l3 + 4) _ rfl own2 a1 l1 c1 (t.map (Value.int .u8)) rfl (by simp [A1.inn.1]) A1.none (A1.src b2) (ints_oneCell _ _) (by omega) ?_; intro w3 own3 gr3; have b3 := b2.grown gr3 (by have := b2.size; simp; omega) (by intro k hk; cases hk; exact Nat.le_refl _); clear gr3 own2 b2; skip)
    | (at_builtin; refine wpList_append_fits_any _ rfl (.tmp 71) (.tmp 72) 22 rfl w.heap.size 5 i0 1 Try.underlying22 hi hz1 w.heap.size (l0 + 1 + l1) (l0 + l1 + l2 + l3 + 4) _ rfl (own3.alloc _) (some ⟨w3.heap.size, 0, none⟩) 1 1 [.int .u8 32] rfl rfl (by intro h; cases h) (by intro ad had; cases had; exact one_new w3 32) (by intro u hu; simp at hu; subst hu; rfl) (by omega) ?_; intro w4 own4 gr4; have b4 := (b3.alloc b3.size _).grown gr4 (by have := b3.size; simp; omega) (by intro k hk; cases hk; exact Nat.le_refl _); clear gr4 own3 b3; skip)
    | (at_builtin; refine wpList_append_fits_any _ rfl (.tmp 74) (.tmp 75) 22 rfl w.heap.size 5 i0 1 Try.underlying22 hi hz1 w.heap.size (l0 + 1 + l1 + 1) (l0 + l1 + l2 + l3 + 4) _ rfl own4 a2 l2 c2 (v.map (Value.int .u8)) rfl (by simp [A2.inn.1]) A2.none (A2.src b4) (ints_oneCell _ _) (by omega) ?_; intro w5 own5 gr5; have b5 := b4.grown gr5 (by have := b4.size; simp; omega) (by intro k hk; cases hk; exact Nat.le_refl _); clear gr5 own4 b4; skip)
    | (at_builtin; refine wpList_append_fits_any _ rfl (.tmp 77) (.tmp 78) 22 rfl w.heap.size 5 i0 1 Try.underlying22 hi hz1 w.heap.size (l0 + 1 + l1 + 1 + l2) (l0 + l1 + l2 + l3 + 4) _ rfl (own5.alloc _) (some ⟨w5.heap.size, 0, none⟩) 2 2 [.int .u8 13, .int .u8 10] rfl rfl (by intro h; cases h) (by intro ad had; cases had; exact two_new w5 13 10) (by intro u hu; simp at hu; rcases hu with hu | hu <;> subst hu <;> rfl) (by omega) ?_; intro w6 own6 gr6; have b6 := (b5.alloc b5.size _).grown gr6 (by have := b5.size; simp; omega) (by intro k hk; cases hk; exact Nat.le_refl _); clear gr6 own5 b5; skip)
    | (at_builtin; refine wpList_append_fits_any _ rfl (.tmp 80) (.tmp 81) 22 rfl w.heap.size 5 i0 1 Try.underlying22 hi hz1 w.heap.size (l0 + 1 + l1 + 1 + l2 + 2) (l0 + l1 + l2 + l3 + 4) _ rfl own6 a3 l3 c3 (r.map (Value.int .u8)) rfl (by simp [A3.inn.1]) A3.none (A3.src b6) (ints_oneCell _ _) (by omega) ?_; intro w7 own7 gr7; have b7 := b6.grown gr7 (by have := b6.size; simp; omega) (by intro k hk; cases hk; exact Nat.le_refl _); clear gr7 own6 b6; skip))
  have hxs : (List.map (Value.int .u8) m ++ [Value.int .u8 32] ++ List.map (Value.int .u8) t ++ [Value.int .u8 32] ++ List.map (Value.int .u8) v ++ [Value.int .u8 13, Value.int .u8 10] ++ List.map (Value.int .u8) r) = (built m t v r).map (Value.int .u8) := by
    unfold built; simp
  rw [hxs] at own7
  have hl : (built m t v r).length = l0 + 1 + l1 + 1 + l2 + 2 + l3 := by
    unfold built; have e0 := A0.inn.1; have e1 := A1.inn.1; have e2 := A2.inn.1; have e3 := A3.inn.1; simp; omega
  have hcell : ∀ i, i < l0 + 1 + l1 + 1 + l2 + 2 + l3 → w7.cell? ⟨w.heap.size, i, none⟩ = some (.int .u8 ((built m t v r).getD i 0)) := by
    intro i hi
    rw [own7.cellAt i (by omega)]
    simp [show i < (built m t v r).length by omega]
  have hrg : ∀ x ∈ built m t v r, 0 ≤ x ∧ x < 256 := by
    intro x hx
    unfold built at hx
    simp at hx
    rcases hx with hx | hx | hx | hx | hx | hx | hx | hx
    · exact A0.rng x hx
    · omega
    · exact A1.rng x hx
    · omega
    · exact A2.rng x hx
    · omega
    · omega
    · exact A3.rng x hx
  have K6 := target_any w.heap.size _ (l0 + l1 + l2 + l3 + 4) m t v r w7 hl hrg H1.out.1 H1.out.2.1 H1.out.2.2.1 H1.out.2.2.2.1 H1.out.2.2.2.2.1 H1.out.2.2.2.2.2.1 (by omega) (by omega) hcell
  clear hcell hrg hl hxs own7
  have em : m.length = l0 := A0.inn.1
  have et : t.length = l1 := A1.inn.1
  rw [em, et] at K6
  clear em et H1
  refine K6.mono ?_
  rintro e w8 ⟨rfl, b8⟩
  have b9 : Below w.heap.size w w8 := b7.trans (b8.mono b7.size)
  clear K6 b8 b7
  have e1 : (((l0 : Int) + 1) == (l0 : Int) + 1) = true := beq_iff_eq.2 rfl
  have e2 : (((l0 : Int) + 1 + l1) == (l0 : Int) + 1 + l1) = true := beq_iff_eq.2 rfl
  go_wp2
  go_ret
  exact ⟨rfl, b9⟩
end Go.Proofs.Qxb6604580a.ReqD
