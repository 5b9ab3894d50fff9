import Derived.Test.Qxb6609358aDoorC
import Derived.Lib.IndexMore
namespace Go.Proofs.Qxb6609358aDoor.A
open Go.ChangeShapes Go.WideShapes Go.ChangeAt Go.RowKit Go.Shelf P
set_option linter.unusedVariables false
attribute [local go_sem] Oper.semAt_some

theorem cells_own {β : Type} (k : Nat) (c : Array Value) (t : TypeId) (fz : Nat × Nat) : Own (fun (_ : β) W => W.heap[k]? = some (.cells c t fz)) := fun s X Y row hs hg hrow => by
  refine (hg.block k (Array.getElem?_eq_some_iff.1 hs).1 (fun e => ?_)).trans hs
  obtain ⟨o, ho, hc⟩ := hrow k e.symm
  rw [hs] at ho; cases ho; cases hc
theorem bld_own {β : Type} (B b : Nat) (f : β → List UInt8) : Own (fun s W => Bld B b (f s) W) := fun s X Y row hs hg hrow => by
  obtain ⟨hB, v, hb, hr, hne⟩ := hs
  refine ⟨hB, v, cells_own b _ _ _ s X Y row hb hg hrow, hr.kept hg ?_, hne⟩
  rcases hr.2 with ⟨rfl, _⟩ | ⟨g, cap, cur, fz, rfl, _, hgb, _⟩
  · exact .inl rfl
  · refine .inr fun e' => ?_
    obtain ⟨o, ho, hc⟩ := hrow g (by simpa [Value.ownBlock] using e'.symm)
    rw [hgb] at ho; cases ho; cases hc
theorem bld_kept {W W' : World} {B b : Nat} {l : List UInt8} {row : Option Nat} (h : Bld B b l W) (hg : W.grownBy W' row) (hrow : ∀ r, row = some r → r ≠ b ∧ ∃ o, W.heap[r]? = some o ∧ ∀ c fz, o ≠ .cells c 5 fz) : Bld B b l W' := by
  obtain ⟨hB, v, hb, hr, hne⟩ := h
  refine ⟨hB, v, (hg.block b (Array.getElem?_eq_some_iff.1 hb).1 (fun e => (hrow b e.symm).1 rfl)).trans hb, hr.kept hg ?_, hne⟩
  rcases hr.2 with ⟨rfl, _⟩ | ⟨g, cap, cur, fz, rfl, _, hgb, _⟩
  · exact .inl rfl
  · refine .inr fun e' => ?_
    obtain ⟨_, o, ho, hc⟩ := hrow g (by simpa [Value.ownBlock] using e'.symm)
    rw [hgb] at ho; cases ho; exact hc _ _ rfl
theorem others_keeps {W W' : World} {b : Nat} {c : Array Value} {t : TypeId} {fz : Nat × Nat} (h : Lib.OthersKept 5 (some b) W W') (hsz : W.heap.size ≤ W'.heap.size) (hb : W.heap[b]? = some (.cells c t fz)) : KeepsOthers W W' :=
  ⟨hsz, fun k o hk ho => h k o hk (fun e => by cases e; rw [hb] at hk; cases hk; cases ho) (fun c fz e => by subst e; cases ho)⟩
theorem others_cells {W W' : World} {b k : Nat} {c : Array Value} {t : TypeId} {fz : Nat × Nat} (h : Lib.OthersKept 5 (some b) W W') (hk : W.heap[k]? = some (.cells c t fz)) (hkb : k ≠ b) (ht : t ≠ 5) : W'.heap[k]? = some (.cells c t fz) :=
  h k _ hk (fun e => hkb (by cases e; rfl)) (fun c' fz' e => ht (by cases e; rfl))

/-- The text written so far. -/
def wr (pre : List Tok) : List UInt8 := txt (pre.map fun x => dec false (tl x))
theorem wr_snoc (pre : List Tok) (x : Tok) : wr (pre ++ [x]) = wr pre ++ [47] ++ dec false (tl x) := by simp [wr, txt_append, txt]
theorem wr_len (pre : List Tok) : (wr pre).length ≤ pre.length * 4194305 := by
  induction pre with
  | nil => simp [wr, txt]
  | cons x p ih =>
    have h1 : (dec false (tl x)).length ≤ 4194304 := Nat.le_trans (dec_le _ _) (by unfold tl; rw [L_len]; exact x.2.2)
    simp only [wr, List.map_cons, txt, List.length_cons, List.length_append] at ih ⊢
    omega
theorem raw_len (l : List UInt8) : (raw l).length ≤ l.length + 1 := by
  induction l with
  | nil => simp [raw, sp]
  | cons c l ih =>
    by_cases h : c = 47 <;> simp [raw, sp, h] at ih ⊢ <;> omega

set_option maxRecDepth 100000 in
set_option maxHeartbeats 4000000 in
theorem unesc_nil (s : ByteArray) (l : List UInt8) (m : Int) (w : World) (hs : s.size ≤ 4194304) (hL : L s = 47 :: l) (hw : wf false l = true) (hm : w.cell? ⟨4, 0, none⟩ = some (.int .i64 m)) (hno : Lib.contains s.data.toList [126, 49] = false) :
    Calls Tryd.prog 39 #[.string s] w fun e w' => e = .returned (.tuple #[.agg #[.string (mkB (txt (toks l))), .slice none 0 0], .nilIface]) ∧ Below w.heap.size w w' := by
  have q27 : ∀ (w : World) (a : Option Addr) (n c n' c' : Nat), (binOp .neq 27 (.slice a n c) (.slice none n' c')).run Tryd.prog w = .ok (.bool (!a.isNone)) w := fun w a n c n' c' => run_neq_slice_nil_any w _ _ a n c n' c' Tryd.underlying27
  obtain ⟨n0, hn0⟩ : ∃ n, w.heap.size = n := ⟨_, rfl⟩
  have hm4 : 4 < n0 := by
    rw [← hn0]
    rcases Nat.lt_or_ge 4 w.heap.size with h | h
    · exact h
    · simp [World.cell?, Array.getElem?_eq_none h] at hm
  refine (callsIn_wide (n := 5)).1 ?_
  refine callsIn_of_wp_marks Tryd.func39 rfl trivial ?_ rfl
  simp only [Tryd.ntmps39, List.size_toArray, List.length_cons, List.length_nil, Nat.reduceAdd, Nat.reduceSub, Array.replicate_succ, Array.replicate_zero, List.push_toArray, List.append_toArray, List.nil_append, List.cons_append]
  gi_wp2
  obtain ⟨w3, hw3⟩ : ∃ w3, ((w.alloc (.cells #[.string { data := #[] }, .slice none 0 0] 31)).alloc (.cells #[.nilIface] 33)).alloc (.cells #[.pointer none, .slice none 0 0] 92) = w3 := ⟨_, rfl⟩
  rw [hw3]
  have hsz3 : w3.heap.size = n0 + 3 := by rw [← hw3]; simp [hn0]
  have hB3 : Below n0 w w3 := by rw [← hw3, ← hn0]; exact (((Below.refl _ w).alloc (Nat.le_refl _) _).alloc (by simp) _).alloc (by simp; omega) _
  have hr31 : w3.heap[n0]? = some (.cells #[.string { data := #[] }, .slice none 0 0] 31) := by
    rw [← hw3, ← hn0, Below.heap_alloc _ _ _ (by simp; omega), Below.heap_alloc _ _ _ (by simp)]; exact World.alloc_heap_new w _
  have hr33 : w3.heap[n0 + 1]? = some (.cells #[.nilIface] 33) := by
    rw [← hw3, ← hn0, Below.heap_alloc _ _ _ (by simp)]; have := World.alloc_heap_new (w.alloc (.cells #[.string { data := #[] }, .slice none 0 0] 31)) (.cells #[.nilIface] 33); rwa [World.size_alloc] at this
  have hr92 : w3.heap[n0 + 1 + 1]? = some (.cells #[.pointer none, .slice none 0 0] 92) := by
    rw [← hw3, ← hn0]; have := World.alloc_heap_new ((w.alloc (.cells #[.string { data := #[] }, .slice none 0 0] 31)).alloc (.cells #[.nilIface] 33)) (.cells #[.pointer none, .slice none 0 0] 92); rwa [World.size_alloc, World.size_alloc] at this
  clear hw3
  refine ⟨trivial, (callsIn_wide.2 (Tryd.Builder_Grow_fresh (n0 + 1 + 1) (n0 + 1 + 1) s.size w3 (Nat.le_refl _) hr92 (by omega) (by omega))).mono ?_⟩
  rintro e w4 ⟨rfl, hb4, hbl4⟩
  have hb4' : Bld (n0 + 1 + 1) (n0 + 1 + 1) [] w4 := Lib.BuilderAtF.of hb4
  have hsz4 := hbl4.size
  have hm4' : w4.cell? ⟨4, 0, none⟩ = some (.int .i64 m) := (hbl4.cell (p := ⟨4, 0, none⟩) (by show 4 < _; omega)).trans ((hB3.cell (p := ⟨4, 0, none⟩) hm4).trans hm)
  replace hr31 := (hbl4.block n0 (by omega)).trans hr31
  replace hr33 := (hbl4.block (n0 + 1) (by omega)).trans hr33
  have hB4 : Below n0 w w4 := hB3.trans (hbl4.mono (by omega))
  clear hb4 hbl4 hB3 hr92
  rw [hsz3] at hsz4
  clear hsz3
  obtain ⟨z, hz⟩ : ∃ z, w4.heap.size = z := ⟨_, rfl⟩
  rw [hz] at hsz4
  have k54 := Tryd.strings_Contains s ⟨#[126, 49]⟩ m (w4.alloc (.cells #[.slice none 0 0] 27)) (by omega) (Lib.cell?_alloc_some _ hm4')
  rw [show (⟨#[126, 49]⟩ : ByteArray).data.toList = [126, 49] from rfl, hno] at k54
  have K54 : Hid _ := k54
  clear k54 hm4' hm hno
  gi_wp2
  refine ⟨trivial, (callsIn_wide.2 K54.out).mono ?_⟩
  rintro e w5 ⟨rfl, rfl⟩
  clear K54
  gi_wp2
  refine ⟨trivial, (all_in 4 s (.slice none 0 0) _).mono ?_⟩
  rintro e w5 ⟨rfl, rfl⟩
  simp only [World.size_alloc, hz]
  have hx0 : Boxed (w4.alloc (.cells #[.slice none 0 0] 27)) z 27 (.slice none 0 0) := by rw [← hz]; exact Boxed.new w4 27 _
  have hx1 : Boxed ((w4.alloc (.cells #[.slice none 0 0] 27)).alloc (.cells #[.int .i64 1] 3)) (z + 1) 3 (.int .i64 1) := by
    have := Boxed.new (w4.alloc (.cells #[.slice none 0 0] 27)) 3 (.int .i64 1); rwa [World.size_alloc, hz] at this
  have hx2 : (((w4.alloc (.cells #[.slice none 0 0] 27)).alloc (.cells #[.int .i64 1] 3)).alloc (boxP s (.slice none 0 0))).heap[z + 1 + 1]? = some (boxP s (.slice none 0 0)) := by
    have := World.alloc_heap_new ((w4.alloc (.cells #[.slice none 0 0] 27)).alloc (.cells #[.int .i64 1] 3)) (boxP s (.slice none 0 0)); rwa [World.size_alloc, World.size_alloc, hz] at this
  obtain ⟨W0, hW0⟩ : ∃ W0, ((w4.alloc (.cells #[.slice none 0 0] 27)).alloc (.cells #[.int .i64 1] 3)).alloc (boxP s (.slice none 0 0)) = W0 := ⟨_, rfl⟩
  have hy0 : Boxed W0 z 27 (.slice none 0 0) := by rw [← hW0]; exact (hx0.alloc _).alloc _
  have hy1 : Boxed W0 (z + 1) 3 (.int .i64 1) := by rw [← hW0]; exact hx1.alloc _
  rw [hW0] at hx2
  have hBW : Below (n0 + 1 + 1) w4 W0 := by rw [← hW0]; exact (((Below.refl _ w4).alloc (by omega) _).alloc (by simp; omega) _).alloc (by simp; omega) _
  have hbW : Bld (n0 + 1 + 1) (n0 + 1 + 1) [] W0 := by
    rw [← hW0]
    exact bld_kept (bld_kept (bld_kept hb4' (World.grownBy_alloc _ _ none) (fun r e => by cases e)) (World.grownBy_alloc _ _ none) (fun r e => by cases e)) (World.grownBy_alloc _ _ none) (fun r e => by cases e)
  have hszW : W0.heap.size = z + 3 := by rw [← hW0]; simp [hz]
  replace hr31 := (hBW.block n0 (by omega)).trans hr31
  replace hr33 := (hBW.block (n0 + 1) (by omega)).trans hr33
  replace hBW : Below n0 w W0 := hB4.trans (hBW.mono (by omega))
  rw [hW0]
  clear hW0 hx0 hx1 hb4' hB4 hz w4
  gi_wp2
  refine wpIn_rangeFunc_ownF rfl (by omega) (gf := 68) (lb := #[.pointer (some ⟨z + 1 + 1, 0, none⟩)]) rfl trivial (enters_of Tryd.func68 (by kernel_rfl) rfl)
    (all_stops 4 (by omega) (z + 1 + 1) s l hs hL hw W0 hx2) (fun h k => Eq.trans k h) (fun W lq o o' h1 h2 h3 h4 => World.putObj_heap_other (by omega)) (Below.refl _ _) (fun _ => rfl)
    (fun pre W => (Bld (n0 + 1 + 1) (n0 + 1 + 1) (wr pre) W ∧ Boxed W z 27 (.slice none 0 0) ∧ (∃ o, Boxed W (z + 1) 3 (.int .i64 o)) ∧ W.heap[z + 1 + 1]? = some (.cells #[.string s, .slice none 0 0] 31 (0, 0))) ∧ Below (n0 + 1 + 1) W0 W)
    (fun _ _ _ => False)
    (OwnFrom.and (Own.from (fun sx A B row hh hg hr => ⟨bld_own _ _ wr sx A B row hh.1 hg hr, boxed_own z 27 (fun _ => .slice none 0 0) sx A B row hh.2.1 hg hr, hh.2.2.1.elim fun o ho => ⟨o, boxed_own (z + 1) 3 (fun _ => .int .i64 o) sx A B row ho hg hr⟩, cells_own (z + 1 + 1) _ _ _ sx A B row hh.2.2.2 hg hr⟩) _) (ownFrom_below (by omega) (by omega)))
    (fun _ _ _ _ _ hh _ _ => hh)
    ⟨⟨hbW, hy0, ⟨_, hy1⟩, hx2⟩, Below.refl _ _⟩
    (fun x => { tmps := #[.string s, undef, .pointer (some ⟨n0, 0, none⟩), .pointer (some ⟨n0 + 1, 0, none⟩), .pointer (some ⟨n0 + 1 + 1, 0, none⟩), .pointer (some ⟨z, 0, none⟩), .pointer (some ⟨z + 1, 0, none⟩), undef, .string x.1.2, undef, undef, .string s, .int .i64 s.size, .tuple #[], .string s, .bool false, undef, undef, undef, .string s, .agg #[.string s, .slice none 0 0], .func (.func 68) #[] #[.pointer (some ⟨z + 1 + 1, 0, none⟩)], .int .i64 (x.1.1 : Int), .string x.1.2, undef, undef, undef, undef, undef, undef, undef, undef, undef, undef, undef, undef, undef, undef, undef, undef, undef, undef, undef, undef, undef, undef, undef, undef, undef, undef, undef], defers := [] }) ?assign ?body ?done ?stop
  case assign =>
    intro lq x W K hK
    gi_wp2
    exact hK
  case body =>
    rintro lq pre x W ⟨⟨hb, hv, ⟨o, ho⟩, hpb⟩, hB⟩ hpre
    have hBs := hB.size
    have hlw := wr_len pre
    have hrl := raw_len l
    have hll : l.length + 1 = s.size := by rw [← L_len, hL]; rfl
    have hbk : W.heap[n0 + 1 + 1]? = some (.cells #[.pointer (some ⟨n0 + 1 + 1, 0, none⟩), hb.2.choose] 92 (0, 0)) := hb.2.choose_spec.1
    have k46 := wbW (n0 + 1 + 1) (n0 + 1 + 1) (wr pre) 47 W W ⟨hb, Below.refl _ _, Lib.OthersKept.refl _ _ _⟩ (by omega) (by omega)
    have K46 : Hid _ := k46
    clear k46
    gi_wp2
    refine ⟨trivial, (CallsIn.inRound lq (callsIn_wide.2 K46.out)).mono ?_⟩
    rintro e W1 ⟨rfl, h1⟩
    have hs1 := h1.size
    have k57 := unt (n0 + 1 + 1) (n0 + 1 + 1) (wr pre ++ [47]) x.1.2 W1 h1.bld x.2.1 x.2.2 (by simp; omega) (by omega)
    have K57 : Hid _ := k57
    have H1 : Hid _ := h1
    clear k57 K46 h1
    gi_wp2
    refine ⟨trivial, (CallsIn.inRound lq (callsIn_wide.2 K57.out)).mono ?_⟩
    rintro e W2 ⟨rfl, h2⟩
    have hW2 : Wrote (n0 + 1 + 1) (n0 + 1 + 1) (wr (pre ++ [x])) W W2 := ⟨by rw [wr_snoc]; exact h2.bld, H1.out.below.trans h2.below, H1.out.others.trans h2.others⟩
    have HW2 : Hid _ := hW2
    have hs2 := hW2.size
    have hv2 : Boxed W2 z 27 (.slice none 0 0) := others_cells hW2.others hv (by omega) (by decide)
    have ho2 : Boxed W2 (z + 1) 3 (.int .i64 o) := others_cells hW2.others ho (by omega) (by decide)
    have hpb2 := others_cells hW2.others hpb (by omega) (by decide)
    have hko : KeepsOthers W W2 := others_keeps hW2.others hs2 hbk
    have hvc := hv2.cell
    have hoc := ho2.cell
    have hof := ho2.frozen
    clear hW2 h2 H1 K57
    gi_wp2
    have hg := grownBy_setCell' W2 (z + 1) (.int .i64 (wrap64 (o + ((x.1.2.size : Int) + 1))))
    have hp3 : (W2.setCell ⟨z + 1, 0, none⟩ (.int .i64 (wrap64 (o + ((x.1.2.size : Int) + 1))))).heap[z + 1 + 1]? = some (.cells #[.string s, .slice none 0 0] 31 (0, 0)) := (Below.heap_setCell _ _ _ _ (by show z + 1 + 1 ≠ z + 1; omega)).trans hpb2
    exact ⟨hko.trans (KeepsOthers.setCell _ _ _), hp3.trans hpb.symm,
      ⟨bld_kept HW2.out.bld hg (fun r e => by cases e; exact ⟨by omega, _, ho2, fun c fz e => by cases e⟩), hv2.kept hg (by simp), ⟨_, ho2.set _⟩, hp3⟩,
      (hB.trans HW2.out.below).setCell (p := ⟨z + 1, 0, none⟩) (by show n0 + 1 + 1 ≤ z + 1; omega) _⟩
  case done =>
    rintro D ys W hD hS ⟨⟨hb, hv, ⟨o, ho⟩, hpb⟩, hB⟩ hK
    have hBs := hB.size
    have hwt : wr ys = txt (toks l) := by unfold wr toks; rw [← hS, List.map_map]; rfl
    rw [hwt] at hb
    have hvc : W.drew.cell? ⟨z, 0, none⟩ = some (.slice none 0 0) := hv.cell
    have hr31c := (hB.block n0 (by omega)).trans hr31
    have hr33c := (hB.block (n0 + 1) (by omega)).trans hr33
    have hmx : Tryd.prog.follows .mixedOrders = true := by kernel_rfl
    have k47 : Calls Tryd.prog 47 #[.pointer (some ⟨n0 + 1 + 1, 0, none⟩)] W.drew fun e w6 => e = .returned (.string (mkB (txt (toks l)))) ∧ w6.cell? ⟨z, 0, none⟩ = some (.slice none 0 0) ∧ w6.cell? ⟨n0, 0, none⟩ = some (.string { data := #[] }) ∧ w6.cell? ⟨n0, 1, none⟩ = some (.slice none 0 0) ∧ w6.frozen? ⟨n0, 0, none⟩ = false ∧ w6.frozen? ⟨n0, 1, none⟩ = false ∧ w6.cell? ⟨n0 + 1, 0, none⟩ = some .nilIface ∧ w6.frozen? ⟨n0 + 1, 0, none⟩ = false ∧ Hid (w6.heap[n0]? = some (.cells #[.string { data := #[] }, .slice none 0 0] 31) ∧ w6.heap[n0 + 1]? = some (.cells #[.nilIface] 33) ∧ w6.heap[D]? = some (.deferred (some [])) ∧ Below n0 w w6) := by
      refine (Tryd.Builder_String_any_k (n0 + 1 + 1) (n0 + 1 + 1) (txt (toks l)) W.drew (.inr hb) (by show _ ≤ W.heap.size; omega)).mono ?_
      rintro e w6 ⟨rfl, hb6, hbl6, hok6⟩
      have h31 : w6.heap[n0]? = some (.cells #[.string { data := #[] }, .slice none 0 0] 31) := (hbl6.block n0 (by omega)).trans hr31c
      have h33 : w6.heap[n0 + 1]? = some (.cells #[.nilIface] 33) := (hbl6.block (n0 + 1) (by omega)).trans hr33c
      have hv6 : Boxed w6 z 27 (.slice none 0 0) := others_cells hok6 (W := W.drew) hv (by omega) (by decide)
      have hK6 : w6.heap[D]? = some (.deferred (some [])) := hok6 D _ hK (fun e => by have := Option.some.inj e; omega) (fun c fz e => by cases e)
      exact ⟨rfl, hv6.cell, by simp [World.cell?, h31], by simp [World.cell?, h31], by simp [World.frozen?, h31], by simp [World.frozen?, h31], by simp [World.cell?, h33], by simp [World.frozen?, h33], ⟨h31, h33, hK6, hBW.trans ((Below.mono (B' := n0) hB (by omega)).drew.trans (Below.mono (B' := n0) hbl6 (by omega)))⟩⟩
    have K47 : Hid _ := k47
    clear k47 hr31c hr33c hr31 hr33 hv ho hpb hb hB hy0 hy1 hx2 hbW
    gi_wp2
    refine wpIn_mono (Q := Exit.then (fun a' W' => a' = { tmps := #[.string s, undef, .pointer (some ⟨n0, 0, none⟩), .pointer (some ⟨n0 + 1, 0, none⟩), .pointer (some ⟨n0 + 1 + 1, 0, none⟩), .pointer (some ⟨z, 0, none⟩), .pointer (some ⟨z + 1, 0, none⟩), undef, undef, undef, undef, .string s, .int .i64 s.size, .tuple #[], .string s, .bool false, undef, undef, undef, .string s, .agg #[.string s, .slice none 0 0], .func (.func 68) #[] #[.pointer (some ⟨z + 1 + 1, 0, none⟩)], undef, undef, undef, undef, undef, undef, undef, undef, undef, undef, undef, undef, undef, undef, undef, undef, undef, undef, undef, undef, undef, undef, undef, undef, undef, undef, .string (mkB (txt (toks l))), .slice none 0 0, .agg #[.string (mkB (txt (toks l))), .slice none 0 0]], defers := [{ target := Target.collected D, args := #[] }] } ∧ ∃ w6 : World, Hid (w6.heap[n0]? = some (.cells #[.string { data := #[] }, .slice none 0 0] 31) ∧ w6.heap[n0 + 1]? = some (.cells #[.nilIface] 33) ∧ w6.heap[D]? = some (.deferred (some [])) ∧ Below n0 w w6) ∧ W' = ((w6.setCell ⟨n0, 0, none⟩ (.string (mkB (txt (toks l))))).setCell ⟨n0, 1, none⟩ (.slice none 0 0)).setCell ⟨n0 + 1, 0, none⟩ .nilIface) (fun _ _ _ => False)) ?_ ?_
    · gi_region_with_o (refine ⟨trivial, (callsIn_wide.2 K47.out).mono ?_⟩; rintro e w6 ⟨rfl, h1, h2, h3, h4, h5, h6, h7, H8⟩)
      all_goals exact ⟨rfl, w6, H8, rfl⟩
    · intro e6 a6 W6 h6
      cases e6 with
      | normal =>
        obtain ⟨rfl, w6, H8, rfl⟩ := h6
        obtain ⟨h31, h33, hKd, hBd⟩ := H8.out
        obtain ⟨W7, hW7⟩ : ∃ W7, ((w6.setCell ⟨n0, 0, none⟩ (.string (mkB (txt (toks l))))).setCell ⟨n0, 1, none⟩ (.slice none 0 0)).setCell ⟨n0 + 1, 0, none⟩ .nilIface = W7 := ⟨_, rfl⟩
        rw [hW7]
        have hD0 : D ≠ n0 ∧ D ≠ n0 + 1 := by omega
        have hK7 : W7.heap[D]? = some (.deferred (some [])) := by
          rw [← hW7, Below.heap_setCell _ _ _ _ hD0.2, Below.heap_setCell _ _ _ _ hD0.1, Below.heap_setCell _ _ _ _ hD0.1]; exact hKd
        have h71 : W7.heap[n0]? = some (.cells #[.string (mkB (txt (toks l))), .slice none 0 0] 31) := by
          rw [← hW7, Below.heap_setCell _ _ _ _ (by show n0 ≠ n0 + 1; omega)]
          simp [World.setCell, Array.getElem?_modify, h31]
        have h73 : W7.heap[n0 + 1]? = some (.cells #[.nilIface] 33) := by
          rw [← hW7]
          simp [World.setCell, Array.getElem?_modify, h33]
        have hB7 : Below n0 w W7 := by
          rw [← hW7]; exact ((hBd.setCell (p := ⟨n0, 0, none⟩) (Nat.le_refl _) _).setCell (p := ⟨n0, 1, none⟩) (Nat.le_refl _) _).setCell (p := ⟨n0 + 1, 0, none⟩) (by show n0 ≤ n0 + 1; omega) _
        clear hW7 h31 h33 hKd hBd H8 K47 hvc
        gi_wp2
        refine ⟨by simp, .inl ⟨_, _, rfl, run_takeDeferred hK7, ?_⟩⟩
        obtain ⟨W8, hW8⟩ : ∃ W8, W7.putObj D (.deferred none) = W8 := ⟨_, rfl⟩
        have h81 : W8.heap[n0]? = some (.cells #[.string (mkB (txt (toks l))), .slice none 0 0] 31) := by rw [← hW8]; exact (World.putObj_heap_other (Ne.symm hD0.1)).trans h71
        have h83 : W8.heap[n0 + 1]? = some (.cells #[.nilIface] 33) := by rw [← hW8]; exact (World.putObj_heap_other (Ne.symm hD0.2)).trans h73
        have hB8 : Below n0 w W8 := by
          rw [← hW8]; exact hB7.grown (grownBy_putObj' W7 D _) (Nat.le_trans (by omega) hB7.size) (fun k e => by cases e; omega)
        rw [hW8]
        clear hW8 hB7 h71 h73 hK7
        have hc1 : W8.cell? ⟨n0, 0, none⟩ = some (.string (mkB (txt (toks l)))) := by simp [World.cell?, h81]
        have hc2 : W8.cell? ⟨n0, 1, none⟩ = some (.slice none 0 0) := by simp [World.cell?, h81]
        have hc3 : W8.cell? ⟨n0 + 1, 0, none⟩ = some .nilIface := by simp [World.cell?, h83]
        refine ⟨.tuple #[.agg #[.string (mkB (txt (toks l))), .slice none 0 0], .nilIface], ?_, rfl, by rw [hn0]; exact hB8⟩
        simp [results, Tryd.results39, go_sem, hc1, hc2, hc3]
      | ret => exact h6.elim
      | exit => exact h6.elim
      | goto => exact h6.elim
      | panic => exact h6.elim
      | outgrown => exact h6.elim
  case stop =>
    rintro D c pre W _ _ h _
    exact h.elim
end Go.Proofs.Qxb6609358aDoor.A
