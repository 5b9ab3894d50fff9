import Derived.Test.Qxb6609358aDoorD
namespace Go.Proofs.Qxb6609358aDoor.A
open Go.ChangeShapes Go.WideShapes Go.ChangeAt Go.RowKit Go.Shelf P
set_option linter.unusedVariables false
attribute [local go_sem] Oper.semAt_some

theorem Tryd.info3x : (Tryd.prog.info? 3).map (fun i => (i.zero, i.size, i.bytes)) = some (some (.int .i64 0), 1, 8) := by kernel_rfl

/-- The ends lie in block g. -/
def EndsAt (w : World) (g : Nat) (ts : List (List UInt8)) : Prop := g < w.heap.size ∧ ∀ (i e : Nat), (cum 0 ts)[i]? = some e → w.cell? ⟨g, i, none⟩ = some (.int .i64 (e : Int))

/-- The ends so far. -/
def ecells (pre : List Tok) : List Value := (cum 0 (pre.map fun x => dec false (tl x))).map fun e : Nat => .int .i64 (e : Int)
theorem ecells_snoc (pre : List Tok) (x : Tok) : ecells (pre ++ [x]) = ecells pre ++ [.int .i64 ((wr (pre ++ [x])).length : Int)] := by
  unfold ecells
  rw [wr_snoc, List.map_append, cum_append, List.map_append]
  simp [cum, wr]
  omega
theorem others_row {W W' : World} {b B k : Nat} {v : Value} {xs : List Value} {c : Array Value} {fz : Nat × Nat} (h : Lib.OthersKept 5 (some b) W W') (hb : W.heap[b]? = some (.cells c 92 fz)) (hr : W.ownsRow B 3 1 v k xs) : W'.ownsRow B 3 1 v k xs := by
  refine ⟨hr.1, ?_⟩
  rcases hr.2 with hn | ⟨g, cap, cur, rfl, h1, h2, h3⟩
  · exact .inl hn
  · refine .inr ⟨g, cap, cur, rfl, h1, others_cells h h2 (fun e => ?_) (by decide), h3⟩
    subst e; rw [hb] at h2; cases h2

theorem raw_count (l : List UInt8) : (raw l).length = Lib.countByte (47 :: l) 47 := by
  unfold Lib.countByte
  induction l with
  | nil => rfl
  | cons c l ih =>
    by_cases h : c = 47
    · subst h
      simp [raw, sp] at ih ⊢
      exact ih
    · simp [raw, sp, h] at ih ⊢
      exact ih

/-- append into a row of the call's own that has room, as one step of a region that draws, inside a fence. -/
theorem step_append_in {F : Fence} {n : Nat} {P : Program} {ops : Array Oper} {o : Oper} {a : Act} {w : World} {K : Act → World → Prop} {Q : Exit → Act → World → Prop} {E : Prop}
    (hg : o.guard = none) (s x : Operand) (t : TypeId) (hop : o.op = Op.call { callee := Callee.builtin Builtin.append, args := #[s, x], argTypes := #[t, t] })
    (base : Nat) (e : TypeId) (i : TypeInfo) (size : Nat) (h1 : P.underlying t = some (.slice e)) (h2 : P.info? e = some i) (h4 : i.size = size)
    (g k cap : Nat) (xs : List Value) (hs : a.eval s = .slice (some ⟨g, 0, none⟩) k cap) (hown : w.ownsRow base e size (.slice (some ⟨g, 0, none⟩) k cap) k xs) (ad : Addr) (m c : Nat) (news : List Value) (hx : a.eval x = .slice (some ad) m c) (hn : news.length = m * size)
    (hc : ∀ j u, news[j]? = some u → w.cell? (ad.add j) = some u) (h1c : ∀ u ∈ news, u.oneCell' = true) (b1 : k + m ≤ cap)
    (hK : ∀ w', w'.ownsRow base e size (.slice (some ⟨g, 0, none⟩) (k + m) cap) (k + m) (xs ++ news) → w.grownBy w' (some g) → K (a.put o.dst (.slice (some ⟨g, 0, none⟩) (k + m) cap)) w') :
    if Region.wanted o (yielded ops a.tmps) = true then Oper.wpIn F n P o a w K Q else E := by
  have hw : Region.wanted o (yielded ops a.tmps) = true := by simp [Region.wanted, hg]
  rw [if_pos hw]
  obtain ⟨w', hrun, r1, r2⟩ := run_append_fits (P := P) w base t o.type e i size h1 h2 h4 g k cap xs hown ad m c news hn hc h1c b1
  unfold Oper.wpIn
  refine ⟨?_, ?_⟩
  · simp [Oper.about, hop, resolve, Target.leads, Sem.run_pure]
  · rw [Oper.semAt_plain F _ _ (by rw [hop]; intro c hc'; cases hc')]
    simp [execOp, hop, resolve, invoke, builtin, hs, hx, hrun, Result.andThen]
    exact hK w' r1 r2

set_option maxRecDepth 100000 in
set_option maxHeartbeats 4000000 in
theorem unesc_ends (s : ByteArray) (l : List UInt8) (m : Int) (w : World) (hs : s.size ≤ 4194304) (hL : L s = 47 :: l) (hw : wf false l = true) (hm : w.cell? ⟨4, 0, none⟩ = some (.int .i64 m)) (hno : Lib.contains s.data.toList [126, 49] = true) :
    Calls Tryd.prog 39 #[.string s] w fun e w' => (∃ g cap, e = .returned (.tuple #[.agg #[.string (mkB (txt (toks l))), .slice (some ⟨g, 0, none⟩) (toks l).length cap], .nilIface]) ∧ EndsAt w' g (toks l)) ∧ Below w.heap.size w w' := by
  have q27 : ∀ (w : World) (a : Option Addr) (n c n' c' : Nat), (binOp .neq 27 (.slice a n c) (.slice none n' c')).run Tryd.prog w = .ok (.bool (!a.isNone)) w := fun w a n c n' c' => run_neq_slice_nil_any w _ _ a n c n' c' Tryd.underlying27
  obtain ⟨n0, hn0⟩ : ∃ n, w.heap.size = n := ⟨_, rfl⟩
  have hm4 : 4 < n0 := by
    rw [← hn0]
    rcases Nat.lt_or_ge 4 w.heap.size with h | h
    · exact h
    · simp [World.cell?, Array.getElem?_eq_none h] at hm
  refine (callsIn_wide (n := 5)).1 ?_
  refine callsIn_of_wp_marks Tryd.func39 rfl trivial ?_ rfl
  simp only [Tryd.ntmps39, List.size_toArray, List.length_cons, List.length_nil, Nat.reduceAdd, Nat.reduceSub, Array.replicate_succ, Array.replicate_zero, List.push_toArray, List.append_toArray, List.nil_append, List.cons_append]
  gi_wp2
  obtain ⟨w3, hw3⟩ : ∃ w3, ((w.alloc (.cells #[.string { data := #[] }, .slice none 0 0] 31)).alloc (.cells #[.nilIface] 33)).alloc (.cells #[.pointer none, .slice none 0 0] 92) = w3 := ⟨_, rfl⟩
  rw [hw3]
  have hsz3 : w3.heap.size = n0 + 3 := by rw [← hw3]; simp [hn0]
  have hB3 : Below n0 w w3 := by rw [← hw3, ← hn0]; exact (((Below.refl _ w).alloc (Nat.le_refl _) _).alloc (by simp) _).alloc (by simp; omega) _
  have hr31 : w3.heap[n0]? = some (.cells #[.string { data := #[] }, .slice none 0 0] 31) := by
    rw [← hw3, ← hn0, Below.heap_alloc _ _ _ (by simp; omega), Below.heap_alloc _ _ _ (by simp)]; exact World.alloc_heap_new w _
  have hr33 : w3.heap[n0 + 1]? = some (.cells #[.nilIface] 33) := by
    rw [← hw3, ← hn0, Below.heap_alloc _ _ _ (by simp)]; have := World.alloc_heap_new (w.alloc (.cells #[.string { data := #[] }, .slice none 0 0] 31)) (.cells #[.nilIface] 33); rwa [World.size_alloc] at this
  have hr92 : w3.heap[n0 + 1 + 1]? = some (.cells #[.pointer none, .slice none 0 0] 92) := by
    rw [← hw3, ← hn0]; have := World.alloc_heap_new ((w.alloc (.cells #[.string { data := #[] }, .slice none 0 0] 31)).alloc (.cells #[.nilIface] 33)) (.cells #[.pointer none, .slice none 0 0] 92); rwa [World.size_alloc, World.size_alloc] at this
  clear hw3
  refine ⟨trivial, (callsIn_wide.2 (Tryd.Builder_Grow_fresh (n0 + 1 + 1) (n0 + 1 + 1) s.size w3 (Nat.le_refl _) hr92 (by omega) (by omega))).mono ?_⟩
  rintro e w4 ⟨rfl, hb4, hbl4⟩
  have hb4' : Bld (n0 + 1 + 1) (n0 + 1 + 1) [] w4 := Lib.BuilderAtF.of hb4
  have hsz4 := hbl4.size
  have hm4' : w4.cell? ⟨4, 0, none⟩ = some (.int .i64 m) := (hbl4.cell (p := ⟨4, 0, none⟩) (by show 4 < _; omega)).trans ((hB3.cell (p := ⟨4, 0, none⟩) hm4).trans hm)
  replace hr31 := (hbl4.block n0 (by omega)).trans hr31
  replace hr33 := (hbl4.block (n0 + 1) (by omega)).trans hr33
  have hB4 : Below n0 w w4 := hB3.trans (hbl4.mono (by omega))
  clear hb4 hbl4 hB3 hr92
  rw [hsz3] at hsz4
  clear hsz3
  obtain ⟨z, hz⟩ : ∃ z, w4.heap.size = z := ⟨_, rfl⟩
  rw [hz] at hsz4
  have k54 := Tryd.strings_Contains s ⟨#[126, 49]⟩ m (w4.alloc (.cells #[.slice none 0 0] 27)) (by omega) (Lib.cell?_alloc_some _ hm4')
  rw [show (⟨#[126, 49]⟩ : ByteArray).data.toList = [126, 49] from rfl, hno] at k54
  have K54 : Hid _ := k54
  clear k54 hm4' hm hno
  gi_wp2
  refine ⟨trivial, (callsIn_wide.2 K54.out).mono ?_⟩
  rintro e w5 ⟨rfl, rfl⟩
  have k55 := Tryd.strings_Count_one s 47 (w4.alloc (.cells #[.slice none 0 0] 27))
  have hcnt : Lib.countByte s.data.toList 47 ≤ s.size := by
    have := List.count_le_length (a := (47 : UInt8)) (l := s.data.toList)
    rw [show s.data.toList = L s from rfl] at this ⊢
    rw [L_len] at this
    exact this
  obtain ⟨N, hN⟩ : ∃ N, Lib.countByte s.data.toList 47 = N := ⟨_, rfl⟩
  have hNr : (raw l).length = N := by rw [raw_count, ← hL]; exact hN
  rw [hN] at k55 hcnt
  have K55 : Hid _ := k55
  obtain ⟨i3, hi3, hz30, hz31, hz32⟩ := info_parts Tryd.info3x
  have hx0 : Boxed (w4.alloc (.cells #[.slice none 0 0] 27)) z 27 (.slice none 0 0) := by rw [← hz]; exact Boxed.new w4 27 _
  clear K54 k55 hN
  gi_wp2
  refine ⟨trivial, (callsIn_wide.2 K55.out).mono ?_⟩
  rintro e w5 ⟨rfl, rfl⟩
  clear K55
  gi_wp2_with (gi_at_make; refine wpListIn_make_own _ rfl _ _ 27 rfl (n0 + 1 + 1) 3 i3 (.int .i64 0) 1 Tryd.underlying27 hi3 hz30 hz31 .i64 .i64 _ N rfl rfl rfl (by rw [hz32]; omega) (by simp [maxLen]; omega) (by simp [hz]; omega) ?_; intro w5 hown5 hg5; have hx0' := hx0.kept hg5 (by simp); have hc5 := hx0'.cell; have hf5 := hx0'.frozen; obtain ⟨z2, hz2⟩ : ∃ z2, w5.heap.size = z2 := ⟨_, rfl⟩)
  refine ⟨trivial, (all_in 4 s (.slice none 0 0) _).mono ?_⟩
  rintro e w6 ⟨rfl, rfl⟩
  have hz1 : z + 1 + 1 ≤ z2 := by
    rcases hown5.2 with ⟨h, _⟩ | ⟨g, cap, cur, hv, _, hgb, _⟩
    · cases h
    · have : g < w5.heap.size := (Array.getElem?_eq_some_iff.1 hgb).1
      simp [hz] at hv
      omega
  have hbox : Boxed (w5.setCell ⟨z, 0, none⟩ (.slice (some ⟨z + 1, 0, none⟩) 0 N)) z 27 (.slice (some ⟨z + 1, 0, none⟩) 0 N) := hx0'.set _
  have hown6 : (w5.setCell ⟨z, 0, none⟩ (.slice (some ⟨z + 1, 0, none⟩) 0 N)).ownsRow (n0 + 1 + 1) 3 1 (.slice (some ⟨z + 1, 0, none⟩) 0 N) 0 [] := by
    simp only [World.size_alloc, hz] at hown5
    exact hown5.kept (grownBy_setCell' w5 z _) (.inr (by simp [Value.ownBlock]))
  have hb5 : Bld (n0 + 1 + 1) (n0 + 1 + 1) [] (w5.setCell ⟨z, 0, none⟩ (.slice (some ⟨z + 1, 0, none⟩) 0 N)) :=
    bld_kept (bld_kept (bld_kept hb4' (World.grownBy_alloc _ _ none) (fun r e => by cases e)) hg5 (fun r e => by cases e)) (grownBy_setCell' w5 z _) (fun r e => by cases e; exact ⟨by omega, _, hx0', fun c fz e => by cases e⟩)
  have hB5 : Below (n0 + 1 + 1) w4 (w5.setCell ⟨z, 0, none⟩ (.slice (some ⟨z + 1, 0, none⟩) 0 N)) :=
    ((((Below.refl _ w4).alloc (by omega) _).grown hg5 (by simp; omega) (fun k e => by cases e))).setCell (p := ⟨z, 0, none⟩) (by show n0 + 1 + 1 ≤ z; omega) _
  have hz6 : (w5.setCell ⟨z, 0, none⟩ (.slice (some ⟨z + 1, 0, none⟩) 0 N)).heap.size = z2 := by rw [← hz2]; simp [World.setCell]
  obtain ⟨w6, hw6⟩ : ∃ w6, w5.setCell ⟨z, 0, none⟩ (.slice (some ⟨z + 1, 0, none⟩) 0 N) = w6 := ⟨_, rfl⟩
  rw [hw6] at hbox hown6 hb5 hB5 hz6 ⊢
  clear hw6 hg5 hown5 hx0' hc5 hf5 hx0 hb4' hz2
  simp only [World.size_alloc, hz6]
  have hx1 : Boxed (w6.alloc (.cells #[.int .i64 1] 3)) z2 3 (.int .i64 1) := by rw [← hz6]; exact Boxed.new w6 3 _
  have hx2 : ((w6.alloc (.cells #[.int .i64 1] 3)).alloc (boxP s (.slice none 0 0))).heap[z2 + 1]? = some (boxP s (.slice none 0 0)) := by
    have := World.alloc_heap_new (w6.alloc (.cells #[.int .i64 1] 3)) (boxP s (.slice none 0 0)); rwa [World.size_alloc, hz6] at this
  obtain ⟨W0, hW0⟩ : ∃ W0, (w6.alloc (.cells #[.int .i64 1] 3)).alloc (boxP s (.slice none 0 0)) = W0 := ⟨_, rfl⟩
  have hy0 : Boxed W0 z 27 (.slice (some ⟨z + 1, 0, none⟩) 0 N) := by rw [← hW0]; exact (hbox.alloc _).alloc _
  have hy1 : Boxed W0 z2 3 (.int .i64 1) := by rw [← hW0]; exact hx1.alloc _
  have hyr : W0.ownsRow (n0 + 1 + 1) 3 1 (.slice (some ⟨z + 1, 0, none⟩) 0 N) 0 [] := by rw [← hW0]; exact (hown6.alloc _).alloc _
  rw [hW0] at hx2
  have hBW : Below (n0 + 1 + 1) w4 W0 := by rw [← hW0]; exact (hB5.alloc (by omega) _).alloc (by simp; omega) _
  have hbW : Bld (n0 + 1 + 1) (n0 + 1 + 1) [] W0 := by
    rw [← hW0]
    exact bld_kept (bld_kept hb5 (World.grownBy_alloc _ _ none) (fun r e => by cases e)) (World.grownBy_alloc _ _ none) (fun r e => by cases e)
  have hszW : W0.heap.size = z2 + 2 := by rw [← hW0]; simp [hz6]
  replace hr31 := (hBW.block n0 (by omega)).trans hr31
  replace hr33 := (hBW.block (n0 + 1) (by omega)).trans hr33
  replace hBW : Below n0 w W0 := hB4.trans (hBW.mono (by omega))
  rw [hW0]
  clear hW0 hx1 hB4 hz hbox hown6 hb5 hB5 hz6 w4 w6 w5
  gi_wp2
  refine wpIn_rangeFunc_ownF rfl (by omega) (gf := 68) (lb := #[.pointer (some ⟨z2 + 1, 0, none⟩)]) rfl trivial (enters_of Tryd.func68 (by kernel_rfl) rfl)
    (all_stops 4 (by omega) (z2 + 1) s l hs hL hw W0 hx2) (fun h k => Eq.trans k h) (fun W lq o o' h1 h2 h3 h4 => World.putObj_heap_other (by omega)) (Below.refl _ _) (fun _ => rfl)
    (fun pre W => (Bld (n0 + 1 + 1) (n0 + 1 + 1) (wr pre) W ∧ (∃ v, Boxed W z 27 v ∧ W.ownsRow (n0 + 1 + 1) 3 1 v pre.length (ecells pre) ∧ v = .slice (some ⟨z + 1, 0, none⟩) pre.length N) ∧ (∃ o, Boxed W z2 3 (.int .i64 o)) ∧ W.heap[z2 + 1]? = some (.cells #[.string s, .slice none 0 0] 31 (0, 0))) ∧ Below (n0 + 1 + 1) W0 W)
    (fun _ _ _ => False)
    (OwnFrom.and (Own.from (fun sx A B row hh hg hr => ⟨bld_own _ _ wr sx A B row hh.1 hg hr, holdsRow_own (n0 + 1 + 1) z 27 3 1 (fun pre : List Tok => pre.length) ecells (fun pre v => v = .slice (some ⟨z + 1, 0, none⟩) pre.length N) sx A B row hh.2.1 hg hr, hh.2.2.1.elim fun o ho => ⟨o, boxed_own z2 3 (fun _ => .int .i64 o) sx A B row ho hg hr⟩, cells_own (z2 + 1) _ _ _ sx A B row hh.2.2.2 hg hr⟩) _) (ownFrom_below (by omega) (by omega)))
    (fun _ _ _ _ _ hh _ _ => hh)
    ⟨⟨hbW, ⟨_, hy0, hyr, rfl⟩, ⟨_, hy1⟩, hx2⟩, Below.refl _ _⟩
    (fun x => { tmps := #[.string s, undef, .pointer (some ⟨n0, 0, none⟩), .pointer (some ⟨n0 + 1, 0, none⟩), .pointer (some ⟨n0 + 1 + 1, 0, none⟩), .pointer (some ⟨z, 0, none⟩), .pointer (some ⟨z2, 0, none⟩), undef, .string x.1.2, undef, undef, .string s, .int .i64 s.size, .tuple #[], .string s, .bool true, .string s, .int .i64 N, .slice (some ⟨z + 1, 0, none⟩) 0 N, .string s, .agg #[.string s, .slice none 0 0], .func (.func 68) #[] #[.pointer (some ⟨z2 + 1, 0, none⟩)], .int .i64 (x.1.1 : Int), .string x.1.2, undef, undef, undef, undef, undef, undef, undef, undef, undef, undef, undef, undef, undef, undef, undef, undef, undef, undef, undef, undef, undef, undef, undef, undef, undef, undef, undef], defers := [] }) ?assign ?body ?done ?stop
  case assign =>
    intro lq x W K hK
    gi_wp2
    exact hK
  case body =>
    rintro lq pre x W ⟨⟨hb, ⟨_, hv, hrow, rfl⟩, ⟨o, ho⟩, hpb⟩, hB⟩ hpre
    have hBs := hB.size
    have hlw := wr_len pre
    have hrl := raw_len l
    have hll : l.length + 1 = s.size := by rw [← L_len, hL]; rfl
    have hbk : W.heap[n0 + 1 + 1]? = some (.cells #[.pointer (some ⟨n0 + 1 + 1, 0, none⟩), hb.2.choose] 92 (0, 0)) := hb.2.choose_spec.1
    have k46 := wbW (n0 + 1 + 1) (n0 + 1 + 1) (wr pre) 47 W W ⟨hb, Below.refl _ _, Lib.OthersKept.refl _ _ _⟩ (by omega) (by omega)
    have K46 : Hid _ := k46
    clear k46
    gi_wp2
    refine ⟨trivial, (CallsIn.inRound lq (callsIn_wide.2 K46.out)).mono ?_⟩
    rintro e W1 ⟨rfl, h1⟩
    have hs1 := h1.size
    have k57 := unt (n0 + 1 + 1) (n0 + 1 + 1) (wr pre ++ [47]) x.1.2 W1 h1.bld x.2.1 x.2.2 (by simp; omega) (by omega)
    have K57 : Hid _ := k57
    have H1 : Hid _ := h1
    clear k57 K46 h1
    gi_wp2
    refine ⟨trivial, (CallsIn.inRound lq (callsIn_wide.2 K57.out)).mono ?_⟩
    rintro e W2 ⟨rfl, h2⟩
    have hW2 : Wrote (n0 + 1 + 1) (n0 + 1 + 1) (wr (pre ++ [x])) W W2 := ⟨by rw [wr_snoc]; exact h2.bld, H1.out.below.trans h2.below, H1.out.others.trans h2.others⟩
    have HW2 : Hid _ := hW2
    have hs2 := hW2.size
    have hv2 : Boxed W2.drew z 27 (.slice (some ⟨z + 1, 0, none⟩) pre.length N) := others_cells hW2.others hv (by omega) (by decide)
    have hrow2 : W2.drew.ownsRow (n0 + 1 + 1) 3 1 (.slice (some ⟨z + 1, 0, none⟩) pre.length N) pre.length (ecells pre) := others_row hW2.others hbk hrow
    have ho2 : Boxed W2 z2 3 (.int .i64 o) := others_cells hW2.others ho (by omega) (by decide)
    have hpb2 := others_cells hW2.others hpb (by omega) (by decide)
    have hko : KeepsOthers W W2 := others_keeps hW2.others hs2 hbk
    have hvc : W2.cell? ⟨z, 0, none⟩ = some (.slice (some ⟨z + 1, 0, none⟩) pre.length N) := hv2.cell
    have hvd := hv2.cell
    have hBn : Below (n0 + 1 + 1) W0 W2 := hB.trans hW2.below
    have k58 := Tryd.Builder_Len_f (n0 + 1 + 1) (n0 + 1 + 1) (Lib.byteCells (wr (pre ++ [x]))) W2.drew (.inr hW2.bld)
    rw [Lib.byteCells_length] at k58
    have K58 : Hid _ := k58
    have hmx : Tryd.prog.follows .mixedOrders = true := by kernel_rfl
    have hBd : n0 + 1 + 1 ≤ W2.drew.heap.size := by show _ ≤ W2.heap.size; omega
    have hva : (W2.alloc (.cells #[.int .i64 ((wr (pre ++ [x])).length : Int)] 3)).cell? ⟨z, 0, none⟩ = some (.slice (some ⟨z + 1, 0, none⟩) pre.length N) := (hv2.alloc _).cell
    have hg1 : ∃ cur, W2.drew.heap[z + 1]? = some (.cells cur 3 (0, 0)) := by
      rcases hrow2.2 with ⟨h, _⟩ | ⟨g, cap', cur, h1, _, h2, _⟩
      · cases h
      · cases h1; exact ⟨cur, h2⟩
    obtain ⟨cur1, hcur1⟩ := hg1
    have hcur2 : (W2.drew.alloc (.cells #[.int .i64 ((wr (pre ++ [x])).length : Int)] 3)).heap[z + 1]? = some (.cells cur1 3 (0, 0)) := (Below.heap_alloc _ _ _ (Array.getElem?_eq_some_iff.1 hcur1).1).trans hcur1
    have hbd : Bld (n0 + 1 + 1) (n0 + 1 + 1) (wr (pre ++ [x])) (W2.drew.alloc (.cells #[.int .i64 ((wr (pre ++ [x])).length : Int)] 3)) := bld_kept (W := W2.drew) hW2.bld (World.grownBy_alloc _ _ none) (fun r e => by cases e)
    have hod : Boxed (W2.drew.alloc (.cells #[.int .i64 ((wr (pre ++ [x])).length : Int)] 3)) z2 3 (.int .i64 o) := Boxed.alloc (W := W2.drew) ho2 _
    have hpd : (W2.drew.alloc (.cells #[.int .i64 ((wr (pre ++ [x])).length : Int)] 3)).heap[z2 + 1]? = some (.cells #[.string s, .slice none 0 0] 31 (0, 0)) := (Below.heap_alloc _ _ _ (Array.getElem?_eq_some_iff.1 hpb2).1).trans hpb2
    have hkd : KeepsOthers W W2.drew := hko.trans (KeepsOthers.drew _)
    have hpbW : W.heap[z2 + 1]? = some (.cells #[.string s, .slice none 0 0] 31 (0, 0)) := hpb
    clear hW2 h2 H1 K57 hbk hb hv hrow ho hpb k58
    gi_wp2
    refine wpIn_region_any hmx ?_
    change wpAnyIn _ _ _ _ _ _ _ _ _ (World.drew _)
    refine wpAnyIn_ready (rs := [0, 1]) (by kernel_rfl) (by simp) ?_
    refine AllReadyIn.cons rfl (fun K hK => ?_) (AllReadyIn.cons rfl (fun K hK => ?_) AllReadyIn.nil)
    · go_simp
      refine hK _ _ ?_
      clear hK K
      refine wpAnyIn_ready (rs := [1]) (by kernel_rfl) (by simp) ?_
      refine AllReadyIn.cons rfl (fun K hK => ?_) AllReadyIn.nil
      go_simp
      refine ⟨trivial, (CallsIn.inRound lq (callsIn_wide.2 K58.out)).mono ?_⟩
      rintro e w' ⟨rfl, rfl⟩
      refine hK _ _ ?_
      clear hK K
      refine wpAnyIn_ready (rs := [2]) (by kernel_rfl) (by simp) ?_
      refine AllReadyIn.cons rfl (fun K hK => ?_) AllReadyIn.nil
      go_simp
      refine hK _ _ ?_
      clear hK K
      refine wpAnyIn_ready (rs := [3]) (by kernel_rfl) (by simp) ?_
      refine AllReadyIn.cons rfl (fun K hK => ?_) AllReadyIn.nil
      refine step_append_in rfl (.tmp 39) (.tmp 41) 27 rfl (n0 + 1 + 1) 3 i3 1 Tryd.underlying27 hi3 hz31 (z + 1) pre.length N (ecells pre) rfl (hrow2.alloc _) ⟨W2.drew.heap.size, 0, none⟩ 1 1 [.int .i64 ((wr (pre ++ [x])).length : Int)] rfl rfl (cell_one_new _ _ _) (by simp [Value.oneCell']) (by omega) ?_
      intro w1 hown' hgrow
      obtain ⟨hb1, hb2, hr2, hk2, hbl2⟩ := hv2.appended (by decide) hrow2 hBd (by omega) hown' hgrow
      have hc1 := hb1.cell
      have hf1 := hb1.frozen
      refine hK _ _ ?_
      clear hK K
      refine wpAnyIn_ready (rs := [4]) (by kernel_rfl) (by simp) ?_
      refine AllReadyIn.cons rfl (fun K hK => ?_) AllReadyIn.nil
      go_simp
      refine hK _ _ ?_
      clear hK K
      refine wpAnyIn_done (by kernel_rfl) ?_ _
      clear K58
      have ho3 : Boxed (w1.setCell ⟨z, 0, none⟩ (.slice (some ⟨z + 1, 0, none⟩) (pre.length + 1) N)) z2 3 (.int .i64 o) := (hod.kept hgrow (by simp; omega)).kept (grownBy_setCell' w1 z _) (by simp; omega)
      have hoc := ho3.cell
      have hof := ho3.frozen
      have hp3 : (w1.setCell ⟨z, 0, none⟩ (.slice (some ⟨z + 1, 0, none⟩) (pre.length + 1) N)).heap[z2 + 1]? = some (.cells #[.string s, .slice none 0 0] 31 (0, 0)) := (Below.heap_setCell _ _ _ _ (by show z2 + 1 ≠ z; omega)).trans ((hgrow.block (z2 + 1) (Array.getElem?_eq_some_iff.1 hpd).1 (by simp; omega)).trans hpd)
      have hb3 : Bld (n0 + 1 + 1) (n0 + 1 + 1) (wr (pre ++ [x])) (w1.setCell ⟨z, 0, none⟩ (.slice (some ⟨z + 1, 0, none⟩) (pre.length + 1) N)) := bld_kept (bld_kept hbd hgrow (fun r e => by cases e; exact ⟨by omega, _, hcur2, fun c fz e => by cases e⟩)) (grownBy_setCell' w1 z _) (fun r e => by cases e; exact ⟨by omega, _, hb1, fun c fz e => by cases e⟩)
      have hB3 : Below (n0 + 1 + 1) W0 (w1.setCell ⟨z, 0, none⟩ (.slice (some ⟨z + 1, 0, none⟩) (pre.length + 1) N)) := hBn.drew.trans hbl2
      have hk3 := hkd.trans hk2
      obtain ⟨W3, hW3⟩ : ∃ W3, w1.setCell ⟨z, 0, none⟩ (.slice (some ⟨z + 1, 0, none⟩) (pre.length + 1) N) = W3 := ⟨_, rfl⟩
      rw [hW3] at ho3 hoc hof hp3 hb3 hB3 hk3 hb2 hr2 ⊢
      clear hW3 hgrow hown' hb1 hc1 hf1 hbd hod hpd hcur2 hcur1 hva hvc hvd hrow2 hv2 hbl2 hk2
      gi_wp2
      have hg := grownBy_setCell' W3 z2 (.int .i64 (wrap64 (o + ((x.1.2.size : Int) + 1))))
      have hp4 : (W3.setCell ⟨z2, 0, none⟩ (.int .i64 (wrap64 (o + ((x.1.2.size : Int) + 1))))).heap[z2 + 1]? = some (.cells #[.string s, .slice none 0 0] 31 (0, 0)) := (Below.heap_setCell _ _ _ _ (by show z2 + 1 ≠ z2; omega)).trans hp3
      exact ⟨hk3.trans (KeepsOthers.setCell _ _ _), hp4.trans hpbW.symm,
        ⟨bld_kept hb3 hg (fun r e => by cases e; exact ⟨by omega, _, ho3, fun c fz e => by cases e⟩),
          ⟨_, hb2.kept hg (by simp; omega), by rw [ecells_snoc, List.length_append]; exact hr2.kept hg (.inr (by simp [Value.ownBlock]; omega)), by rw [List.length_append]; rfl⟩, ⟨_, ho3.set _⟩, hp4⟩,
        hB3.setCell (p := ⟨z2, 0, none⟩) (by show n0 + 1 + 1 ≤ z2; omega) _⟩
    · go_simp
      refine ⟨trivial, (CallsIn.inRound lq (callsIn_wide.2 K58.out)).mono ?_⟩
      rintro e w' ⟨rfl, rfl⟩
      refine hK _ _ ?_
      clear hK K
      refine wpAnyIn_ready (rs := [0,2]) (by kernel_rfl) (by simp) ?_
      refine AllReadyIn.cons rfl (fun K hK => ?_) (AllReadyIn.cons rfl (fun K hK => ?_) AllReadyIn.nil)
      · go_simp
        refine hK _ _ ?_
        clear hK K
        refine wpAnyIn_ready (rs := [2]) (by kernel_rfl) (by simp) ?_
        refine AllReadyIn.cons rfl (fun K hK => ?_) AllReadyIn.nil
        go_simp
        refine hK _ _ ?_
        clear hK K
        refine wpAnyIn_ready (rs := [3]) (by kernel_rfl) (by simp) ?_
        refine AllReadyIn.cons rfl (fun K hK => ?_) AllReadyIn.nil
        refine step_append_in rfl (.tmp 39) (.tmp 41) 27 rfl (n0 + 1 + 1) 3 i3 1 Tryd.underlying27 hi3 hz31 (z + 1) pre.length N (ecells pre) rfl (hrow2.alloc _) ⟨W2.drew.heap.size, 0, none⟩ 1 1 [.int .i64 ((wr (pre ++ [x])).length : Int)] rfl rfl (cell_one_new _ _ _) (by simp [Value.oneCell']) (by omega) ?_
        intro w1 hown' hgrow
        obtain ⟨hb1, hb2, hr2, hk2, hbl2⟩ := hv2.appended (by decide) hrow2 hBd (by omega) hown' hgrow
        have hc1 := hb1.cell
        have hf1 := hb1.frozen
        refine hK _ _ ?_
        clear hK K
        refine wpAnyIn_ready (rs := [4]) (by kernel_rfl) (by simp) ?_
        refine AllReadyIn.cons rfl (fun K hK => ?_) AllReadyIn.nil
        go_simp
        refine hK _ _ ?_
        clear hK K
        refine wpAnyIn_done (by kernel_rfl) ?_ _
        clear K58
        have ho3 : Boxed (w1.setCell ⟨z, 0, none⟩ (.slice (some ⟨z + 1, 0, none⟩) (pre.length + 1) N)) z2 3 (.int .i64 o) := (hod.kept hgrow (by simp; omega)).kept (grownBy_setCell' w1 z _) (by simp; omega)
        have hoc := ho3.cell
        have hof := ho3.frozen
        have hp3 : (w1.setCell ⟨z, 0, none⟩ (.slice (some ⟨z + 1, 0, none⟩) (pre.length + 1) N)).heap[z2 + 1]? = some (.cells #[.string s, .slice none 0 0] 31 (0, 0)) := (Below.heap_setCell _ _ _ _ (by show z2 + 1 ≠ z; omega)).trans ((hgrow.block (z2 + 1) (Array.getElem?_eq_some_iff.1 hpd).1 (by simp; omega)).trans hpd)
        have hb3 : Bld (n0 + 1 + 1) (n0 + 1 + 1) (wr (pre ++ [x])) (w1.setCell ⟨z, 0, none⟩ (.slice (some ⟨z + 1, 0, none⟩) (pre.length + 1) N)) := bld_kept (bld_kept hbd hgrow (fun r e => by cases e; exact ⟨by omega, _, hcur2, fun c fz e => by cases e⟩)) (grownBy_setCell' w1 z _) (fun r e => by cases e; exact ⟨by omega, _, hb1, fun c fz e => by cases e⟩)
        have hB3 : Below (n0 + 1 + 1) W0 (w1.setCell ⟨z, 0, none⟩ (.slice (some ⟨z + 1, 0, none⟩) (pre.length + 1) N)) := hBn.drew.trans hbl2
        have hk3 := hkd.trans hk2
        obtain ⟨W3, hW3⟩ : ∃ W3, w1.setCell ⟨z, 0, none⟩ (.slice (some ⟨z + 1, 0, none⟩) (pre.length + 1) N) = W3 := ⟨_, rfl⟩
        rw [hW3] at ho3 hoc hof hp3 hb3 hB3 hk3 hb2 hr2 ⊢
        clear hW3 hgrow hown' hb1 hc1 hf1 hbd hod hpd hcur2 hcur1 hva hvc hvd hrow2 hv2 hbl2 hk2
        gi_wp2
        have hg := grownBy_setCell' W3 z2 (.int .i64 (wrap64 (o + ((x.1.2.size : Int) + 1))))
        have hp4 : (W3.setCell ⟨z2, 0, none⟩ (.int .i64 (wrap64 (o + ((x.1.2.size : Int) + 1))))).heap[z2 + 1]? = some (.cells #[.string s, .slice none 0 0] 31 (0, 0)) := (Below.heap_setCell _ _ _ _ (by show z2 + 1 ≠ z2; omega)).trans hp3
        exact ⟨hk3.trans (KeepsOthers.setCell _ _ _), hp4.trans hpbW.symm,
          ⟨bld_kept hb3 hg (fun r e => by cases e; exact ⟨by omega, _, ho3, fun c fz e => by cases e⟩),
            ⟨_, hb2.kept hg (by simp; omega), by rw [ecells_snoc, List.length_append]; exact hr2.kept hg (.inr (by simp [Value.ownBlock]; omega)), by rw [List.length_append]; rfl⟩, ⟨_, ho3.set _⟩, hp4⟩,
          hB3.setCell (p := ⟨z2, 0, none⟩) (by show n0 + 1 + 1 ≤ z2; omega) _⟩
      · go_simp
        refine hK _ _ ?_
        clear hK K
        refine wpAnyIn_ready (rs := [0]) (by kernel_rfl) (by simp) ?_
        refine AllReadyIn.cons rfl (fun K hK => ?_) AllReadyIn.nil
        go_simp
        refine hK _ _ ?_
        clear hK K
        refine wpAnyIn_ready (rs := [3]) (by kernel_rfl) (by simp) ?_
        refine AllReadyIn.cons rfl (fun K hK => ?_) AllReadyIn.nil
        refine step_append_in rfl (.tmp 39) (.tmp 41) 27 rfl (n0 + 1 + 1) 3 i3 1 Tryd.underlying27 hi3 hz31 (z + 1) pre.length N (ecells pre) rfl (hrow2.alloc _) ⟨W2.drew.heap.size, 0, none⟩ 1 1 [.int .i64 ((wr (pre ++ [x])).length : Int)] rfl rfl (cell_one_new _ _ _) (by simp [Value.oneCell']) (by omega) ?_
        intro w1 hown' hgrow
        obtain ⟨hb1, hb2, hr2, hk2, hbl2⟩ := hv2.appended (by decide) hrow2 hBd (by omega) hown' hgrow
        have hc1 := hb1.cell
        have hf1 := hb1.frozen
        refine hK _ _ ?_
        clear hK K
        refine wpAnyIn_ready (rs := [4]) (by kernel_rfl) (by simp) ?_
        refine AllReadyIn.cons rfl (fun K hK => ?_) AllReadyIn.nil
        go_simp
        refine hK _ _ ?_
        clear hK K
        refine wpAnyIn_done (by kernel_rfl) ?_ _
        clear K58
        have ho3 : Boxed (w1.setCell ⟨z, 0, none⟩ (.slice (some ⟨z + 1, 0, none⟩) (pre.length + 1) N)) z2 3 (.int .i64 o) := (hod.kept hgrow (by simp; omega)).kept (grownBy_setCell' w1 z _) (by simp; omega)
        have hoc := ho3.cell
        have hof := ho3.frozen
        have hp3 : (w1.setCell ⟨z, 0, none⟩ (.slice (some ⟨z + 1, 0, none⟩) (pre.length + 1) N)).heap[z2 + 1]? = some (.cells #[.string s, .slice none 0 0] 31 (0, 0)) := (Below.heap_setCell _ _ _ _ (by show z2 + 1 ≠ z; omega)).trans ((hgrow.block (z2 + 1) (Array.getElem?_eq_some_iff.1 hpd).1 (by simp; omega)).trans hpd)
        have hb3 : Bld (n0 + 1 + 1) (n0 + 1 + 1) (wr (pre ++ [x])) (w1.setCell ⟨z, 0, none⟩ (.slice (some ⟨z + 1, 0, none⟩) (pre.length + 1) N)) := bld_kept (bld_kept hbd hgrow (fun r e => by cases e; exact ⟨by omega, _, hcur2, fun c fz e => by cases e⟩)) (grownBy_setCell' w1 z _) (fun r e => by cases e; exact ⟨by omega, _, hb1, fun c fz e => by cases e⟩)
        have hB3 : Below (n0 + 1 + 1) W0 (w1.setCell ⟨z, 0, none⟩ (.slice (some ⟨z + 1, 0, none⟩) (pre.length + 1) N)) := hBn.drew.trans hbl2
        have hk3 := hkd.trans hk2
        obtain ⟨W3, hW3⟩ : ∃ W3, w1.setCell ⟨z, 0, none⟩ (.slice (some ⟨z + 1, 0, none⟩) (pre.length + 1) N) = W3 := ⟨_, rfl⟩
        rw [hW3] at ho3 hoc hof hp3 hb3 hB3 hk3 hb2 hr2 ⊢
        clear hW3 hgrow hown' hb1 hc1 hf1 hbd hod hpd hcur2 hcur1 hva hvc hvd hrow2 hv2 hbl2 hk2
        gi_wp2
        have hg := grownBy_setCell' W3 z2 (.int .i64 (wrap64 (o + ((x.1.2.size : Int) + 1))))
        have hp4 : (W3.setCell ⟨z2, 0, none⟩ (.int .i64 (wrap64 (o + ((x.1.2.size : Int) + 1))))).heap[z2 + 1]? = some (.cells #[.string s, .slice none 0 0] 31 (0, 0)) := (Below.heap_setCell _ _ _ _ (by show z2 + 1 ≠ z2; omega)).trans hp3
        exact ⟨hk3.trans (KeepsOthers.setCell _ _ _), hp4.trans hpbW.symm,
          ⟨bld_kept hb3 hg (fun r e => by cases e; exact ⟨by omega, _, ho3, fun c fz e => by cases e⟩),
            ⟨_, hb2.kept hg (by simp; omega), by rw [ecells_snoc, List.length_append]; exact hr2.kept hg (.inr (by simp [Value.ownBlock]; omega)), by rw [List.length_append]; rfl⟩, ⟨_, ho3.set _⟩, hp4⟩,
          hB3.setCell (p := ⟨z2, 0, none⟩) (by show n0 + 1 + 1 ≤ z2; omega) _⟩
  case done =>
    rintro D ys W hD hS ⟨⟨hb, ⟨_, hv, hrow, rfl⟩, ⟨o, ho⟩, hpb⟩, hB⟩ hK
    have hBs := hB.size
    have hwt : wr ys = txt (toks l) := by unfold wr toks; rw [← hS, List.map_map]; rfl
    rw [hwt] at hb
    have hvc : W.drew.cell? ⟨z, 0, none⟩ = some (.slice (some ⟨z + 1, 0, none⟩) ys.length N) := hv.cell
    have hr31c := (hB.block n0 (by omega)).trans hr31
    have hr33c := (hB.block (n0 + 1) (by omega)).trans hr33
    have hg1 : ∃ cur, W.drew.heap[z + 1]? = some (.cells cur 3 (0, 0)) ∧ cur.toList.take ys.length = ecells ys := by
      rcases hrow.2 with ⟨h, _⟩ | ⟨g, cap', cur, h1, _, h2, _, _, _, h3⟩
      · cases h
      · cases h1; rw [Nat.mul_one] at h3; exact ⟨cur, h2, h3⟩
    obtain ⟨cur1, hcur1, htake⟩ := hg1
    have hyl : ys.length = (toks l).length := by unfold toks; rw [List.length_map, ← hS, List.length_map]
    have hec : ecells ys = (cum 0 (toks l)).map fun e : Nat => .int .i64 (e : Int) := by unfold ecells toks; rw [← hS, List.map_map]; rfl
    have HT : Hid _ := htake
    have HE : Hid _ := hec
    have HY : Hid _ := hyl
    clear htake hec hyl
    have hmx : Tryd.prog.follows .mixedOrders = true := by kernel_rfl
    have k47 : Calls Tryd.prog 47 #[.pointer (some ⟨n0 + 1 + 1, 0, none⟩)] W.drew fun e w6 => e = .returned (.string (mkB (txt (toks l)))) ∧ w6.cell? ⟨z, 0, none⟩ = some (.slice (some ⟨z + 1, 0, none⟩) ys.length N) ∧ w6.cell? ⟨n0, 0, none⟩ = some (.string { data := #[] }) ∧ w6.cell? ⟨n0, 1, none⟩ = some (.slice none 0 0) ∧ w6.frozen? ⟨n0, 0, none⟩ = false ∧ w6.frozen? ⟨n0, 1, none⟩ = false ∧ w6.cell? ⟨n0 + 1, 0, none⟩ = some .nilIface ∧ w6.frozen? ⟨n0 + 1, 0, none⟩ = false ∧ Hid (w6.heap[n0]? = some (.cells #[.string { data := #[] }, .slice none 0 0] 31) ∧ w6.heap[n0 + 1]? = some (.cells #[.nilIface] 33) ∧ w6.heap[D]? = some (.deferred (some [])) ∧ Below n0 w w6 ∧ w6.heap[z + 1]? = some (.cells cur1 3 (0, 0))) := by
      refine (Tryd.Builder_String_any_k (n0 + 1 + 1) (n0 + 1 + 1) (txt (toks l)) W.drew (.inr hb) (by show _ ≤ W.heap.size; omega)).mono ?_
      rintro e w6 ⟨rfl, hb6, hbl6, hok6⟩
      have h31 : w6.heap[n0]? = some (.cells #[.string { data := #[] }, .slice none 0 0] 31) := (hbl6.block n0 (by omega)).trans hr31c
      have h33 : w6.heap[n0 + 1]? = some (.cells #[.nilIface] 33) := (hbl6.block (n0 + 1) (by omega)).trans hr33c
      have hv6 : Boxed w6 z 27 (.slice (some ⟨z + 1, 0, none⟩) ys.length N) := others_cells hok6 (W := W.drew) hv (by omega) (by decide)
      have hK6 : w6.heap[D]? = some (.deferred (some [])) := hok6 D _ hK (fun e => by have := Option.some.inj e; omega) (fun c fz e => by cases e)
      exact ⟨rfl, hv6.cell, by simp [World.cell?, h31], by simp [World.cell?, h31], by simp [World.frozen?, h31], by simp [World.frozen?, h31], by simp [World.cell?, h33], by simp [World.frozen?, h33], ⟨h31, h33, hK6, hBW.trans ((Below.mono (B' := n0) hB (by omega)).drew.trans (Below.mono (B' := n0) hbl6 (by omega))), others_cells hok6 (W := W.drew) hcur1 (by omega) (by decide)⟩⟩
    have K47 : Hid _ := k47
    clear k47 hr31c hr33c hr31 hr33 hv ho hpb hb hB hy0 hy1 hx2 hbW hrow hyr hcur1
    gi_wp2
    refine wpIn_mono (Q := Exit.then (fun a' W' => a' = { tmps := #[.string s, undef, .pointer (some ⟨n0, 0, none⟩), .pointer (some ⟨n0 + 1, 0, none⟩), .pointer (some ⟨n0 + 1 + 1, 0, none⟩), .pointer (some ⟨z, 0, none⟩), .pointer (some ⟨z2, 0, none⟩), undef, undef, undef, undef, .string s, .int .i64 s.size, .tuple #[], .string s, .bool true, .string s, .int .i64 N, .slice (some ⟨z + 1, 0, none⟩) 0 N, .string s, .agg #[.string s, .slice none 0 0], .func (.func 68) #[] #[.pointer (some ⟨z2 + 1, 0, none⟩)], undef, undef, undef, undef, undef, undef, undef, undef, undef, undef, undef, undef, undef, undef, undef, undef, undef, undef, undef, undef, undef, undef, undef, undef, undef, undef, .string (mkB (txt (toks l))), .slice (some ⟨z + 1, 0, none⟩) ys.length N, .agg #[.string (mkB (txt (toks l))), .slice (some ⟨z + 1, 0, none⟩) ys.length N]], defers := [{ target := Target.collected D, args := #[] }] } ∧ ∃ w6 : World, Hid (w6.heap[n0]? = some (.cells #[.string { data := #[] }, .slice none 0 0] 31) ∧ w6.heap[n0 + 1]? = some (.cells #[.nilIface] 33) ∧ w6.heap[D]? = some (.deferred (some [])) ∧ Below n0 w w6 ∧ w6.heap[z + 1]? = some (.cells cur1 3 (0, 0))) ∧ W' = ((w6.setCell ⟨n0, 0, none⟩ (.string (mkB (txt (toks l))))).setCell ⟨n0, 1, none⟩ (.slice (some ⟨z + 1, 0, none⟩) ys.length N)).setCell ⟨n0 + 1, 0, none⟩ .nilIface) (fun _ _ _ => False)) ?_ ?_
    · gi_region_with_o (refine ⟨trivial, (callsIn_wide.2 K47.out).mono ?_⟩; rintro e w6 ⟨rfl, h1, h2, h3, h4, h5, h6, h7, H8⟩)
      all_goals exact ⟨rfl, w6, H8, rfl⟩
    · intro e6 a6 W6 h6
      cases e6 with
      | normal =>
        obtain ⟨rfl, w6, H8, rfl⟩ := h6
        obtain ⟨h31, h33, hKd, hBd, hcur6⟩ := H8.out
        obtain ⟨W7, hW7⟩ : ∃ W7, ((w6.setCell ⟨n0, 0, none⟩ (.string (mkB (txt (toks l))))).setCell ⟨n0, 1, none⟩ (.slice (some ⟨z + 1, 0, none⟩) ys.length N)).setCell ⟨n0 + 1, 0, none⟩ .nilIface = W7 := ⟨_, rfl⟩
        rw [hW7]
        have hD0 : D ≠ n0 ∧ D ≠ n0 + 1 := by omega
        have hK7 : W7.heap[D]? = some (.deferred (some [])) := by
          rw [← hW7, Below.heap_setCell _ _ _ _ hD0.2, Below.heap_setCell _ _ _ _ hD0.1, Below.heap_setCell _ _ _ _ hD0.1]; exact hKd
        have h71 : W7.heap[n0]? = some (.cells #[.string (mkB (txt (toks l))), .slice (some ⟨z + 1, 0, none⟩) ys.length N] 31) := by
          rw [← hW7, Below.heap_setCell _ _ _ _ (by show n0 ≠ n0 + 1; omega)]
          simp [World.setCell, Array.getElem?_modify, h31]
        have h73 : W7.heap[n0 + 1]? = some (.cells #[.nilIface] 33) := by
          rw [← hW7]
          simp [World.setCell, Array.getElem?_modify, h33]
        have h7c : W7.heap[z + 1]? = some (.cells cur1 3 (0, 0)) := by
          rw [← hW7, Below.heap_setCell _ _ _ _ (by show z + 1 ≠ n0 + 1; omega), Below.heap_setCell _ _ _ _ (by show z + 1 ≠ n0; omega), Below.heap_setCell _ _ _ _ (by show z + 1 ≠ n0; omega)]; exact hcur6
        have hB7 : Below n0 w W7 := by
          rw [← hW7]; exact ((hBd.setCell (p := ⟨n0, 0, none⟩) (Nat.le_refl _) _).setCell (p := ⟨n0, 1, none⟩) (Nat.le_refl _) _).setCell (p := ⟨n0 + 1, 0, none⟩) (by show n0 ≤ n0 + 1; omega) _
        clear hW7 h31 h33 hKd hBd H8 K47 hvc hcur6
        gi_wp2
        refine ⟨by simp, .inl ⟨_, _, rfl, run_takeDeferred hK7, ?_⟩⟩
        obtain ⟨W8, hW8⟩ : ∃ W8, W7.putObj D (.deferred none) = W8 := ⟨_, rfl⟩
        have h81 : W8.heap[n0]? = some (.cells #[.string (mkB (txt (toks l))), .slice (some ⟨z + 1, 0, none⟩) ys.length N] 31) := by rw [← hW8]; exact (World.putObj_heap_other (Ne.symm hD0.1)).trans h71
        have h83 : W8.heap[n0 + 1]? = some (.cells #[.nilIface] 33) := by rw [← hW8]; exact (World.putObj_heap_other (Ne.symm hD0.2)).trans h73
        have h8c : W8.heap[z + 1]? = some (.cells cur1 3 (0, 0)) := by rw [← hW8]; exact (World.putObj_heap_other (by omega)).trans h7c
        have hB8 : Below n0 w W8 := by
          rw [← hW8]; exact hB7.grown (grownBy_putObj' W7 D _) (Nat.le_trans (by omega) hB7.size) (fun k e => by cases e; omega)
        rw [hW8]
        clear hW8 hB7 h71 h73 hK7 h7c
        have hc1 : W8.cell? ⟨n0, 0, none⟩ = some (.string (mkB (txt (toks l)))) := by simp [World.cell?, h81]
        have hc2 : W8.cell? ⟨n0, 1, none⟩ = some (.slice (some ⟨z + 1, 0, none⟩) ys.length N) := by simp [World.cell?, h81]
        have hc3 : W8.cell? ⟨n0 + 1, 0, none⟩ = some .nilIface := by simp [World.cell?, h83]
        have hends : EndsAt W8 (z + 1) (toks l) := by
          refine ⟨(Array.getElem?_eq_some_iff.1 h8c).1, fun i e hi => ?_⟩
          have h1 := HT.out
          rw [HE.out] at h1
          have h2 : (cur1.toList.take ys.length)[i]? = some (.int .i64 (e : Int)) := by rw [h1, List.getElem?_map, hi]; rfl
          have h3 : cur1.toList[i]? = some (.int .i64 (e : Int)) := by
            rw [List.getElem?_take] at h2
            split at h2
            · exact h2
            · cases h2
          rw [Array.getElem?_toList] at h3
          simp [World.cell?, h8c, h3]
        refine ⟨.tuple #[.agg #[.string (mkB (txt (toks l))), .slice (some ⟨z + 1, 0, none⟩) ys.length N], .nilIface], ?_, ⟨z + 1, N, by rw [HY.out], hends⟩, by rw [hn0]; exact hB8⟩
        simp [results, Tryd.results39, go_sem, hc1, hc2, hc3]
      | ret => exact h6.elim
      | exit => exact h6.elim
      | goto => exact h6.elim
      | panic => exact h6.elim
      | outgrown => exact h6.elim
  case stop =>
    rintro D c pre W _ _ h _
    exact h.elim
end Go.Proofs.Qxb6609358aDoor.A
