import Derived.Test.Qxb6609358aDoorM
namespace Go.Proofs.Qxb6609358aDoor.A
open Go.ChangeShapes Go.WideShapes Go.ChangeAt Go.RowKit P
set_option linter.unusedVariables false
attribute [local go_sem] a9_9 a9_79 a9_88 a79_9 a79_79 a79_88 aN_9 aN_79 aN_88

theorem Tryd.info20x : (Tryd.prog.info? 20).map (fun i => (i.zero, i.size, i.bytes)) = some (some .nilIface, 1, 16) := by kernel_rfl

/-- A slice of strings: n of them, the i-th is f i. -/
def ArrIs (w : World) (a : Option Addr) (n : Nat) (f : Nat → ByteArray) : Prop := (True ∧ n = 0) ∨ ∃ b off, a = some ⟨b, off, none⟩ ∧ ∀ i, i < n → w.cell? ⟨b, off + i, none⟩ = some (.string (f i))
theorem ArrIs.below {w w' : World} {a : Option Addr} {n : Nat} {f : Nat → ByteArray} (h : ArrIs w a n f) (hb : Below w.heap.size w w') : ArrIs w' a n f :=
  h.elim .inl fun ⟨b, off, e, hc⟩ => .inr ⟨b, off, e, fun i hi => by
    have := hc i hi
    rw [hb.cell (World.block_lt_of_cell? w _ this), this]⟩

/-- What ZZevalArray answers. -/
def ZArr (n : Nat) (f : Nat → ByteArray) (ts : List (List UInt8)) (e : Ending) (w' : World) : Prop :=
  (ts = [] ∧ e = .returned (.tuple #[.string kNone, .bool false, .int .i64 (n : Int), .bool true, .nilIface])) ∨
  (∃ q rest b tok, ts = q :: rest ∧ (ixK q n).toList.isEmpty = false ∧ L tok = q ∧ e = .returned (.tuple #[.string kNone, .bool false, .int .i64 0, .bool false, .iface 84 (.pointer (some ⟨b, 0, none⟩))]) ∧ w'.heap[b]? = some (.cells #[.string (ixK q n), .int .i64 1, .string tok] 87 (0, 0))) ∨
  (∃ q q2 rest b tok, ts = q :: q2 :: rest ∧ ixK q n = kNone ∧ L tok = q2 ∧ e = .returned (.tuple #[.string kNone, .bool false, .int .i64 0, .bool false, .iface 84 (.pointer (some ⟨b, 0, none⟩))]) ∧ w'.heap[b]? = some (.cells #[.string kCont, .int .i64 2, .string tok] 87 (0, 0))) ∨
  (∃ q, ts = [q] ∧ ixK q n = kNone ∧ e = .returned (.tuple #[.string (f (ixN q n)), .bool true, .int .i64 0, .bool false, .nilIface]))

/-- What Evaluate answers on the array in block d. -/
def EArr (d n : Nat) (f : Nat → ByteArray) (ts : List (List UInt8)) (e : Ending) (w' : World) : Prop :=
  (ts = [] ∧ e = .returned (.tuple #[.iface 79 (.slice (some ⟨d, 0, none⟩) n n), .nilIface])) ∨
  (∃ q rest b tok, ts = q :: rest ∧ (ixK q n).toList.isEmpty = false ∧ L tok = q ∧ e = .returned (.tuple #[.nilIface, .iface 84 (.pointer (some ⟨b, 0, none⟩))]) ∧ w'.heap[b]? = some (.cells #[.string (ixK q n), .int .i64 1, .string tok] 87 (0, 0))) ∨
  (∃ q q2 rest b tok, ts = q :: q2 :: rest ∧ ixK q n = kNone ∧ L tok = q2 ∧ e = .returned (.tuple #[.nilIface, .iface 84 (.pointer (some ⟨b, 0, none⟩))]) ∧ w'.heap[b]? = some (.cells #[.string kCont, .int .i64 2, .string tok] 87 (0, 0))) ∨
  (∃ q, ts = [q] ∧ ixK q n = kNone ∧ e = .returned (.tuple #[.iface 9 (.string (f (ixN q n))), .nilIface]))

theorem ixK_cases (l : List UInt8) (n : Nat) : ixK l n = kNone ∨ (ixK l n).toList.isEmpty = false := by
  unfold ixK
  split
  · exact .inr (by rw [Lib.toList_data]; rfl)
  · split
    · split
      · exact .inr (by rw [Lib.toList_data]; rfl)
      · exact .inl rfl
    · exact .inr (by rw [Lib.toList_data]; rfl)

/-- Evaluate on an array of strings. -/
theorem eval_arr (v : Value) (t : ByteArray) (ts : List (List UInt8)) (d n : Nat) (f : Nat → ByteArray) (w : World) (hn : n ≤ 65536) (h : PtrIs w v t ts) (hd : ∀ i, i < n → w.cell? ⟨d, i, none⟩ = some (.iface 9 (.string (f i)))) :
    Calls Tryd.prog 40 #[.agg #[.string t, v], .iface 79 (.slice (some ⟨d, 0, none⟩) n n)] w fun e w' => EArr d n f ts e w' ∧ Below w.heap.size w w' := by
  have ht := h.2.1
  match ts, h with
  | [], h =>
    refine (eval_nil v _ t w h).mono ?_
    rintro e w' ⟨rfl, hB⟩
    exact ⟨.inl ⟨rfl, rfl⟩, hB⟩
  | q :: rest, h =>
    have hLx : L (t.extract 1 (1 + q.length)) = q := by
      have := tok_L t [] rest q h.1
      simpa [txt] using this
    have hxs : (t.extract 1 (1 + q.length)).size ≤ 4194304 := by
      have : (t.extract 1 (1 + q.length)).size ≤ t.size := by simp; omega
      omega
    rcases ixK_cases q n with hk | hk
    · have hsel : ∀ W, Below w.heap.size w W → Calls Tryd.prog 60 #[.iface 79 (.slice (some ⟨d, 0, none⟩) n n), .string (t.extract 1 (1 + q.length))] W fun e w' => e = .returned (.tuple #[.iface 9 (.string (f (ixN q n))), .string kNone]) ∧ w' = W := fun W hW => by
        refine sel_ok d n n (t.extract 1 (1 + q.length)) (f (ixN q n)) W hxs hn (by rw [hLx]; exact hk) ?_
        rw [hLx]
        have hc := hd _ (ix_ok q n hk)
        rw [hW.cell (World.block_lt_of_cell? w _ hc), hc]
      match rest, h with
      | [], h =>
        refine (eval_one v _ t _ q w h hsel).mono ?_
        rintro e w' ⟨rfl, hB⟩
        exact ⟨.inr (.inr (.inr ⟨q, rfl, hk, rfl⟩)), hB⟩
      | q2 :: rest, h =>
        refine (eval_two v _ t _ q q2 rest w h hsel).mono ?_
        rintro e w' ⟨⟨b, rfl, hb, _⟩, hB⟩
        refine ⟨.inr (.inr (.inl ⟨q, q2, rest, b, _, rfl, hk, ?_, rfl, hb⟩)), hB⟩
        have := tok_L t [q] rest q2 h.1
        simpa [txt, Nat.add_comm, Nat.add_left_comm, Nat.add_assoc] using this
    · have hsel : ∀ W, Below w.heap.size w W → Calls Tryd.prog 60 #[.iface 79 (.slice (some ⟨d, 0, none⟩) n n), .string (t.extract 1 (1 + q.length))] W fun e w' => e = .returned (.tuple #[.nilIface, .string (ixK q n)]) ∧ w' = W := fun W hW => by
        have := sel_bad d n n (t.extract 1 (1 + q.length)) W hxs hn (by rw [hLx]; exact hk)
        rw [hLx] at this
        exact this
      refine (eval_bad v _ t _ q rest w h hk hsel).mono ?_
      rintro e w' ⟨⟨b, rfl, hb, _⟩, hB⟩
      exact ⟨.inr (.inl ⟨q, rest, b, _, rfl, hk, hLx, rfl, hb⟩), hB⟩

set_option maxRecDepth 100000 in
set_option maxHeartbeats 4000000 in
theorem zarr (v : Value) (t : ByteArray) (ts : List (List UInt8)) (a : Option Addr) (n cap : Nat) (f : Nat → ByteArray) (w : World) (hn : n ≤ 65536) (h : PtrIs w v t ts) (ha : ArrIs w a n f) :
    Calls Tryd.prog 18 #[.agg #[.string t, v], .slice a n cap] w fun e w' => ZArr n f ts e w' ∧ Below w.heap.size w w' := by
  obtain ⟨i0, hi, hz0, hz1, hz2⟩ := info_parts Tryd.info20x
  have h0 := h
  obtain ⟨va, vn, vc, rfl⟩ := ptr_shape h
  have HP : Hid _ := h0
  clear h h0
  obtain ⟨n0, hn0⟩ : ∃ m, w.heap.size = m := ⟨_, rfl⟩
  have HB0 : Hid (Below n0 w (w.alloc (.cells #[.string t, .slice va vn vc] 31))) := hid (by rw [← hn0]; exact (Below.refl _ w).alloc (Nat.le_refl _) _)
  have hp0 : (w.alloc (.cells #[.string t, .slice va vn vc] 31)).heap[n0]? = some (.cells #[.string t, .slice va vn vc] 31) := by rw [← hn0]; exact World.alloc_heap_new w _
  rw [hn0]
  go_enter Tryd.func18, Tryd.ntmps18
  go_wp2_with (at_make; refine wpList_make_full _ rfl _ _ 79 rfl (n0 + 1) 20 i0 .nilIface 1 Tryd.underlying79 hi hz0 hz1 _ _ _ _ n rfl rfl rfl rfl (by rw [hz2]; omega) (by unfold maxLen; omega) (by simp [hn0]) ?_; intro w0 own0 gr0)
  simp only [World.size_alloc, hn0] at own0
  have HB1 : Hid (Below (n0 + 1) (w.alloc (.cells #[.string t, .slice va vn vc] 31)) w0) := hid ((Below.refl _ _).grown gr0 (by simp [hn0]) (by intro k hk; cases hk))
  have H0 : Hid _ := hp0
  clear gr0 hp0
  go_loopw [10] (fun i wr => ∃ (k : Nat) (cs : List Value), k ≤ n ∧ i = .int .i64 k ∧ wr.ownsRow (n0 + 1) 20 1 (.slice (some ⟨n0 + 1, 0, none⟩) n n) n cs ∧ (∀ j, j < k → cs[j]? = some (.iface 9 (.string (f j)))) ∧ Below (n0 + 1) (w.alloc (.cells #[.string t, .slice va vn vc] 31)) wr) (fun i wr => n - (intOf i).toNat)
  case atStart => exact ⟨0, _, Nat.zero_le _, rfl, own0, fun j hj => by omega, HB1.out⟩
  case round =>
    obtain ⟨k, cs, hk, rfl, hown, hcs, hbw⟩ := hrel
    have HCS : Hid _ := hcs
    have HBW : Hid _ := hbw
    have hbsz := hbw.size
    simp only [World.size_alloc, hn0] at hbsz
    have hB : Below n0 w wr := HB0.out.trans (hbw.mono (by omega))
    have ha2 := ha.below (hn0 ▸ hB)
    clear hcs own0 HB1 ha
    by_cases hlt : k < n
    · rcases ha2 with ⟨_, h0⟩ | ⟨b, off, rfl, hcell⟩
      · omega
      · have hsrc := hcell k hlt
        have hl := hown.1
        have hlk : k < cs.length := by omega
        have hdst : wr.cell? ⟨n0 + 1, k, none⟩ = some (cs[k]) := by rw [hown.cellAt k (by omega), List.getElem?_eq_getElem hlk]
        have hfz := hown.frozenAt k
        generalize cs[k] = old at hdst
        have hst := hown.stored k (.iface 9 (.string (f k)))
        have HST : Hid _ := hst
        obtain ⟨x, hx⟩ : ∃ x, f k = x := ⟨_, rfl⟩
        have HX : Hid _ := hx
        rw [hx] at hsrc
        clear hx hcell hl hst hB HB0
        go_wp2
        go_roundw
        case rel =>
          refine ⟨k + 1, cs.set k (.iface 9 (.string x)), by omega, by go_num, by rw [← HX.out]; exact HST.out.1, fun j hj => ?_, HBW.out.setCell (p := ⟨n0 + 1, k, none⟩) (Nat.le_refl _) _⟩
          by_cases hjk : j = k
          · subst hjk
            rw [List.getElem?_set_self hlk, HX.out]
          · rw [List.getElem?_set_ne (by omega)]
            exact HCS.out j (by omega)
        case measure => simp [intOf]; omega
    · have hkn : k = n := by omega
      have hdoc : ∀ i, i < n → wr.cell? ⟨n0 + 1, i, none⟩ = some (.iface 9 (.string (f i))) := fun i hi => by
        rw [hown.cellAt i (by omega)]
        exact HCS.out i (by omega)
      have hbox : wr.heap[n0]? = some (.cells #[.string t, .slice va vn vc] 31) := (HBW.out.block n0 (by omega)).trans H0.out
      have hc0 : wr.cell? ⟨n0, 0, none⟩ = some (.string t) := by simp [World.cell?, hbox]
      have hc1 : wr.cell? ⟨n0, 1, none⟩ = some (.slice va vn vc) := by simp [World.cell?, hbox]
      have k40 := eval_arr (.slice va vn vc) t ts (n0 + 1) n f wr hn (PtrIs.below HP.out (hn0 ▸ hB)) hdoc
      have K40 : Hid _ := k40
      have HB : Hid _ := hB
      clear k40 hdoc hbox hown HCS HBW hB HP ha2 hkn H0 HB0
      go_wp2_with fail
      refine (Calls.mono K40.out) ?_
      rintro e w1 ⟨hE, hB1⟩
      have HB1 : Hid (Below n0 w w1) := hid (HB.out.trans (hB1.mono (by have := HB.out.size; omega)))
      clear K40 hB1 hc0 hc1 HB
      rcases hE with ⟨h1, rfl⟩ | ⟨q, rest, b, tok, h1, h2, h3, rfl, h5⟩ | ⟨q, q2, rest, b, tok, h1, h2, h3, rfl, h5⟩ | ⟨q, h1, h2, rfl⟩
      · have H1 : Hid _ := h1
        clear h1
        go_wp2
        refine bodyPost_ret (v := .tuple #[.string kNone, .bool false, .int .i64 (n : Int), .bool true, .nilIface]) (by simp [results, Tryd.results18, go_sem]) rfl ?_
        exact ⟨.inl ⟨H1.out, rfl⟩, HB1.out⟩
      · have HR : Hid (ZArr n f ts (.returned (.tuple #[.string kNone, .bool false, .int .i64 0, .bool false, .iface 84 (.pointer (some ⟨b, 0, none⟩))])) w1) := hid (.inr (.inl ⟨q, rest, b, tok, h1, h2, h3, rfl, h5⟩))
        clear h1 h2 h3 h5
        go_wp2
        refine bodyPost_ret (v := .tuple #[.string kNone, .bool false, .int .i64 0, .bool false, .iface 84 (.pointer (some ⟨b, 0, none⟩))]) (by simp [results, Tryd.results18, go_sem]) rfl ?_
        exact ⟨HR.out, HB1.out⟩
      · have HR : Hid (ZArr n f ts (.returned (.tuple #[.string kNone, .bool false, .int .i64 0, .bool false, .iface 84 (.pointer (some ⟨b, 0, none⟩))])) w1) := hid (.inr (.inr (.inl ⟨q, q2, rest, b, tok, h1, h2, h3, rfl, h5⟩)))
        clear h1 h2 h3 h5
        go_wp2
        refine bodyPost_ret (v := .tuple #[.string kNone, .bool false, .int .i64 0, .bool false, .iface 84 (.pointer (some ⟨b, 0, none⟩))]) (by simp [results, Tryd.results18, go_sem]) rfl ?_
        exact ⟨HR.out, HB1.out⟩
      · have HR : Hid (ZArr n f ts (.returned (.tuple #[.string (f (ixN q n)), .bool true, .int .i64 0, .bool false, .nilIface])) w1) := hid (.inr (.inr (.inr ⟨q, h1, h2, rfl⟩)))
        clear h1 h2
        go_wp2
        refine bodyPost_ret (v := .tuple #[.string (f (ixN q n)), .bool true, .int .i64 0, .bool false, .nilIface]) (by simp [results, Tryd.results18, go_sem]) rfl ?_
        exact ⟨HR.out, HB1.out⟩
end Go.Proofs.Qxb6609358aDoor.A
