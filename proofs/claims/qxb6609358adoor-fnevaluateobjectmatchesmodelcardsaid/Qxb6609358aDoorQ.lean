import Derived.Test.Qxb6609358aDoorO
namespace Go.Proofs.Qxb6609358aDoor.A
open Go.ChangeShapes Go.WideShapes Go.ChangeAt Go.RowKit P
set_option linter.unusedVariables false

theorem hsz9 : (Tryd.prog.info? 9).map (·.size) = some 1 := by kernel_rfl
theorem own_full {w : World} {B g n : Nat} {e : TypeId} {xs : List Value} (h : w.ownsRow B e 1 (.slice (some ⟨g, 0, none⟩) n n) n xs) : ∃ cu : List Value, w.heap[g]? = some (.cells cu.toArray e (0, 0)) ∧ cu.length = n := by
  rcases h.2 with ⟨h, _⟩ | ⟨g', cap', cur, he, hb, hg, h1, h2, h3, h4⟩
  · cases h
  · cases he
    exact ⟨cur.toList, by simpa using hg, by simpa using h3⟩
theorem src_below {w w0 : World} {n0 : Nat} {ad : Addr} {cs : List Value} (h : ∀ j v, cs[j]? = some v → w.cell? (ad.add j) = some v) (hB : Below n0 w w0) (hn : w.heap.size = n0) : ∀ j v, cs[j]? = some v → w0.cell? (ad.add j) = some v := fun j v hj => by
  have := h j v hj
  rw [hB.cell (hn ▸ World.block_lt_of_cell? w _ this), this]
theorem arr_of {W : World} {g n : Nat} {cu cs : List Value} {f : Nat → ByteArray} (h : W.heap[g]? = some (.cells (splice cu 0 cs).toArray 9 (0, 0))) (hc : cs.length = n) (hu : cu.length = n) (hcs : cs = (List.range n).map fun i => Value.string (f i)) : ArrIs W (some ⟨g, 0, none⟩) n f := by
  have hs : splice cu 0 cs = cs := by
    unfold splice
    rw [List.take_zero, List.nil_append, Nat.zero_add, List.drop_eq_nil_of_le (by omega), List.append_nil]
  rw [hs] at h
  refine .inr ⟨g, 0, rfl, fun i hi => ?_⟩
  rw [Nat.zero_add]
  have : cs[i]? = some (.string (f i)) := by rw [hcs, List.getElem?_map, List.getElem?_range hi]; rfl
  simp [World.cell?, h, this]
theorem tok_shape {w : World} {v : Value} {ts : List (List UInt8)} (h : TokRow w v ts) : ∃ a c, v = .slice a ts.length c := by
  rcases h with ⟨rfl, rfl⟩ | ⟨g, cap, rfl, _⟩
  · exact ⟨_, _, rfl⟩
  · exact ⟨_, _, rfl⟩
theorem tok_some {w : World} {v : Value} {q : List UInt8} {ts : List (List UInt8)} (h : TokRow w v (q :: ts)) : ∃ g c, v = .slice (some ⟨g, 0, none⟩) (q :: ts).length c ∧ ∀ i t, (q :: ts)[i]? = some t → w.cell? ⟨g, i, none⟩ = some (sv t) := by
  rcases h with ⟨h, _⟩ | ⟨g, cap, rfl, _, h⟩
  · cases h
  · exact ⟨g, cap, rfl, h⟩
theorem mem_txt (ts : List (List UInt8)) : ∀ t ∈ ts, t.length ≤ (txt ts).length := by
  induction ts with
  | nil => intro t h; cases h
  | cons a b ih =>
    intro t h
    rcases List.mem_cons.1 h with rfl | h
    · simp [txt]; omega
    · have := ih t h; simp [txt]; omega
theorem ptoks_le (l : List UInt8) : ∀ t ∈ ptoks l, t.length ≤ l.length := by
  cases l with
  | nil => intro t h; cases h
  | cons c l =>
    intro t h
    obtain ⟨r, hr, rfl⟩ := List.mem_map.1 (show t ∈ (raw l).map (dec false) from h)
    have h1 := mem_txt _ r hr
    rw [txt_raw] at h1
    have h2 := dec_le false r
    simp at h1 ⊢
    omega
theorem ptoks_len (l : List UInt8) : (ptoks l).length ≤ l.length := by
  cases l with
  | nil => exact Nat.le_refl _
  | cons c l => show ((raw l).map (dec false)).length ≤ _; rw [List.length_map]; have := raw_len l; simp; omega
theorem str_self (x : ByteArray) : (x.toList == x.toList) = true := beq_self_eq_true _
theorem Below.errT {n : Nat} {w w' : World} (h : Below n w w') (h0 : 0 < n) (hg : ErrT w) : ErrT w' := (h.cell (p := ⟨0, 0, none⟩) h0).trans hg

set_option maxRecDepth 100000 in
set_option maxHeartbeats 8000000 in
theorem arr_some (s : ByteArray) (ad : Addr) (n cap : Nat) (f : Nat → ByteArray) (m : Int) (w : World) (hsm : s.size ≤ maxLen) (hnm : n ≤ maxLen) (hfm : ∀ i, i < n → (f i).size ≤ maxLen) (hg : ErrT w) (hm : w.cell? ⟨4, 0, none⟩ = some (.int .i64 m)) (ha : ∀ i, i < n → w.cell? (ad.add i) = some (.string (f i))) (hA0 : ArrIs w (some ad) n f) :
    Calls Tryd.prog 6 #[.string s, .slice (some ad) n cap] w fun e w' => e = .returned (.bool true) ∧ Below w.heap.size w w' := by
  have q44 : ∀ (w : World) (a : Option Addr) (n c n' c' : Nat), (binOp .neq 44 (.slice a n c) (.slice none n' c')).run Tryd.prog w = .ok (.bool (!a.isNone)) w := fun w a n c n' c' => run_neq_slice_nil_any w _ _ a n c n' c' Tryd.underlying44
  obtain ⟨i9, hi9, h90, h91, h92⟩ := info_parts Tryd.info9x
  have K15 : Hid _ := zz15 s (some ad) n cap f w hsm hnm hfm hA0
  clear hA0
  obtain ⟨n0, hn0⟩ : ∃ k, w.heap.size = k := ⟨_, rfl⟩
  have hm4 : 4 < n0 := by
    rw [← hn0]
    rcases Nat.lt_or_ge 4 w.heap.size with h | h
    · exact h
    · simp [World.cell?, Array.getElem?_eq_none h] at hm
  rw [hn0]
  by_cases hs0 : s.size ≤ 1048576
  · by_cases hn : n ≤ 65536
    · have hs : s.size ≤ 4194304 := by omega
      obtain ⟨cs, hcs⟩ : ∃ cs, cs = (List.range n).map fun i => Value.string (f i) := ⟨_, rfl⟩
      have hcl : cs.length = n := by rw [hcs]; simp
      have hsrc : ∀ j v, cs[j]? = some v → w.cell? (ad.add j) = some v := fun j v hj => by
        rw [hcs, List.getElem?_map] at hj
        have hjn : j < n := by
          rcases Nat.lt_or_ge j n with h | h
          · exact h
          · rw [List.getElem?_eq_none (by simp; omega)] at hj; cases hj
        rw [List.getElem?_range hjn] at hj
        cases hj
        exact ha j hjn
      have h1c : ∀ v ∈ cs, v.oneCell' = true := fun v hv => by
        rw [hcs] at hv
        obtain ⟨i, _, rfl⟩ := List.mem_map.1 hv
        rfl
      have HCS : Hid _ := hcs
      have HSRC : Hid _ := hsrc
      have H1C : Hid _ := h1c
      have HCL : Hid _ := hcl
      have HAW : Hid _ := ha
      clear hcs hsrc h1c hcl ha
      go_enter Tryd.func6, Tryd.ntmps6
      go_wp2_with fail
      refine (Calls.mono K15.out) ?_
      rintro e w0 ⟨⟨bl, rfl⟩, hw0⟩
      have hw0' := hw0.symm
      subst hw0'
      clear hw0 K15
      cases bl with
      | false =>
        go_wp2
        go_ret
        exact ⟨rfl, by rw [← hn0]; exact Below.refl _ _⟩
      | true =>
        go_wp2_with (first
          | (at_make; refine wpList_make_full _ rfl _ _ 44 rfl n0 9 i9 (.string ⟨#[]⟩) 1 Tryd.underlying44 hi9 h90 h91 _ _ _ _ n rfl rfl rfl rfl (by rw [h92]; omega) (by unfold maxLen; omega) (by omega) ?_; intro w0 own0 gr0; have hB0 : Below n0 w w0 := (Below.refl n0 w).grown gr0 (by omega) (by intro k hk; cases hk); rw [hn0] at own0; obtain ⟨cu, hcu, hcul⟩ := own_full own0; have hsr0 := src_below HSRC.out hB0 hn0; clear own0 gr0)
          | (refine wpList_copy_splice rfl (.tmp 35) (.tmp 36) 44 44 rfl 9 Tryd.underlying44 hsz9 (some ⟨n0, 0, none⟩) (some ad) n n n cap rfl rfl n0 0 cu 9 hcu cs (by rw [HCL.out]; simp) (fun _ => ⟨rfl, _, rfl, hsr0⟩) (by rw [HCL.out, hcul]; omega) H1C.out n0 w hB0 (Nat.le_refl _) ?_; intro W hW2 hBW))
        have HA : Hid (ArrIs W (some ⟨n0, 0, none⟩) n f) := hid (arr_of hW2.out HCL.out hcul HCS.out)
        have HB : Hid (Below n0 w W) := hBW
        have HM : Hid (W.cell? ⟨4, 0, none⟩ = some (.int .i64 m)) := hid ((hBW.cell (p := ⟨4, 0, none⟩) hm4).trans hm)
        have HG : Hid (ErrT w) := hg
        have hn0' : n0 ≤ w.heap.size := by omega
        clear HCS HSRC H1C HCL HAW hcu hcul hsr0 hB0 hW2 hBW hm hg hn0
        go_loop [6, 7] (fun T k => ∃ (x : Int) (j : Nat), j ≤ n ∧ T = .int .i64 x ∧ k = .int .i64 j) (fun T k => n - (intOf k).toNat)
        case atStart => exact ⟨_, 0, Nat.zero_le _, rfl, rfl⟩
        case round =>
          obtain ⟨x, j, hj, rfl, rfl⟩ := hrel
          by_cases hlt : j < n
          · rcases HA.out with ⟨_, h0⟩ | ⟨b, off, hAe, hcell⟩
            · omega
            · have hc := hcell j hlt
              cases hAe
              rw [Nat.zero_add] at hc
              generalize f j = y at hc
              clear hcell
              go_wp2
              go_round
              case rel => exact ⟨_, j + 1, hlt, rfl, by go_num⟩
              case measure => simp [intOf]; omega
          · by_cases hT : 1048576 < x
            · go_wp2
              go_ret
              exact ⟨rfl, HB.out⟩
            · have K16 : Hid _ := wfp_any s W hs
              cases hwf : wfp (L s) with
              | false =>
                rw [hwf] at K16
                go_wp2_with fail
                refine use K16.out ?_
                go_wp2
                go_ret
                exact ⟨rfl, HB.out⟩
              | true =>
                have K17 : Hid _ := parse_any s m W hs hwf HM.out
                rw [hwf] at K16
                go_wp2_with fail
                refine use K16.out ?_
                go_wp2_with fail
                refine (Calls.mono K17.out) ?_
                rintro e W1 ⟨⟨v, t, rfl, hP1⟩, hB1⟩
                clear K16 K17 HM
                obtain ⟨va, vn, vc, rfl⟩ := ptr_shape hP1
                obtain ⟨n1, hn1⟩ : ∃ n1, W1.heap.size = n1 := ⟨_, rfl⟩
                have hbW2 : Below n1 W1 (W1.alloc (.cells #[.string t, .slice va vn vc] 31)) := by rw [← hn1]; exact (Below.refl _ W1).alloc (Nat.le_refl _) _
                have hsz01 := HB.out.size
                have hsz12 := hB1.size
                have hn01 : n0 ≤ n1 := by omega
                have hB2 : Below n0 w (W1.alloc (.cells #[.string t, .slice va vn vc] 31)) := (HB.out.trans (hB1.mono (by omega))).trans (hbW2.mono hn01)
                have hA2 := (ArrIs.below HA.out hB1).below (hn1 ▸ hbW2)
                have K18 : Hid _ := zarr (.slice va vn vc) t (ptoks (L s)) (some ⟨n0, 0, none⟩) n n f (W1.alloc (.cells #[.string t, .slice va vn vc] 31)) hn (hP1.below (hn1 ▸ hbW2)) hA2
                have hcx : (W1.alloc (.cells #[.string t, .slice va vn vc] 31)).heap[n1]? = some (.cells #[.string t, .slice va vn vc] 31) := by rw [← hn1]; exact World.alloc_heap_new W1 _
                have hcx0 : (W1.alloc (.cells #[.string t, .slice va vn vc] 31)).cell? ⟨n1, 0, none⟩ = some (.string t) := by simp only [World.cell?, hcx]; rfl
                have hcx1 : (W1.alloc (.cells #[.string t, .slice va vn vc] 31)).cell? ⟨n1, 1, none⟩ = some (.slice va vn vc) := by simp only [World.cell?, hcx]; rfl
                have HB2 : Hid _ := hB2
                have HA2 : Hid (ArrIs (W1.alloc (.cells #[.string t, .slice va vn vc] 31)) (some ⟨n0, 0, none⟩) n f) := hA2
                clear hP1 hbW2 hB1 hB2 hA2 hcx
                go_wp2_with fail
                refine (Calls.mono K18.out) ?_
                rintro e W3 ⟨hZ, hB3⟩
                clear K18 hcx0 hcx1
                have hA3 := ArrIs.below HA2.out hB3
                have hsz2 := HB2.out.size
                have hB3' : Below n0 w W3 := HB2.out.trans (hB3.mono (by omega))
                have K19 : Hid _ := ptk_all s W3 hs hwf
                have HB3 : Hid _ := hB3'
                have HA3 : Hid (ArrIs W3 (some ⟨n0, 0, none⟩) n f) := hA3
                clear hB3 hB3' hA3 HA2 HB2 HA HB
                rcases hZ with ⟨hts, rfl⟩ | ⟨q, rest, b, tok, hts, hk, hLt, rfl, hb⟩ | ⟨q, q2, rest, b, tok, hts, hk, hLt, rfl, hb⟩ | ⟨q, hts, hk, rfl⟩
                · have HTS : Hid (ptoks (L s) = []) := hts
                  clear hts
                  go_wp2_with fail
                  refine (Calls.mono K19.out) ?_
                  rintro e W4 ⟨⟨tv, rfl, hR⟩, hB4⟩
                  have hB5 : Hid (Below n0 w W4) := hid (Below.trans HB3.out (hB4.mono (by have := Below.size HB3.out; omega)))
                  rw [HTS.out] at hR
                  obtain ⟨ta, tc, rfl⟩ := tok_shape hR
                  clear K19 hR hB4 HB3 HA3 HTS
                  simp only [List.length_nil]
                  go_wp2
                  go_ret
                  exact ⟨by simp, hB5.out⟩
                · have hql : (mkB q).size ≤ 4194304 := by rw [mk_size]; exact Nat.le_trans (ptoks_le _ q (by rw [hts]; simp)) (by rw [L_len]; exact hs)
                  obtain rfl : tok = mkB q := by rw [← hLt, mk_L]
                  have hbl := (Array.getElem?_eq_some_iff.1 hb).1
                  have HTS : Hid (ptoks (L s) = q :: rest) := hts
                  have HBB : Hid _ := hb
                  clear hts hLt hb
                  go_wp2_with fail
                  refine (Calls.mono K19.out) ?_
                  rintro e W4 ⟨⟨tv, rfl, hR⟩, hB4⟩
                  have hB5 : Below n0 w W4 := Below.trans HB3.out (hB4.mono (by have := Below.size HB3.out; omega))
                  rw [HTS.out] at hR
                  obtain ⟨g, tc, rfl, hcells⟩ := tok_some hR
                  have hc0 := hcells 0 q rfl
                  have K20 : Hid _ := iin_any (mkB q) n W4 hql hn
                  rw [L_mk] at K20
                  have K21 := fun D (h : ixK q n = D) => eei b D (mkB q) 1 W4 (Below.errT hB5 (by omega) HG.out) (by rw [← h]; exact (hB4.block b hbl).trans HBB.out)
                  obtain ⟨D, hD⟩ : ∃ D, ixK q n = D := ⟨_, rfl⟩
                  obtain ⟨N, hN⟩ : ∃ N, ixN q n = N := ⟨_, rfl⟩
                  have K21' : Hid _ := K21 D hD
                  rw [hD, hN] at K20
                  rw [hD] at hk
                  have hB5s := hB5.size
                  have HB5 : Hid (Below n0 w W4) := hB5
                  have hrl : rest.length + 1 ≤ 4194304 := by have := ptoks_len (L s); rw [HTS.out, L_len] at this; simp at this; omega
                  clear K19 hR hB4 HB3 HA3 HTS K21 hD hN hcells HBB hB5 hbl
                  unfold maxLen at *
                  unfold sv at hc0
                  simp only [List.length_cons]
                  go_wp2_with fail
                  refine use K20.out ?_
                  go_wp2_with fail
                  refine (Calls.mono K21'.out) ?_
                  rintro e W5 ⟨rfl, hB6⟩
                  have HB6 : Hid (Below n0 w W5) := hid (Below.trans HB5.out (hB6.mono (by omega)))
                  clear hB6 K20 K21' HB5
                  go_wp2
                  go_ret
                  exact ⟨by simp, HB6.out⟩
                · have hql : (mkB q).size ≤ 4194304 := by rw [mk_size]; exact Nat.le_trans (ptoks_le _ q (by rw [hts]; simp)) (by rw [L_len]; exact hs)
                  obtain rfl : tok = mkB q2 := by rw [← hLt, mk_L]
                  have hbl := (Array.getElem?_eq_some_iff.1 hb).1
                  have HTS : Hid (ptoks (L s) = q :: q2 :: rest) := hts
                  have HBB : Hid _ := hb
                  clear hts hLt hb
                  go_wp2_with fail
                  refine (Calls.mono K19.out) ?_
                  rintro e W4 ⟨⟨tv, rfl, hR⟩, hB4⟩
                  have hB5 : Below n0 w W4 := Below.trans HB3.out (hB4.mono (by have := Below.size HB3.out; omega))
                  rw [HTS.out] at hR
                  obtain ⟨g, tc, rfl, hcells⟩ := tok_some hR
                  have hc0 := hcells 0 q rfl
                  have hc1 := hcells 1 q2 rfl
                  have K20 : Hid _ := iin_any (mkB q) n W4 hql hn
                  rw [L_mk, hk] at K20
                  have K21 : Hid _ := eei b kCont (mkB q2) 2 W4 (Below.errT hB5 (by omega) HG.out) ((hB4.block b hbl).trans HBB.out)
                  obtain ⟨N, hN⟩ : ∃ N, ixN q n = N := ⟨_, rfl⟩
                  rw [hN] at K20
                  have hB5s := hB5.size
                  have HB5 : Hid (Below n0 w W4) := hB5
                  have hrl : rest.length + 2 ≤ 4194304 := by have := ptoks_len (L s); rw [HTS.out, L_len] at this; simp at this; omega
                  clear K19 hR hB4 HB3 HA3 HTS hk hN hcells HBB hB5 hbl
                  unfold maxLen at *
                  unfold sv at hc0 hc1
                  simp only [List.length_cons]
                  go_wp2_with fail
                  refine use K20.out ?_
                  go_wp2_with fail
                  refine (Calls.mono K21.out) ?_
                  rintro e W5 ⟨rfl, hB6⟩
                  have HB6 : Hid (Below n0 w W5) := hid (Below.trans HB5.out (hB6.mono (by omega)))
                  clear hB6 K20 K21 HB5
                  go_wp2
                  go_ret
                  exact ⟨by simp, HB6.out⟩
                · have hql : (mkB q).size ≤ 4194304 := by rw [mk_size]; exact Nat.le_trans (ptoks_le _ q (by rw [hts]; simp)) (by rw [L_len]; exact hs)
                  have hNn := ix_ok q n hk
                  have HTS : Hid (ptoks (L s) = [q]) := hts
                  clear hts
                  obtain ⟨N, hN⟩ : ∃ N, ixN q n = N := ⟨_, rfl⟩
                  rw [hN] at hNn ⊢
                  obtain ⟨y, hy⟩ : ∃ y, f N = y := ⟨_, rfl⟩
                  rw [hy]
                  go_wp2_with fail
                  refine (Calls.mono K19.out) ?_
                  rintro e W4 ⟨⟨tv, rfl, hR⟩, hB4⟩
                  have hB5 : Hid (Below n0 w W4) := hid (Below.trans HB3.out (hB4.mono (by have := Below.size HB3.out; omega)))
                  rw [HTS.out] at hR
                  obtain ⟨g, tc, rfl, hcells⟩ := tok_some hR
                  have hc0 := hcells 0 q rfl
                  have K20 : Hid _ := iin_any (mkB q) n W4 hql hn
                  rw [L_mk, hk, hN] at K20
                  rcases ArrIs.below HA3.out hB4 with ⟨_, h0⟩ | ⟨b, off, hAe, hcell⟩
                  · omega
                  · have hc := hcell N hNn
                    cases hAe
                    rw [Nat.zero_add, hy] at hc
                    clear K19 hR hB4 HB3 HA3 HTS hk hN hcells hcell hy
                    unfold sv at hc0
                    unfold maxLen at *
                    simp only [List.length_cons, List.length_nil]
                    go_wp2_with fail
                    refine use K20.out ?_
                    go_wp2
                    go_ret
                    exact ⟨by simp, hB5.out⟩
    · go_enter Tryd.func6, Tryd.ntmps6
      go_wp2_with fail
      refine (Calls.mono K15.out) ?_
      rintro e w0 ⟨⟨bl, rfl⟩, hw0⟩
      have hw0' := hw0.symm
      subst hw0'
      clear hw0 K15
      unfold maxLen at *
      cases bl with
      | false =>
        go_wp2
        go_ret
        exact ⟨rfl, by rw [← hn0]; exact Below.refl _ _⟩
      | true =>
        go_wp2
        go_ret
        exact ⟨rfl, by rw [← hn0]; exact Below.refl _ _⟩
  · go_enter Tryd.func6, Tryd.ntmps6
    go_wp2_with fail
    refine (Calls.mono K15.out) ?_
    rintro e w0 ⟨⟨bl, rfl⟩, hw0⟩
    have hw0' := hw0.symm
    subst hw0'
    clear hw0 K15
    unfold maxLen at *
    cases bl with
    | false =>
      go_wp2
      go_ret
      exact ⟨rfl, by rw [← hn0]; exact Below.refl _ _⟩
    | true =>
      go_wp2
      go_ret
      exact ⟨rfl, by rw [← hn0]; exact Below.refl _ _⟩

set_option maxRecDepth 100000 in
set_option maxHeartbeats 8000000 in
theorem arr_nil (s : ByteArray) (n cap : Nat) (f : Nat → ByteArray) (m : Int) (w : World) (hsm : s.size ≤ maxLen) (hnz : n ≤ 0) (hg : ErrT w) (hm : w.cell? ⟨4, 0, none⟩ = some (.int .i64 m)) :
    Calls Tryd.prog 6 #[.string s, .slice none n cap] w fun e w' => e = .returned (.bool true) ∧ Below w.heap.size w w' := by
  have q44 : ∀ (w : World) (a : Option Addr) (n c n' c' : Nat), (binOp .neq 44 (.slice a n c) (.slice none n' c')).run Tryd.prog w = .ok (.bool (!a.isNone)) w := fun w a n c n' c' => run_neq_slice_nil_any w _ _ a n c n' c' Tryd.underlying44
  have ha : ArrIs w none n f := .inl ⟨trivial, by omega⟩
  have K15 : Hid _ := zz15 s none n cap f w hsm (by unfold maxLen; omega) (fun i hi => by omega) ha
  obtain ⟨n0, hn0⟩ : ∃ k, w.heap.size = k := ⟨_, rfl⟩
  have hm4 : 4 < n0 := by
    rw [← hn0]
    rcases Nat.lt_or_ge 4 w.heap.size with h | h
    · exact h
    · simp [World.cell?, Array.getElem?_eq_none h] at hm
  rw [hn0]
  have hn : n ≤ 65536 := by omega
  by_cases hs0 : s.size ≤ 1048576
  · have hs : s.size ≤ 4194304 := by omega
    have HA : Hid (ArrIs w none n f) := ha
    have HB : Hid (Below n0 w w) := hid (by rw [← hn0]; exact Below.refl _ _)
    have HM : Hid (w.cell? ⟨4, 0, none⟩ = some (.int .i64 m)) := hm
    have HG : Hid (ErrT w) := hg
    have hn0' : n0 ≤ w.heap.size := by omega
    clear ha hm hg hn0
    go_enter Tryd.func6, Tryd.ntmps6
    go_wp2_with fail
    refine (Calls.mono K15.out) ?_
    rintro e w0 ⟨⟨bl, rfl⟩, hw0⟩
    have hw0' := hw0.symm
    subst hw0'
    clear hw0 K15
    cases bl with
    | false =>
      go_wp2
      go_ret
      exact ⟨rfl, HB.out⟩
    | true =>
      go_wp2
      go_loop [6, 7] (fun T k => ∃ (x : Int) (j : Nat), j ≤ n ∧ T = .int .i64 x ∧ k = .int .i64 j) (fun T k => n - (intOf k).toNat)
      case atStart => exact ⟨_, 0, Nat.zero_le _, rfl, rfl⟩
      case round =>
        obtain ⟨x, j, hj, rfl, rfl⟩ := hrel
        by_cases hlt : j < n
        · exact absurd hlt (by omega)
        · by_cases hT : 1048576 < x
          · go_wp2
            go_ret
            exact ⟨rfl, HB.out⟩
          · have K16 : Hid _ := wfp_any s w hs
            cases hwf : wfp (L s) with
            | false =>
              rw [hwf] at K16
              go_wp2_with fail
              refine use K16.out ?_
              go_wp2
              go_ret
              exact ⟨rfl, HB.out⟩
            | true =>
              have K17 : Hid _ := parse_any s m w hs hwf HM.out
              rw [hwf] at K16
              go_wp2_with fail
              refine use K16.out ?_
              go_wp2_with fail
              refine (Calls.mono K17.out) ?_
              rintro e W1 ⟨⟨v, t, rfl, hP1⟩, hB1⟩
              clear K16 K17 HM
              obtain ⟨va, vn, vc, rfl⟩ := ptr_shape hP1
              obtain ⟨n1, hn1⟩ : ∃ n1, W1.heap.size = n1 := ⟨_, rfl⟩
              have hbW2 : Below n1 W1 (W1.alloc (.cells #[.string t, .slice va vn vc] 31)) := by rw [← hn1]; exact (Below.refl _ W1).alloc (Nat.le_refl _) _
              have hsz01 := HB.out.size
              have hsz12 := hB1.size
              have hn01 : n0 ≤ n1 := by omega
              have hB2 : Below n0 w (W1.alloc (.cells #[.string t, .slice va vn vc] 31)) := (HB.out.trans (hB1.mono (by omega))).trans (hbW2.mono hn01)
              have hA2 := (ArrIs.below HA.out hB1).below (hn1 ▸ hbW2)
              have K18 : Hid _ := zarr (.slice va vn vc) t (ptoks (L s)) none n cap f (W1.alloc (.cells #[.string t, .slice va vn vc] 31)) hn (hP1.below (hn1 ▸ hbW2)) hA2
              have hcx : (W1.alloc (.cells #[.string t, .slice va vn vc] 31)).heap[n1]? = some (.cells #[.string t, .slice va vn vc] 31) := by rw [← hn1]; exact World.alloc_heap_new W1 _
              have hcx0 : (W1.alloc (.cells #[.string t, .slice va vn vc] 31)).cell? ⟨n1, 0, none⟩ = some (.string t) := by simp only [World.cell?, hcx]; rfl
              have hcx1 : (W1.alloc (.cells #[.string t, .slice va vn vc] 31)).cell? ⟨n1, 1, none⟩ = some (.slice va vn vc) := by simp only [World.cell?, hcx]; rfl
              have HB2 : Hid _ := hB2
              have HA2 : Hid (ArrIs (W1.alloc (.cells #[.string t, .slice va vn vc] 31)) none n f) := hA2
              clear hP1 hbW2 hB1 hB2 hA2 hcx
              go_wp2_with fail
              refine (Calls.mono K18.out) ?_
              rintro e W3 ⟨hZ, hB3⟩
              clear K18 hcx0 hcx1
              have hA3 := ArrIs.below HA2.out hB3
              have hsz2 := HB2.out.size
              have hB3' : Below n0 w W3 := HB2.out.trans (hB3.mono (by omega))
              have K19 : Hid _ := ptk_all s W3 hs hwf
              have HB3 : Hid _ := hB3'
              have HA3 : Hid (ArrIs W3 none n f) := hA3
              clear hB3 hB3' hA3 HA2 HB2 HA HB
              rcases hZ with ⟨hts, rfl⟩ | ⟨q, rest, b, tok, hts, hk, hLt, rfl, hb⟩ | ⟨q, q2, rest, b, tok, hts, hk, hLt, rfl, hb⟩ | ⟨q, hts, hk, rfl⟩
              · have HTS : Hid (ptoks (L s) = []) := hts
                clear hts
                go_wp2_with fail
                refine (Calls.mono K19.out) ?_
                rintro e W4 ⟨⟨tv, rfl, hR⟩, hB4⟩
                have hB5 : Hid (Below n0 w W4) := hid (Below.trans HB3.out (hB4.mono (by have := Below.size HB3.out; omega)))
                rw [HTS.out] at hR
                obtain ⟨ta, tc, rfl⟩ := tok_shape hR
                clear K19 hR hB4 HB3 HA3 HTS
                simp only [List.length_nil]
                go_wp2
                go_ret
                exact ⟨by simp, hB5.out⟩
              · have hql : (mkB q).size ≤ 4194304 := by rw [mk_size]; exact Nat.le_trans (ptoks_le _ q (by rw [hts]; simp)) (by rw [L_len]; exact hs)
                obtain rfl : tok = mkB q := by rw [← hLt, mk_L]
                have hbl := (Array.getElem?_eq_some_iff.1 hb).1
                have HTS : Hid (ptoks (L s) = q :: rest) := hts
                have HBB : Hid _ := hb
                clear hts hLt hb
                go_wp2_with fail
                refine (Calls.mono K19.out) ?_
                rintro e W4 ⟨⟨tv, rfl, hR⟩, hB4⟩
                have hB5 : Below n0 w W4 := Below.trans HB3.out (hB4.mono (by have := Below.size HB3.out; omega))
                rw [HTS.out] at hR
                obtain ⟨g, tc, rfl, hcells⟩ := tok_some hR
                have hc0 := hcells 0 q rfl
                have K20 : Hid _ := iin_any (mkB q) n W4 hql hn
                rw [L_mk] at K20
                have K21 := fun D (h : ixK q n = D) => eei b D (mkB q) 1 W4 (Below.errT hB5 (by omega) HG.out) (by rw [← h]; exact (hB4.block b hbl).trans HBB.out)
                obtain ⟨D, hD⟩ : ∃ D, ixK q n = D := ⟨_, rfl⟩
                obtain ⟨N, hN⟩ : ∃ N, ixN q n = N := ⟨_, rfl⟩
                have K21' : Hid _ := K21 D hD
                rw [hD, hN] at K20
                rw [hD] at hk
                have hB5s := hB5.size
                have HB5 : Hid (Below n0 w W4) := hB5
                have hrl : rest.length + 1 ≤ 4194304 := by have := ptoks_len (L s); rw [HTS.out, L_len] at this; simp at this; omega
                clear K19 hR hB4 HB3 HA3 HTS K21 hD hN hcells HBB hB5 hbl
                unfold maxLen at *
                unfold sv at hc0
                simp only [List.length_cons]
                go_wp2_with fail
                refine use K20.out ?_
                go_wp2_with fail
                refine (Calls.mono K21'.out) ?_
                rintro e W5 ⟨rfl, hB6⟩
                have HB6 : Hid (Below n0 w W5) := hid (Below.trans HB5.out (hB6.mono (by omega)))
                clear hB6 K20 K21' HB5
                go_wp2
                go_ret
                exact ⟨by simp, HB6.out⟩
              · have hql : (mkB q).size ≤ 4194304 := by rw [mk_size]; exact Nat.le_trans (ptoks_le _ q (by rw [hts]; simp)) (by rw [L_len]; exact hs)
                obtain rfl : tok = mkB q2 := by rw [← hLt, mk_L]
                have hbl := (Array.getElem?_eq_some_iff.1 hb).1
                have HTS : Hid (ptoks (L s) = q :: q2 :: rest) := hts
                have HBB : Hid _ := hb
                clear hts hLt hb
                go_wp2_with fail
                refine (Calls.mono K19.out) ?_
                rintro e W4 ⟨⟨tv, rfl, hR⟩, hB4⟩
                have hB5 : Below n0 w W4 := Below.trans HB3.out (hB4.mono (by have := Below.size HB3.out; omega))
                rw [HTS.out] at hR
                obtain ⟨g, tc, rfl, hcells⟩ := tok_some hR
                have hc0 := hcells 0 q rfl
                have hc1 := hcells 1 q2 rfl
                have K20 : Hid _ := iin_any (mkB q) n W4 hql hn
                rw [L_mk, hk] at K20
                have K21 : Hid _ := eei b kCont (mkB q2) 2 W4 (Below.errT hB5 (by omega) HG.out) ((hB4.block b hbl).trans HBB.out)
                obtain ⟨N, hN⟩ : ∃ N, ixN q n = N := ⟨_, rfl⟩
                rw [hN] at K20
                have hB5s := hB5.size
                have HB5 : Hid (Below n0 w W4) := hB5
                have hrl : rest.length + 2 ≤ 4194304 := by have := ptoks_len (L s); rw [HTS.out, L_len] at this; simp at this; omega
                clear K19 hR hB4 HB3 HA3 HTS hk hN hcells HBB hB5 hbl
                unfold maxLen at *
                unfold sv at hc0 hc1
                simp only [List.length_cons]
                go_wp2_with fail
                refine use K20.out ?_
                go_wp2_with fail
                refine (Calls.mono K21.out) ?_
                rintro e W5 ⟨rfl, hB6⟩
                have HB6 : Hid (Below n0 w W5) := hid (Below.trans HB5.out (hB6.mono (by omega)))
                clear hB6 K20 K21 HB5
                go_wp2
                go_ret
                exact ⟨by simp, HB6.out⟩
              · exact absurd (ix_ok q n hk) (by omega)
  · go_enter Tryd.func6, Tryd.ntmps6
    go_wp2_with fail
    refine (Calls.mono K15.out) ?_
    rintro e w0 ⟨⟨bl, rfl⟩, hw0⟩
    have hw0' := hw0.symm
    subst hw0'
    clear hw0 K15
    unfold maxLen at *
    cases bl with
    | false =>
      go_wp2
      go_ret
      exact ⟨rfl, by rw [← hn0]; exact Below.refl _ _⟩
    | true =>
      go_wp2
      go_ret
      exact ⟨rfl, by rw [← hn0]; exact Below.refl _ _⟩
end Go.Proofs.Qxb6609358aDoor.A
