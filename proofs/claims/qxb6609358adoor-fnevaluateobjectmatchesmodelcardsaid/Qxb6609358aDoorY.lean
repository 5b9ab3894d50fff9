import Derived.Test.Qxb6609358aDoorX
import Derived.Test.Qxb6609358aDoorQ
namespace Go.Proofs.Qxb6609358aDoor.A
open Go.ChangeShapes Go.WideShapes Go.ChangeAt Go.RowKit P T
set_option linter.unusedVariables false

theorem cs_facts {w : World} {ad : Addr} {n : Nat} {f : Nat → ByteArray} {cs : List Value} (hcs : cs = (List.range n).map fun i => Value.string (f i)) (ha : ∀ i, i < n → w.cell? (ad.add i) = some (.string (f i))) :
    cs.length = n ∧ cs = (List.range n).map (fun i => Value.string (f i)) ∧ (∀ j v, cs[j]? = some v → w.cell? (ad.add j) = some v) ∧ ∀ v ∈ cs, v.oneCell' = true := by
  refine ⟨by rw [hcs]; simp, hcs, fun j v hj => ?_, fun v hv => ?_⟩
  · rw [hcs, List.getElem?_map] at hj
    have hjn : j < n := by
      rcases Nat.lt_or_ge j n with h | h
      · exact h
      · rw [List.getElem?_eq_none (by simp; omega)] at hj; cases hj
    rw [List.getElem?_range hjn] at hj
    cases hj
    exact ha j hjn
  · rw [hcs] at hv
    obtain ⟨i, _, rfl⟩ := List.mem_map.1 hv
    rfl
abbrev OwnS (w : World) (b n : Nat) (D : DataW Unit) : Prop := w.ownsMap Tryd.prog 9 (plainElem (H := Unit) Tryd.prog 4) b n D
abbrev ST (kf : Nat → ByteArray) (m : Nat) : DataW Unit := st (fun i => L (kf i)) m
theorem mkm55 (n : Int) (w : World) : (Instr.makeMap 55 (some (.int .i64 n))).run Tryd.prog w = .ok (.map (some w.heap.size)) (w.alloc (.map #[] 0)) := by kernel_rfl

set_option maxRecDepth 100000 in
set_option maxHeartbeats 8000000 in
theorem obj_some_some (s : ByteArray) (ad1 : Addr) (ad2 : Addr) (n cap1 k cap2 : Nat) (kf vf : Nat → ByteArray) (m : Int) (w : World) (hsm : s.size ≤ maxLen) (hnm : n ≤ maxLen) (hkm : k ≤ maxLen) (hfm : ∀ i, i < n → (kf i).size ≤ maxLen) (hgm : ∀ i, i < k → (vf i).size ≤ maxLen) (hg : ErrT w) (hm : w.cell? ⟨4, 0, none⟩ = some (.int .i64 m)) (hA0 : ArrIs w (some ad1) n kf) (hC0 : ArrIs w (some ad2) k vf) (ha : ∀ i, i < n → w.cell? (ad1.add i) = some (.string (kf i))) (hc : ∀ i, i < k → w.cell? (ad2.add i) = some (.string (vf i))) :
    Calls Tryd.prog 7 #[.string s, .slice (some ad1) n cap1, .slice (some ad2) k cap2] w fun e w' => e = .returned (.bool true) ∧ Below w.heap.size w w' := by
  have q44 : ∀ (w : World) (a : Option Addr) (n c n' c' : Nat), (binOp .neq 44 (.slice a n c) (.slice none n' c')).run Tryd.prog w = .ok (.bool (!a.isNone)) w := fun w a n c n' c' => run_neq_slice_nil_any w _ _ a n c n' c' Tryd.underlying44
  obtain ⟨i9, hi9, h90, h91, h92⟩ := info_parts Tryd.info9x
  have K22 : Hid _ := zz22 s (some ad1) (some ad2) n k cap1 cap2 kf vf w hsm hnm hkm hfm hgm hA0 hC0
  obtain ⟨n0, hn0⟩ : ∃ x, w.heap.size = x := ⟨_, rfl⟩
  have hm4 : 4 < n0 := by
    rw [← hn0]
    rcases Nat.lt_or_ge 4 w.heap.size with h | h
    · exact h
    · simp [World.cell?, Array.getElem?_eq_none h] at hm
  rw [hn0]
  have HB0 : Hid (Below n0 w w) := hid (by rw [← hn0]; exact Below.refl _ _)
  by_cases hgo : s.size ≤ 1048576 ∧ n ≤ 65536 ∧ k ≤ 65536
  · obtain ⟨hs0, hn, hk⟩ := hgo
    have hs : s.size ≤ 4194304 := by omega
    obtain ⟨cs1, hcs1⟩ : ∃ cs, cs = (List.range n).map fun i => Value.string (kf i) := ⟨_, rfl⟩
    have Hcs1 : Hid (cs1.length = n ∧ cs1 = (List.range n).map (fun i => Value.string (kf i)) ∧ (∀ j v, cs1[j]? = some v → w.cell? (ad1.add j) = some v) ∧ ∀ v ∈ cs1, v.oneCell' = true) := hid (cs_facts hcs1 ha)
    clear hcs1 ha
    obtain ⟨cs2, hcs2⟩ : ∃ cs, cs = (List.range k).map fun i => Value.string (vf i) := ⟨_, rfl⟩
    have Hcs2 : Hid (cs2.length = k ∧ cs2 = (List.range k).map (fun i => Value.string (vf i)) ∧ (∀ j v, cs2[j]? = some v → w.cell? (ad2.add j) = some v) ∧ ∀ v ∈ cs2, v.oneCell' = true) := hid (cs_facts hcs2 hc)
    clear hcs2 hc
    go_enter Tryd.func7, Tryd.ntmps7
    go_wp2_with fail
    refine (Calls.mono K22.out) ?_
    rintro e w0 ⟨⟨bl, rfl⟩, hw0⟩
    have hw0' := hw0.symm
    subst hw0'
    clear hw0 K22
    cases bl with
    | false =>
      go_wp2
      go_ret
      exact ⟨rfl, HB0.out⟩
    | true =>
      go_wp2_with (first
        | (at_make; refine wpList_make_full _ rfl _ _ 44 rfl n0 9 i9 (.string ⟨#[]⟩) 1 Tryd.underlying44 hi9 h90 h91 _ _ _ _ n rfl rfl rfl rfl (by rw [h92]; omega) (by unfold maxLen; omega) (by omega) ?_; intro w0 own0 gr0; have hB0 : Below n0 w w0 := (Below.refl n0 w).grown gr0 (by omega) (by intro k hk; cases hk); rw [hn0] at own0; obtain ⟨cu0, hcu0, hcul0⟩ := own_full own0; have hsr0 := src_below Hcs1.out.2.2.1 hB0 hn0; clear own0 gr0)
        | (refine wpList_copy_splice rfl (.tmp 48) (.tmp 49) 44 44 rfl 9 Tryd.underlying44 hsz9 (some ⟨n0, 0, none⟩) (some ad1) n n n cap1 rfl rfl n0 0 cu0 9 hcu0 cs1 (by rw [Hcs1.out.1]; simp) (fun _ => ⟨rfl, _, rfl, hsr0⟩) (by rw [Hcs1.out.1, hcul0]; omega) Hcs1.out.2.2.2 n0 w hB0 (Nat.le_refl _) ?_; intro W1 hW1 hBW1; have HA1 : Hid (ArrIs W1 (some ⟨n0, 0, none⟩) n kf) := hid (arr_of hW1.out Hcs1.out.1 hcul0 Hcs1.out.2.1); obtain ⟨n1, hn1⟩ : ∃ x, W1.heap.size = x := ⟨_, rfl⟩; have hs01 := hBW1.size; clear hcu0 hcul0 hsr0 hB0 hW1)
        | (at_make; refine wpList_make_full _ rfl _ _ 44 rfl n1 9 i9 (.string ⟨#[]⟩) 1 Tryd.underlying44 hi9 h90 h91 _ _ _ _ k rfl rfl rfl rfl (by rw [h92]; omega) (by unfold maxLen; omega) (by omega) ?_; intro w3 own0 gr0; have hB3 : Below n1 W1 w3 := (Below.refl n1 W1).grown gr0 (by omega) (by intro k hk; cases hk); rw [hn1] at own0; obtain ⟨cu3, hcu3, hcul3⟩ := own_full own0; have hsr3 := src_below (src_below Hcs2.out.2.2.1 hBW1 hn0) hB3 hn1; clear own0 gr0)
        | (refine wpList_copy_splice rfl (.tmp 57) (.tmp 58) 44 44 rfl 9 Tryd.underlying44 hsz9 (some ⟨n1, 0, none⟩) (some ad2) k k k cap2 rfl rfl n1 0 cu3 9 hcu3 cs2 (by rw [Hcs2.out.1]; simp) (fun _ => ⟨rfl, _, rfl, hsr3⟩) (by rw [Hcs2.out.1, hcul3]; omega) Hcs2.out.2.2.2 n1 W1 hB3 (Nat.le_refl _) ?_; intro W hW hBW; have HC : Hid (ArrIs W (some ⟨n1, 0, none⟩) k vf) := hid (arr_of hW.out Hcs2.out.1 hcul3 Hcs2.out.2.1); have HA : Hid (ArrIs W (some ⟨n0, 0, none⟩) n kf) := hid (ArrIs.below HA1.out (hn1 ▸ hBW)); have HB : Hid (Below n0 w W) := hid (hBW1.trans (hBW.mono (by omega))); clear hcu3 hcul3 hsr3 hB3 hW))
      have HG : Hid (ErrT w) := hg
      have HM : Hid (W.cell? ⟨4, 0, none⟩ = some (.int .i64 m)) := hid ((Below.cell HB.out (p := ⟨4, 0, none⟩) hm4).trans hm)
      have hn0' : n0 ≤ w.heap.size := by omega
      have HFM : Hid (∀ i, i < n → (kf i).size ≤ maxLen) := hfm
      clear hm hg hn0 hA0 hC0 hfm hgm
      go_loop [9, 10] (fun T i => ∃ (x : Int) (j : Nat), j ≤ n ∧ T = .int .i64 x ∧ i = .int .i64 j) (fun T i => n - (intOf i).toNat)
      case atStart => exact ⟨_, 0, Nat.zero_le _, rfl, rfl⟩
      case round =>
        obtain ⟨x, j, hj, rfl, rfl⟩ := hrel
        by_cases hlt : j < n
        · rcases HA.out with ⟨_, h0⟩ | ⟨b, off, hAe, hcell⟩
          · omega
          · have hc := hcell j hlt
            cases hAe
            rw [Nat.zero_add] at hc
            generalize kf j = y at hc
            clear hcell
            go_wp2
            go_round
            case rel => exact ⟨_, j + 1, hlt, rfl, by go_num⟩
            case measure => simp [intOf]; omega
        · go_wp2
          go_loop [9, 11] (fun T i => ∃ (x : Int) (j : Nat), j ≤ k ∧ T = .int .i64 x ∧ i = .int .i64 j) (fun T i => k - (intOf i).toNat)
          case atStart => exact ⟨_, 0, Nat.zero_le _, rfl, rfl⟩
          case round =>
            obtain ⟨x2, j2, hj2, rfl, rfl⟩ := hrel
            by_cases hlt2 : j2 < k
            · rcases HC.out with ⟨_, h0⟩ | ⟨b, off, hAe, hcell⟩
              · omega
              · have hc := hcell j2 hlt2
                cases hAe
                rw [Nat.zero_add] at hc
                generalize vf j2 = y at hc
                clear hcell
                go_wp2
                go_round
                case rel => exact ⟨_, j2 + 1, hlt2, rfl, by go_num⟩
                case measure => simp [intOf]; omega
            · by_cases hT : 1048576 < x2
              · go_wp2
                go_ret
                exact ⟨rfl, HB.out⟩
              · have K16 : Hid _ := wfp_any s W hs
                cases hwf : wfp (L s) with
                | false =>
                  rw [hwf] at K16
                  go_wp2_with fail
                  refine use K16.out ?_
                  go_wp2
                  go_ret
                  exact ⟨rfl, HB.out⟩
                | true =>
                  have K17 : Hid _ := parse_any s m W hs hwf HM.out
                  rw [hwf] at K16
                  by_cases hkn : k < n
                  · have hmin : Nat.min n k = k := by simp only [Nat.min_def]; split <;> omega
                    have hMn : k ≤ n := by omega
                    have hMk : k ≤ k := Nat.le_refl _
                    go_wp2_with fail
                    refine use K16.out ?_
                    go_wp2_with fail
                    refine (Calls.mono K17.out) ?_
                    rintro e W1 ⟨⟨v, t, rfl, hP1⟩, hB1⟩
                    clear K16 K17 HM
                    obtain ⟨va, vn, vc, rfl⟩ := ptr_shape hP1
                    obtain ⟨n5, hn5⟩ : ∃ x, W1.heap.size = x := ⟨_, rfl⟩
                    have hbW2 : Below n5 W1 (W1.alloc (.cells #[.string t, .slice va vn vc] 31)) := by rw [← hn5]; exact (Below.refl _ W1).alloc (Nat.le_refl _) _
                    have hsz01 := Below.size HB.out
                    have hsz12 := hB1.size
                    have hn05 : n0 ≤ n5 := by omega
                    have hB2 : Below n0 w (W1.alloc (.cells #[.string t, .slice va vn vc] 31)) := (Below.trans HB.out (hB1.mono (by omega))).trans (hbW2.mono hn05)
                    have hA2 := (ArrIs.below HA.out hB1).below (hn5 ▸ hbW2)
                    have hC2 := (ArrIs.below HC.out hB1).below (hn5 ▸ hbW2)
                    have K23 : Hid _ := zobj (.slice va vn vc) t (ptoks (L s)) (some ⟨n0, 0, none⟩) (some ⟨n1, 0, none⟩) n k n k kf vf (W1.alloc (.cells #[.string t, .slice va vn vc] 31)) hn hk (fun i hi => HFM.out i hi) (hP1.below (hn5 ▸ hbW2)) hA2 hC2
                    rw [hmin] at K23
                    have hcx : (W1.alloc (.cells #[.string t, .slice va vn vc] 31)).heap[n5]? = some (.cells #[.string t, .slice va vn vc] 31) := by rw [← hn5]; exact World.alloc_heap_new W1 _
                    have hcx0 : (W1.alloc (.cells #[.string t, .slice va vn vc] 31)).cell? ⟨n5, 0, none⟩ = some (.string t) := by simp only [World.cell?, hcx]; rfl
                    have hcx1 : (W1.alloc (.cells #[.string t, .slice va vn vc] 31)).cell? ⟨n5, 1, none⟩ = some (.slice va vn vc) := by simp only [World.cell?, hcx]; rfl
                    have HB2 : Hid _ := hB2
                    have HA2 : Hid (ArrIs (W1.alloc (.cells #[.string t, .slice va vn vc] 31)) (some ⟨n0, 0, none⟩) n kf) := hA2
                    have HC2 : Hid (ArrIs (W1.alloc (.cells #[.string t, .slice va vn vc] 31)) (some ⟨n1, 0, none⟩) k vf) := hC2
                    clear hP1 hbW2 hB1 hB2 hA2 hC2 hcx hmin
                    go_wp2_with fail
                    refine (Calls.mono K23.out) ?_
                    rintro e W3 ⟨hZ, hB3⟩
                    clear K23 hcx0 hcx1
                    have hA3 := ArrIs.below HA2.out hB3
                    have hC3 := ArrIs.below HC2.out hB3
                    have hsz2 := Below.size HB2.out
                    have hB3' : Below n0 w W3 := Below.trans HB2.out (hB3.mono (by omega))
                    have K19 : Hid _ := ptk_all s W3 hs hwf
                    have HB3 : Hid (Below n0 w W3) := hB3'
                    have HA3 : Hid (ArrIs W3 (some ⟨n0, 0, none⟩) n kf) := hA3
                    have HC3 : Hid (ArrIs W3 (some ⟨n1, 0, none⟩) k vf) := hC3
                    clear hB3 hB3' hA3 hC3 HA2 HC2 HB2 HA HC HB
                    rcases hZ with ⟨hts, rfl⟩ | ⟨q, rest, b, tok, hts, hnk, hLt, rfl, hb⟩ | ⟨q, q2, rest, b, tok, jj, hts, hlk, hLt, rfl, hb⟩ | ⟨q, jj, hts, hlk, rfl⟩
                    · have HTS : Hid (ptoks (L s) = []) := hts
                      clear hts
                      have hmk := mkm55
                      have hsz := size_same (fun i => L (kf i)) (fun i => L (vf i)) k
                      have hsl := size_le (fun i => L (kf i)) (fun i => L (vf i)) k
                      obtain ⟨Z, hZe⟩ : ∃ Z, Maps.size (DM kf vf k) = Z := ⟨_, rfl⟩
                      rw [hZe]
                      have hZl : Z ≤ k := by rw [← hZe]; exact hsl
                      have HZ : Hid (Maps.size (ST kf k) = Z) := hid (hsz.symm.trans hZe)
                      clear hsz hsl hZe
                      go_wp2_with fail
                      refine (Calls.mono K19.out) ?_
                      rintro e W4 ⟨⟨tv, rfl, hR⟩, hB4⟩
                      have hB5 : Below n0 w W4 := Below.trans HB3.out (hB4.mono (by have := Below.size HB3.out; omega))
                      rw [HTS.out] at hR
                      obtain ⟨ta, tc, rfl⟩ := tok_shape hR
                      have HA4 : Hid (ArrIs W4 (some ⟨n0, 0, none⟩) n kf) := hid (ArrIs.below HA3.out hB4)
                      have hB5s := hB5.size
                      have HB5 : Hid (Below n0 w W4) := hB5
                      obtain ⟨n6, hn6⟩ : ∃ x, W4.heap.size = x := ⟨_, rfl⟩
                      have hn06 : n0 ≤ n6 := by omega
                      have HO : Hid (OwnS (W4.alloc (.map #[] 0)) n6 0 (ST kf 0)) := hid (by have := World.ownsMap_made W4 Tryd.prog 9 (plainElem (H := Unit) Tryd.prog 4); rw [hn6] at this; exact this)
                      have HB6 : Hid (Below n6 W4 (W4.alloc (.map #[] 0))) := hid (by rw [← hn6]; exact (Below.refl _ W4).alloc (Nat.le_refl _) _)
                      clear K19 hR hB4 HB3 HA3 HC3 HTS hB5
                      unfold maxLen at *
                      simp only [List.length_nil]
                      go_wp2
                      go_loopw [22] (fun iv wr => ∃ ii : Nat, ii ≤ k ∧ iv = .int .i64 ii ∧ OwnS wr n6 ii (ST kf ii) ∧ Below n6 W4 wr) (fun iv _ => k - (intOf iv).toNat)
                      case atStart => exact ⟨0, Nat.zero_le _, rfl, HO.out, HB6.out⟩
                      case round =>
                        obtain ⟨ii, hii, rfl, hown, hBr⟩ := hrel
                        have hBr' : Below W4.heap.size W4 wr := hn6 ▸ hBr
                        have hBrs := hBr.size
                        by_cases hlt : ii < k
                        · rcases ArrIs.below HA4.out hBr' with ⟨_, h0⟩ | ⟨b3, off3, hAe, hcell⟩
                          · omega
                          · have hck : wr.cell? ⟨b3, off3 + ii, none⟩ = some (.string (kf ii)) := hcell ii (by omega)
                            cases hAe
                            rw [Nat.zero_add] at hck
                            have hii2 : ii < n := by omega
                            have hkey := keyS (kf ii) (HFM.out ii hii2)
                            have HBr : Hid (Below n6 W4 wr) := hBr
                            obtain ⟨x, hx⟩ : ∃ x, kf ii = x := ⟨_, rfl⟩
                            have HX : Hid (kf ii = x) := hx
                            rw [hx] at hck hkey
                            obtain ⟨w2, hrun, own2, gr2⟩ := World.ownsMap.update (t := 55) (e := 4) (val := .bool true) hown (Maps.string_keyed Tryd.underlying9) Tryd.underlying55 (by unfold maxLen; omega) hkey (plainElem_bool Tryd.underlying4 true)
                            clear hcell hown hBr hBr' hx hkey
                            go_wp2
                            go_roundw
                            case rel => exact ⟨ii + 1, hlt, by go_num, by have := own2; rw [← HX.out] at this; exact this, Below.grown HBr.out gr2 (by omega) (fun i e => by cases e; exact Nat.le_refl _)⟩
                            case measure => simp [intOf]; omega
                        · have hge : k ≤ ii := by omega
                          have hie : ii = k := by omega
                          rw [hie] at hown
                          have hlen := hown.len Tryd.underlying55
                          have HBf : Hid (Below n0 w wr) := hid (Below.trans HB5.out (hBr.mono hn06))
                          rw [HZ.out] at hlen
                          clear hBr hBr' HB5 HA4 HO HB6 HZ hown hie
                          go_wp2
                          go_ret
                          exact ⟨by simp, HBf.out⟩
                    · have hql : (mkB q).size ≤ 4194304 := by rw [mk_size]; exact Nat.le_trans (ptoks_le _ q (by rw [hts]; simp)) (by rw [L_len]; exact hs)
                      obtain rfl : tok = mkB q := by rw [← hLt, mk_L]
                      have hbl := (Array.getElem?_eq_some_iff.1 hb).1
                      have HTS : Hid (ptoks (L s) = q :: rest) := hts
                      have HBB : Hid _ := hb
                      have HNK : Hid (∀ i, i < k → ((kf i).toList == (mkB q).toList) = false) := hid (fun i hi => beq_eq_false_iff_ne.2 (fun e => hnk i hi (by rw [Lib.toList_data, Lib.toList_data] at e; exact e)))
                      clear hts hLt hb hnk
                      go_wp2_with fail
                      refine (Calls.mono K19.out) ?_
                      rintro e W4 ⟨⟨tv, rfl, hR⟩, hB4⟩
                      have hB5 : Below n0 w W4 := Below.trans HB3.out (hB4.mono (by have := Below.size HB3.out; omega))
                      rw [HTS.out] at hR
                      obtain ⟨g, tc, rfl, hcells⟩ := tok_some hR
                      have hc0 := hcells 0 q rfl
                      have HA4 : Hid (ArrIs W4 (some ⟨n0, 0, none⟩) n kf) := hid (ArrIs.below HA3.out hB4)
                      have hB5s := hB5.size
                      have HB5 : Hid (Below n0 w W4) := hB5
                      have HB6 : Hid (W4.heap[b]? = some (.cells #[.string kMem, .int .i64 1, .string (mkB q)] 87 (0, 0))) := hid ((hB4.block b hbl).trans HBB.out)
                      have hrl : rest.length + 1 ≤ 4194304 := by have := ptoks_len (L s); rw [HTS.out, L_len] at this; simp at this; omega
                      obtain ⟨n6, hn6⟩ : ∃ x, W4.heap.size = x := ⟨_, rfl⟩
                      have hn6' : n6 ≤ W4.heap.size := by omega
                      have hn06 : n0 ≤ n6 := by omega
                      clear K19 hR hB4 HB3 HA3 HC3 HTS hcells HBB hB5 hbl
                      unfold maxLen at *
                      unfold sv at hc0
                      have HC0 : Hid _ := hc0
                      clear hc0
                      simp only [List.length_cons]
                      go_wp2
                      go_loopw [23, 24] (fun jv iv wr => ∃ ii : Nat, ii ≤ k ∧ jv = .int .i64 (-1) ∧ iv = .int .i64 ((ii : Int) - 1) ∧ Below n6 W4 wr) (fun _ iv _ => (intOf iv + 1).toNat)
                      case atStart => exact ⟨k, Nat.le_refl _, rfl, rfl, Below.refl _ _⟩
                      case round =>
                        obtain ⟨ii, hii, rfl, rfl, hBr⟩ := hrel
                        have hBr' : Below W4.heap.size W4 wr := hn6 ▸ hBr
                        have hBrs := hBr.size
                        by_cases hi0 : ii = 0
                        · subst hi0
                          have hBw : Below n0 w wr := Below.trans HB5.out (hBr.mono hn06)
                          have hcg : wr.cell? ⟨g, 0, none⟩ = some (.string (mkB q)) := by
                            have := HC0.out
                            rw [hBr'.cell (World.block_lt_of_cell? W4 _ this), this]
                          have K21 : Hid _ := eei b kMem (mkB q) 1 wr (Below.errT hBw (by omega) HG.out) ((hBr'.block b (Array.getElem?_eq_some_iff.1 HB6.out).1).trans HB6.out)
                          have HBw : Hid (Below n0 w wr) := hBw
                          clear HB6 HB5 HA4 HNK HC0 hBw hBr hBr'
                          go_wp2_with fail
                          refine (Calls.mono K21.out) ?_
                          rintro e W5 ⟨rfl, hB6⟩
                          have HBf : Hid (Below n0 w W5) := hid (Below.trans HBw.out (hB6.mono (by omega)))
                          clear hB6 K21 HBw
                          go_wp2
                          go_ret
                          exact ⟨by simp, HBf.out⟩
                        · obtain ⟨i2, rfl⟩ : ∃ i2, ii = i2 + 1 := ⟨ii - 1, by omega⟩
                          have hcg : wr.drew.cell? ⟨g, 0, none⟩ = some (.string (mkB q)) := by
                            have := HC0.out
                            show wr.cell? _ = _
                            rw [hBr'.cell (World.block_lt_of_cell? W4 _ this), this]
                          rcases ArrIs.below HA4.out hBr' with ⟨_, h0⟩ | ⟨b3, off3, hAe, hcell⟩
                          · omega
                          · have hck : wr.drew.cell? ⟨b3, off3 + i2, none⟩ = some (.string (kf i2)) := hcell i2 (by omega)
                            have hne := HNK.out i2 (by omega)
                            cases hAe
                            rw [Nat.zero_add] at hck
                            have HBr : Hid (Below n6 W4 wr.drew) := hid (Below.drew hBr)
                            have hi2 : i2 < n := by omega
                            generalize kf i2 = y at hck hne
                            clear hcell hBr hBr' hi0
                            have hcast : ((i2 + 1 : Nat) : Int) - 1 = (i2 : Int) := by omega
                            rw [hcast]
                            clear hcast
                            go_wp2
                            go_region
                            go_wp2
                            go_roundw
                            case rel => exact ⟨i2, by omega, rfl, rfl, HBr.out⟩
                            case measure => simp [intOf]
                    · have hql : (mkB q).size ≤ 4194304 := by rw [mk_size]; exact Nat.le_trans (ptoks_le _ q (by rw [hts]; simp)) (by rw [L_len]; exact hs)
                      obtain rfl : tok = mkB q2 := by rw [← hLt, mk_L]
                      have hbl := (Array.getElem?_eq_some_iff.1 hb).1
                      have HBB : Hid _ := hb
                      have HTS : Hid (ptoks (L s) = q :: q2 :: rest) := hts
                      have HNK : Hid (∀ i, jj < i → i < k → ((kf i).toList == (mkB q).toList) = false) := hid (fun i h1 hi => beq_eq_false_iff_ne.2 (fun e => hlk.2.2 i h1 hi (by rw [Lib.toList_data, Lib.toList_data] at e; exact e)))
                      have HYK : Hid (((kf jj).toList == (mkB q).toList) = true) := hid (by rw [Lib.toList_data, Lib.toList_data]; exact beq_iff_eq.2 hlk.2.1)
                      have hjM := hlk.1
                      clear hts hlk hLt hb
                      go_wp2_with fail
                      refine (Calls.mono K19.out) ?_
                      rintro e W4 ⟨⟨tv, rfl, hR⟩, hB4⟩
                      have hB5 : Below n0 w W4 := Below.trans HB3.out (hB4.mono (by have := Below.size HB3.out; omega))
                      rw [HTS.out] at hR
                      obtain ⟨g, tc, rfl, hcells⟩ := tok_some hR
                      have hc0 := hcells 0 q rfl
                      have hc1 := hcells 1 q2 rfl
                      have HA4 : Hid (ArrIs W4 (some ⟨n0, 0, none⟩) n kf) := hid (ArrIs.below HA3.out hB4)
                      have HC4 : Hid (ArrIs W4 (some ⟨n1, 0, none⟩) k vf) := hid (ArrIs.below HC3.out hB4)
                      have hB5s := hB5.size
                      have HB5 : Hid (Below n0 w W4) := hB5
                      have HB6 : Hid (W4.heap[b]? = some (.cells #[.string kCont, .int .i64 2, .string (mkB q2)] 87 (0, 0))) := hid ((hB4.block b hbl).trans HBB.out)
                      have hrl : rest.length + 2 ≤ 4194304 := by have := ptoks_len (L s); rw [HTS.out, L_len] at this; simp at this; omega
                      obtain ⟨n6, hn6⟩ : ∃ x, W4.heap.size = x := ⟨_, rfl⟩
                      have hn06 : n0 ≤ n6 := by omega
                      clear K19 hR hB4 HB3 HA3 HC3 HTS hcells hB5 hbl HBB
                      unfold maxLen at *
                      unfold sv at hc0 hc1
                      have HC0 : Hid _ := hc0
                      have HC1 : Hid _ := hc1
                      clear hc0 hc1
                      simp only [List.length_cons]
                      go_wp2
                      go_loopw [23, 24] (fun jv iv wr => ∃ ii : Nat, ii ≤ k ∧ jj < ii ∧ jv = .int .i64 (-1) ∧ iv = .int .i64 ((ii : Int) - 1) ∧ Below n6 W4 wr) (fun _ iv _ => (intOf iv + 1).toNat)
                      case atStart => exact ⟨k, Nat.le_refl _, hjM, rfl, rfl, Below.refl _ _⟩
                      case round =>
                        obtain ⟨ii, hii, hji, rfl, rfl, hBr⟩ := hrel
                        have hBr' : Below W4.heap.size W4 wr := hn6 ▸ hBr
                        have hBrs := hBr.size
                        obtain ⟨i2, rfl⟩ : ∃ i2, ii = i2 + 1 := ⟨ii - 1, by omega⟩
                        have hcg : wr.drew.cell? ⟨g, 0, none⟩ = some (.string (mkB q)) := by
                          have := HC0.out
                          show wr.cell? _ = _
                          rw [hBr'.cell (World.block_lt_of_cell? W4 _ this), this]
                        rcases ArrIs.below HA4.out hBr' with ⟨_, h0⟩ | ⟨b3, off3, hAe, hcell⟩
                        · omega
                        · have hck : wr.drew.cell? ⟨b3, off3 + i2, none⟩ = some (.string (kf i2)) := hcell i2 (by omega)
                          cases hAe
                          rw [Nat.zero_add] at hck
                          have HBr : Hid (Below n6 W4 wr.drew) := hid (Below.drew hBr)
                          have hi2 : i2 < n := by omega
                          have hcast : ((i2 + 1 : Nat) : Int) - 1 = (i2 : Int) := by omega
                          rw [hcast]
                          clear hcast hcell
                          by_cases hij : jj < i2
                          · have hne := HNK.out i2 hij (by omega)
                            generalize kf i2 = y at hck hne
                            clear hBr hBr'
                            go_wp2
                            go_region
                            go_wp2
                            go_roundw
                            case rel => exact ⟨i2, by omega, hij, rfl, rfl, HBr.out⟩
                            case measure => simp [intOf]
                          · have hyk : ((kf i2).toList == (mkB q).toList) = true := by
                              have : jj = i2 := by omega
                              rw [← this]; exact HYK.out
                            have hBw : Below n0 w wr.drew := Below.trans HB5.out ((Below.drew hBr).mono hn06)
                            have HBw : Hid (Below n0 w wr.drew) := hBw
                            generalize kf i2 = y at hck hyk
                            have hcg1 : wr.drew.cell? ⟨g, 1, none⟩ = some (.string (mkB q2)) := by
                              have := HC1.out
                              show wr.cell? _ = _
                              rw [hBr'.cell (World.block_lt_of_cell? W4 _ this), this]
                            have K21 : Hid _ := eei b kCont (mkB q2) 2 wr.drew (Below.errT hBw (by omega) HG.out) ((hBr'.block b (Array.getElem?_eq_some_iff.1 HB6.out).1).trans HB6.out)
                            clear hBr hBr' HB6 HB5 HA4 HC4 HNK HYK HC0 HC1 hBw
                            go_wp2
                            go_region
                            go_wp2_with fail
                            refine (Calls.mono K21.out) ?_
                            rintro e W5 ⟨rfl, hB6⟩
                            have HBf : Hid (Below n0 w W5) := hid (Below.trans HBw.out (hB6.mono (by show _ ≤ wr.heap.size; omega)))
                            clear hB6 K21 HBw
                            go_wp2
                            go_ret
                            exact ⟨by simp, HBf.out⟩
                    · have hql : (mkB q).size ≤ 4194304 := by rw [mk_size]; exact Nat.le_trans (ptoks_le _ q (by rw [hts]; simp)) (by rw [L_len]; exact hs)
                      have HTS : Hid (ptoks (L s) = [q]) := hts
                      have HNK : Hid (∀ i, jj < i → i < k → ((kf i).toList == (mkB q).toList) = false) := hid (fun i h1 hi => beq_eq_false_iff_ne.2 (fun e => hlk.2.2 i h1 hi (by rw [Lib.toList_data, Lib.toList_data] at e; exact e)))
                      have HYK : Hid (((kf jj).toList == (mkB q).toList) = true) := hid (by rw [Lib.toList_data, Lib.toList_data]; exact beq_iff_eq.2 hlk.2.1)
                      have hjM := hlk.1
                      clear hts hlk
                      obtain ⟨z, hz⟩ : ∃ z, vf jj = z := ⟨_, rfl⟩
                      rw [hz]
                      have HZ : Hid _ := hz
                      clear hz
                      go_wp2_with fail
                      refine (Calls.mono K19.out) ?_
                      rintro e W4 ⟨⟨tv, rfl, hR⟩, hB4⟩
                      have hB5 : Below n0 w W4 := Below.trans HB3.out (hB4.mono (by have := Below.size HB3.out; omega))
                      rw [HTS.out] at hR
                      obtain ⟨g, tc, rfl, hcells⟩ := tok_some hR
                      have hc0 := hcells 0 q rfl
                      have HA4 : Hid (ArrIs W4 (some ⟨n0, 0, none⟩) n kf) := hid (ArrIs.below HA3.out hB4)
                      have HC4 : Hid (ArrIs W4 (some ⟨n1, 0, none⟩) k vf) := hid (ArrIs.below HC3.out hB4)
                      have hB5s := hB5.size
                      have HB5 : Hid (Below n0 w W4) := hB5
                      obtain ⟨n6, hn6⟩ : ∃ x, W4.heap.size = x := ⟨_, rfl⟩
                      have hn06 : n0 ≤ n6 := by omega
                      clear K19 hR hB4 HB3 HA3 HC3 HTS hcells hB5
                      unfold maxLen at *
                      unfold sv at hc0
                      have HC0 : Hid _ := hc0
                      clear hc0
                      simp only [List.length_cons, List.length_nil]
                      go_wp2
                      go_loopw [23, 24] (fun jv iv wr => ∃ ii : Nat, ii ≤ k ∧ jj < ii ∧ jv = .int .i64 (-1) ∧ iv = .int .i64 ((ii : Int) - 1) ∧ Below n6 W4 wr) (fun _ iv _ => (intOf iv + 1).toNat)
                      case atStart => exact ⟨k, Nat.le_refl _, hjM, rfl, rfl, Below.refl _ _⟩
                      case round =>
                        obtain ⟨ii, hii, hji, rfl, rfl, hBr⟩ := hrel
                        have hBr' : Below W4.heap.size W4 wr := hn6 ▸ hBr
                        have hBrs := hBr.size
                        obtain ⟨i2, rfl⟩ : ∃ i2, ii = i2 + 1 := ⟨ii - 1, by omega⟩
                        have hcg : wr.drew.cell? ⟨g, 0, none⟩ = some (.string (mkB q)) := by
                          have := HC0.out
                          show wr.cell? _ = _
                          rw [hBr'.cell (World.block_lt_of_cell? W4 _ this), this]
                        rcases ArrIs.below HA4.out hBr' with ⟨_, h0⟩ | ⟨b3, off3, hAe, hcell⟩
                        · omega
                        · have hck : wr.drew.cell? ⟨b3, off3 + i2, none⟩ = some (.string (kf i2)) := hcell i2 (by omega)
                          cases hAe
                          rw [Nat.zero_add] at hck
                          have HBr : Hid (Below n6 W4 wr.drew) := hid (Below.drew hBr)
                          have hi2 : i2 < n := by omega
                          have hcast : ((i2 + 1 : Nat) : Int) - 1 = (i2 : Int) := by omega
                          rw [hcast]
                          clear hcast hcell
                          by_cases hij : jj < i2
                          · have hne := HNK.out i2 hij (by omega)
                            generalize kf i2 = y at hck hne
                            clear hBr hBr'
                            go_wp2
                            go_region
                            go_wp2
                            go_roundw
                            case rel => exact ⟨i2, by omega, hij, rfl, rfl, HBr.out⟩
                            case measure => simp [intOf]
                          · have hyk : ((kf i2).toList == (mkB q).toList) = true := by
                              have : jj = i2 := by omega
                              rw [← this]; exact HYK.out
                            have hBw : Below n0 w wr.drew := Below.trans HB5.out ((Below.drew hBr).mono hn06)
                            have HBw : Hid (Below n0 w wr.drew) := hBw
                            generalize kf i2 = y at hck hyk
                            rcases ArrIs.below HC4.out hBr' with ⟨_, h0⟩ | ⟨b4, off4, hAe2, hcell4⟩
                            · omega
                            · have hcv : wr.drew.cell? ⟨b4, off4 + i2, none⟩ = some (.string z) := by
                                have h1 := hcell4 i2 (by omega)
                                have : jj = i2 := by omega
                                rw [← HZ.out, this]; exact h1
                              cases hAe2
                              rw [Nat.zero_add] at hcv
                              have hi2k : i2 < k := by omega
                              clear hBr hBr' HB5 HA4 HC4 HNK HYK HC0 hBw hcell4
                              go_wp2
                              go_region
                              go_wp2
                              go_ret
                              exact ⟨by simp, HBw.out⟩
                  · have hmin : Nat.min n k = n := by simp only [Nat.min_def]; split <;> omega
                    have hMn : n ≤ n := Nat.le_refl _
                    have hMk : n ≤ k := by omega
                    go_wp2_with fail
                    refine use K16.out ?_
                    go_wp2_with fail
                    refine (Calls.mono K17.out) ?_
                    rintro e W1 ⟨⟨v, t, rfl, hP1⟩, hB1⟩
                    clear K16 K17 HM
                    obtain ⟨va, vn, vc, rfl⟩ := ptr_shape hP1
                    obtain ⟨n5, hn5⟩ : ∃ x, W1.heap.size = x := ⟨_, rfl⟩
                    have hbW2 : Below n5 W1 (W1.alloc (.cells #[.string t, .slice va vn vc] 31)) := by rw [← hn5]; exact (Below.refl _ W1).alloc (Nat.le_refl _) _
                    have hsz01 := Below.size HB.out
                    have hsz12 := hB1.size
                    have hn05 : n0 ≤ n5 := by omega
                    have hB2 : Below n0 w (W1.alloc (.cells #[.string t, .slice va vn vc] 31)) := (Below.trans HB.out (hB1.mono (by omega))).trans (hbW2.mono hn05)
                    have hA2 := (ArrIs.below HA.out hB1).below (hn5 ▸ hbW2)
                    have hC2 := (ArrIs.below HC.out hB1).below (hn5 ▸ hbW2)
                    have K23 : Hid _ := zobj (.slice va vn vc) t (ptoks (L s)) (some ⟨n0, 0, none⟩) (some ⟨n1, 0, none⟩) n k n k kf vf (W1.alloc (.cells #[.string t, .slice va vn vc] 31)) hn hk (fun i hi => HFM.out i hi) (hP1.below (hn5 ▸ hbW2)) hA2 hC2
                    rw [hmin] at K23
                    have hcx : (W1.alloc (.cells #[.string t, .slice va vn vc] 31)).heap[n5]? = some (.cells #[.string t, .slice va vn vc] 31) := by rw [← hn5]; exact World.alloc_heap_new W1 _
                    have hcx0 : (W1.alloc (.cells #[.string t, .slice va vn vc] 31)).cell? ⟨n5, 0, none⟩ = some (.string t) := by simp only [World.cell?, hcx]; rfl
                    have hcx1 : (W1.alloc (.cells #[.string t, .slice va vn vc] 31)).cell? ⟨n5, 1, none⟩ = some (.slice va vn vc) := by simp only [World.cell?, hcx]; rfl
                    have HB2 : Hid _ := hB2
                    have HA2 : Hid (ArrIs (W1.alloc (.cells #[.string t, .slice va vn vc] 31)) (some ⟨n0, 0, none⟩) n kf) := hA2
                    have HC2 : Hid (ArrIs (W1.alloc (.cells #[.string t, .slice va vn vc] 31)) (some ⟨n1, 0, none⟩) k vf) := hC2
                    clear hP1 hbW2 hB1 hB2 hA2 hC2 hcx hmin
                    go_wp2_with fail
                    refine (Calls.mono K23.out) ?_
                    rintro e W3 ⟨hZ, hB3⟩
                    clear K23 hcx0 hcx1
                    have hA3 := ArrIs.below HA2.out hB3
                    have hC3 := ArrIs.below HC2.out hB3
                    have hsz2 := Below.size HB2.out
                    have hB3' : Below n0 w W3 := Below.trans HB2.out (hB3.mono (by omega))
                    have K19 : Hid _ := ptk_all s W3 hs hwf
                    have HB3 : Hid (Below n0 w W3) := hB3'
                    have HA3 : Hid (ArrIs W3 (some ⟨n0, 0, none⟩) n kf) := hA3
                    have HC3 : Hid (ArrIs W3 (some ⟨n1, 0, none⟩) k vf) := hC3
                    clear hB3 hB3' hA3 hC3 HA2 HC2 HB2 HA HC HB
                    rcases hZ with ⟨hts, rfl⟩ | ⟨q, rest, b, tok, hts, hnk, hLt, rfl, hb⟩ | ⟨q, q2, rest, b, tok, jj, hts, hlk, hLt, rfl, hb⟩ | ⟨q, jj, hts, hlk, rfl⟩
                    · have HTS : Hid (ptoks (L s) = []) := hts
                      clear hts
                      have hmk := mkm55
                      have hsz := size_same (fun i => L (kf i)) (fun i => L (vf i)) n
                      have hsl := size_le (fun i => L (kf i)) (fun i => L (vf i)) n
                      obtain ⟨Z, hZe⟩ : ∃ Z, Maps.size (DM kf vf n) = Z := ⟨_, rfl⟩
                      rw [hZe]
                      have hZl : Z ≤ n := by rw [← hZe]; exact hsl
                      have HZ : Hid (Maps.size (ST kf n) = Z) := hid (hsz.symm.trans hZe)
                      clear hsz hsl hZe
                      go_wp2_with fail
                      refine (Calls.mono K19.out) ?_
                      rintro e W4 ⟨⟨tv, rfl, hR⟩, hB4⟩
                      have hB5 : Below n0 w W4 := Below.trans HB3.out (hB4.mono (by have := Below.size HB3.out; omega))
                      rw [HTS.out] at hR
                      obtain ⟨ta, tc, rfl⟩ := tok_shape hR
                      have HA4 : Hid (ArrIs W4 (some ⟨n0, 0, none⟩) n kf) := hid (ArrIs.below HA3.out hB4)
                      have hB5s := hB5.size
                      have HB5 : Hid (Below n0 w W4) := hB5
                      obtain ⟨n6, hn6⟩ : ∃ x, W4.heap.size = x := ⟨_, rfl⟩
                      have hn06 : n0 ≤ n6 := by omega
                      have HO : Hid (OwnS (W4.alloc (.map #[] 0)) n6 0 (ST kf 0)) := hid (by have := World.ownsMap_made W4 Tryd.prog 9 (plainElem (H := Unit) Tryd.prog 4); rw [hn6] at this; exact this)
                      have HB6 : Hid (Below n6 W4 (W4.alloc (.map #[] 0))) := hid (by rw [← hn6]; exact (Below.refl _ W4).alloc (Nat.le_refl _) _)
                      clear K19 hR hB4 HB3 HA3 HC3 HTS hB5
                      unfold maxLen at *
                      simp only [List.length_nil]
                      go_wp2
                      go_loopw [22] (fun iv wr => ∃ ii : Nat, ii ≤ n ∧ iv = .int .i64 ii ∧ OwnS wr n6 ii (ST kf ii) ∧ Below n6 W4 wr) (fun iv _ => n - (intOf iv).toNat)
                      case atStart => exact ⟨0, Nat.zero_le _, rfl, HO.out, HB6.out⟩
                      case round =>
                        obtain ⟨ii, hii, rfl, hown, hBr⟩ := hrel
                        have hBr' : Below W4.heap.size W4 wr := hn6 ▸ hBr
                        have hBrs := hBr.size
                        by_cases hlt : ii < n
                        · rcases ArrIs.below HA4.out hBr' with ⟨_, h0⟩ | ⟨b3, off3, hAe, hcell⟩
                          · omega
                          · have hck : wr.cell? ⟨b3, off3 + ii, none⟩ = some (.string (kf ii)) := hcell ii (by omega)
                            cases hAe
                            rw [Nat.zero_add] at hck
                            have hii2 : ii < n := by omega
                            have hkey := keyS (kf ii) (HFM.out ii hii2)
                            have HBr : Hid (Below n6 W4 wr) := hBr
                            obtain ⟨x, hx⟩ : ∃ x, kf ii = x := ⟨_, rfl⟩
                            have HX : Hid (kf ii = x) := hx
                            rw [hx] at hck hkey
                            obtain ⟨w2, hrun, own2, gr2⟩ := World.ownsMap.update (t := 55) (e := 4) (val := .bool true) hown (Maps.string_keyed Tryd.underlying9) Tryd.underlying55 (by unfold maxLen; omega) hkey (plainElem_bool Tryd.underlying4 true)
                            clear hcell hown hBr hBr' hx hkey
                            go_wp2
                            go_roundw
                            case rel => exact ⟨ii + 1, hlt, by go_num, by have := own2; rw [← HX.out] at this; exact this, Below.grown HBr.out gr2 (by omega) (fun i e => by cases e; exact Nat.le_refl _)⟩
                            case measure => simp [intOf]; omega
                        · have hge : n ≤ ii := by omega
                          have hie : ii = n := by omega
                          rw [hie] at hown
                          have hlen := hown.len Tryd.underlying55
                          have HBf : Hid (Below n0 w wr) := hid (Below.trans HB5.out (hBr.mono hn06))
                          rw [HZ.out] at hlen
                          clear hBr hBr' HB5 HA4 HO HB6 HZ hown hie
                          go_wp2
                          go_ret
                          exact ⟨by simp, HBf.out⟩
                    · have hql : (mkB q).size ≤ 4194304 := by rw [mk_size]; exact Nat.le_trans (ptoks_le _ q (by rw [hts]; simp)) (by rw [L_len]; exact hs)
                      obtain rfl : tok = mkB q := by rw [← hLt, mk_L]
                      have hbl := (Array.getElem?_eq_some_iff.1 hb).1
                      have HTS : Hid (ptoks (L s) = q :: rest) := hts
                      have HBB : Hid _ := hb
                      have HNK : Hid (∀ i, i < n → ((kf i).toList == (mkB q).toList) = false) := hid (fun i hi => beq_eq_false_iff_ne.2 (fun e => hnk i hi (by rw [Lib.toList_data, Lib.toList_data] at e; exact e)))
                      clear hts hLt hb hnk
                      go_wp2_with fail
                      refine (Calls.mono K19.out) ?_
                      rintro e W4 ⟨⟨tv, rfl, hR⟩, hB4⟩
                      have hB5 : Below n0 w W4 := Below.trans HB3.out (hB4.mono (by have := Below.size HB3.out; omega))
                      rw [HTS.out] at hR
                      obtain ⟨g, tc, rfl, hcells⟩ := tok_some hR
                      have hc0 := hcells 0 q rfl
                      have HA4 : Hid (ArrIs W4 (some ⟨n0, 0, none⟩) n kf) := hid (ArrIs.below HA3.out hB4)
                      have hB5s := hB5.size
                      have HB5 : Hid (Below n0 w W4) := hB5
                      have HB6 : Hid (W4.heap[b]? = some (.cells #[.string kMem, .int .i64 1, .string (mkB q)] 87 (0, 0))) := hid ((hB4.block b hbl).trans HBB.out)
                      have hrl : rest.length + 1 ≤ 4194304 := by have := ptoks_len (L s); rw [HTS.out, L_len] at this; simp at this; omega
                      obtain ⟨n6, hn6⟩ : ∃ x, W4.heap.size = x := ⟨_, rfl⟩
                      have hn6' : n6 ≤ W4.heap.size := by omega
                      have hn06 : n0 ≤ n6 := by omega
                      clear K19 hR hB4 HB3 HA3 HC3 HTS hcells HBB hB5 hbl
                      unfold maxLen at *
                      unfold sv at hc0
                      have HC0 : Hid _ := hc0
                      clear hc0
                      simp only [List.length_cons]
                      go_wp2
                      go_loopw [23, 24] (fun jv iv wr => ∃ ii : Nat, ii ≤ n ∧ jv = .int .i64 (-1) ∧ iv = .int .i64 ((ii : Int) - 1) ∧ Below n6 W4 wr) (fun _ iv _ => (intOf iv + 1).toNat)
                      case atStart => exact ⟨n, Nat.le_refl _, rfl, rfl, Below.refl _ _⟩
                      case round =>
                        obtain ⟨ii, hii, rfl, rfl, hBr⟩ := hrel
                        have hBr' : Below W4.heap.size W4 wr := hn6 ▸ hBr
                        have hBrs := hBr.size
                        by_cases hi0 : ii = 0
                        · subst hi0
                          have hBw : Below n0 w wr := Below.trans HB5.out (hBr.mono hn06)
                          have hcg : wr.cell? ⟨g, 0, none⟩ = some (.string (mkB q)) := by
                            have := HC0.out
                            rw [hBr'.cell (World.block_lt_of_cell? W4 _ this), this]
                          have K21 : Hid _ := eei b kMem (mkB q) 1 wr (Below.errT hBw (by omega) HG.out) ((hBr'.block b (Array.getElem?_eq_some_iff.1 HB6.out).1).trans HB6.out)
                          have HBw : Hid (Below n0 w wr) := hBw
                          clear HB6 HB5 HA4 HNK HC0 hBw hBr hBr'
                          go_wp2_with fail
                          refine (Calls.mono K21.out) ?_
                          rintro e W5 ⟨rfl, hB6⟩
                          have HBf : Hid (Below n0 w W5) := hid (Below.trans HBw.out (hB6.mono (by omega)))
                          clear hB6 K21 HBw
                          go_wp2
                          go_ret
                          exact ⟨by simp, HBf.out⟩
                        · obtain ⟨i2, rfl⟩ : ∃ i2, ii = i2 + 1 := ⟨ii - 1, by omega⟩
                          have hcg : wr.drew.cell? ⟨g, 0, none⟩ = some (.string (mkB q)) := by
                            have := HC0.out
                            show wr.cell? _ = _
                            rw [hBr'.cell (World.block_lt_of_cell? W4 _ this), this]
                          rcases ArrIs.below HA4.out hBr' with ⟨_, h0⟩ | ⟨b3, off3, hAe, hcell⟩
                          · omega
                          · have hck : wr.drew.cell? ⟨b3, off3 + i2, none⟩ = some (.string (kf i2)) := hcell i2 (by omega)
                            have hne := HNK.out i2 (by omega)
                            cases hAe
                            rw [Nat.zero_add] at hck
                            have HBr : Hid (Below n6 W4 wr.drew) := hid (Below.drew hBr)
                            have hi2 : i2 < n := by omega
                            generalize kf i2 = y at hck hne
                            clear hcell hBr hBr' hi0
                            have hcast : ((i2 + 1 : Nat) : Int) - 1 = (i2 : Int) := by omega
                            rw [hcast]
                            clear hcast
                            go_wp2
                            go_region
                            go_wp2
                            go_roundw
                            case rel => exact ⟨i2, by omega, rfl, rfl, HBr.out⟩
                            case measure => simp [intOf]
                    · have hql : (mkB q).size ≤ 4194304 := by rw [mk_size]; exact Nat.le_trans (ptoks_le _ q (by rw [hts]; simp)) (by rw [L_len]; exact hs)
                      obtain rfl : tok = mkB q2 := by rw [← hLt, mk_L]
                      have hbl := (Array.getElem?_eq_some_iff.1 hb).1
                      have HBB : Hid _ := hb
                      have HTS : Hid (ptoks (L s) = q :: q2 :: rest) := hts
                      have HNK : Hid (∀ i, jj < i → i < n → ((kf i).toList == (mkB q).toList) = false) := hid (fun i h1 hi => beq_eq_false_iff_ne.2 (fun e => hlk.2.2 i h1 hi (by rw [Lib.toList_data, Lib.toList_data] at e; exact e)))
                      have HYK : Hid (((kf jj).toList == (mkB q).toList) = true) := hid (by rw [Lib.toList_data, Lib.toList_data]; exact beq_iff_eq.2 hlk.2.1)
                      have hjM := hlk.1
                      clear hts hlk hLt hb
                      go_wp2_with fail
                      refine (Calls.mono K19.out) ?_
                      rintro e W4 ⟨⟨tv, rfl, hR⟩, hB4⟩
                      have hB5 : Below n0 w W4 := Below.trans HB3.out (hB4.mono (by have := Below.size HB3.out; omega))
                      rw [HTS.out] at hR
                      obtain ⟨g, tc, rfl, hcells⟩ := tok_some hR
                      have hc0 := hcells 0 q rfl
                      have hc1 := hcells 1 q2 rfl
                      have HA4 : Hid (ArrIs W4 (some ⟨n0, 0, none⟩) n kf) := hid (ArrIs.below HA3.out hB4)
                      have HC4 : Hid (ArrIs W4 (some ⟨n1, 0, none⟩) k vf) := hid (ArrIs.below HC3.out hB4)
                      have hB5s := hB5.size
                      have HB5 : Hid (Below n0 w W4) := hB5
                      have HB6 : Hid (W4.heap[b]? = some (.cells #[.string kCont, .int .i64 2, .string (mkB q2)] 87 (0, 0))) := hid ((hB4.block b hbl).trans HBB.out)
                      have hrl : rest.length + 2 ≤ 4194304 := by have := ptoks_len (L s); rw [HTS.out, L_len] at this; simp at this; omega
                      obtain ⟨n6, hn6⟩ : ∃ x, W4.heap.size = x := ⟨_, rfl⟩
                      have hn06 : n0 ≤ n6 := by omega
                      clear K19 hR hB4 HB3 HA3 HC3 HTS hcells hB5 hbl HBB
                      unfold maxLen at *
                      unfold sv at hc0 hc1
                      have HC0 : Hid _ := hc0
                      have HC1 : Hid _ := hc1
                      clear hc0 hc1
                      simp only [List.length_cons]
                      go_wp2
                      go_loopw [23, 24] (fun jv iv wr => ∃ ii : Nat, ii ≤ n ∧ jj < ii ∧ jv = .int .i64 (-1) ∧ iv = .int .i64 ((ii : Int) - 1) ∧ Below n6 W4 wr) (fun _ iv _ => (intOf iv + 1).toNat)
                      case atStart => exact ⟨n, Nat.le_refl _, hjM, rfl, rfl, Below.refl _ _⟩
                      case round =>
                        obtain ⟨ii, hii, hji, rfl, rfl, hBr⟩ := hrel
                        have hBr' : Below W4.heap.size W4 wr := hn6 ▸ hBr
                        have hBrs := hBr.size
                        obtain ⟨i2, rfl⟩ : ∃ i2, ii = i2 + 1 := ⟨ii - 1, by omega⟩
                        have hcg : wr.drew.cell? ⟨g, 0, none⟩ = some (.string (mkB q)) := by
                          have := HC0.out
                          show wr.cell? _ = _
                          rw [hBr'.cell (World.block_lt_of_cell? W4 _ this), this]
                        rcases ArrIs.below HA4.out hBr' with ⟨_, h0⟩ | ⟨b3, off3, hAe, hcell⟩
                        · omega
                        · have hck : wr.drew.cell? ⟨b3, off3 + i2, none⟩ = some (.string (kf i2)) := hcell i2 (by omega)
                          cases hAe
                          rw [Nat.zero_add] at hck
                          have HBr : Hid (Below n6 W4 wr.drew) := hid (Below.drew hBr)
                          have hi2 : i2 < n := by omega
                          have hcast : ((i2 + 1 : Nat) : Int) - 1 = (i2 : Int) := by omega
                          rw [hcast]
                          clear hcast hcell
                          by_cases hij : jj < i2
                          · have hne := HNK.out i2 hij (by omega)
                            generalize kf i2 = y at hck hne
                            clear hBr hBr'
                            go_wp2
                            go_region
                            go_wp2
                            go_roundw
                            case rel => exact ⟨i2, by omega, hij, rfl, rfl, HBr.out⟩
                            case measure => simp [intOf]
                          · have hyk : ((kf i2).toList == (mkB q).toList) = true := by
                              have : jj = i2 := by omega
                              rw [← this]; exact HYK.out
                            have hBw : Below n0 w wr.drew := Below.trans HB5.out ((Below.drew hBr).mono hn06)
                            have HBw : Hid (Below n0 w wr.drew) := hBw
                            generalize kf i2 = y at hck hyk
                            have hcg1 : wr.drew.cell? ⟨g, 1, none⟩ = some (.string (mkB q2)) := by
                              have := HC1.out
                              show wr.cell? _ = _
                              rw [hBr'.cell (World.block_lt_of_cell? W4 _ this), this]
                            have K21 : Hid _ := eei b kCont (mkB q2) 2 wr.drew (Below.errT hBw (by omega) HG.out) ((hBr'.block b (Array.getElem?_eq_some_iff.1 HB6.out).1).trans HB6.out)
                            clear hBr hBr' HB6 HB5 HA4 HC4 HNK HYK HC0 HC1 hBw
                            go_wp2
                            go_region
                            go_wp2_with fail
                            refine (Calls.mono K21.out) ?_
                            rintro e W5 ⟨rfl, hB6⟩
                            have HBf : Hid (Below n0 w W5) := hid (Below.trans HBw.out (hB6.mono (by show _ ≤ wr.heap.size; omega)))
                            clear hB6 K21 HBw
                            go_wp2
                            go_ret
                            exact ⟨by simp, HBf.out⟩
                    · have hql : (mkB q).size ≤ 4194304 := by rw [mk_size]; exact Nat.le_trans (ptoks_le _ q (by rw [hts]; simp)) (by rw [L_len]; exact hs)
                      have HTS : Hid (ptoks (L s) = [q]) := hts
                      have HNK : Hid (∀ i, jj < i → i < n → ((kf i).toList == (mkB q).toList) = false) := hid (fun i h1 hi => beq_eq_false_iff_ne.2 (fun e => hlk.2.2 i h1 hi (by rw [Lib.toList_data, Lib.toList_data] at e; exact e)))
                      have HYK : Hid (((kf jj).toList == (mkB q).toList) = true) := hid (by rw [Lib.toList_data, Lib.toList_data]; exact beq_iff_eq.2 hlk.2.1)
                      have hjM := hlk.1
                      clear hts hlk
                      obtain ⟨z, hz⟩ : ∃ z, vf jj = z := ⟨_, rfl⟩
                      rw [hz]
                      have HZ : Hid _ := hz
                      clear hz
                      go_wp2_with fail
                      refine (Calls.mono K19.out) ?_
                      rintro e W4 ⟨⟨tv, rfl, hR⟩, hB4⟩
                      have hB5 : Below n0 w W4 := Below.trans HB3.out (hB4.mono (by have := Below.size HB3.out; omega))
                      rw [HTS.out] at hR
                      obtain ⟨g, tc, rfl, hcells⟩ := tok_some hR
                      have hc0 := hcells 0 q rfl
                      have HA4 : Hid (ArrIs W4 (some ⟨n0, 0, none⟩) n kf) := hid (ArrIs.below HA3.out hB4)
                      have HC4 : Hid (ArrIs W4 (some ⟨n1, 0, none⟩) k vf) := hid (ArrIs.below HC3.out hB4)
                      have hB5s := hB5.size
                      have HB5 : Hid (Below n0 w W4) := hB5
                      obtain ⟨n6, hn6⟩ : ∃ x, W4.heap.size = x := ⟨_, rfl⟩
                      have hn06 : n0 ≤ n6 := by omega
                      clear K19 hR hB4 HB3 HA3 HC3 HTS hcells hB5
                      unfold maxLen at *
                      unfold sv at hc0
                      have HC0 : Hid _ := hc0
                      clear hc0
                      simp only [List.length_cons, List.length_nil]
                      go_wp2
                      go_loopw [23, 24] (fun jv iv wr => ∃ ii : Nat, ii ≤ n ∧ jj < ii ∧ jv = .int .i64 (-1) ∧ iv = .int .i64 ((ii : Int) - 1) ∧ Below n6 W4 wr) (fun _ iv _ => (intOf iv + 1).toNat)
                      case atStart => exact ⟨n, Nat.le_refl _, hjM, rfl, rfl, Below.refl _ _⟩
                      case round =>
                        obtain ⟨ii, hii, hji, rfl, rfl, hBr⟩ := hrel
                        have hBr' : Below W4.heap.size W4 wr := hn6 ▸ hBr
                        have hBrs := hBr.size
                        obtain ⟨i2, rfl⟩ : ∃ i2, ii = i2 + 1 := ⟨ii - 1, by omega⟩
                        have hcg : wr.drew.cell? ⟨g, 0, none⟩ = some (.string (mkB q)) := by
                          have := HC0.out
                          show wr.cell? _ = _
                          rw [hBr'.cell (World.block_lt_of_cell? W4 _ this), this]
                        rcases ArrIs.below HA4.out hBr' with ⟨_, h0⟩ | ⟨b3, off3, hAe, hcell⟩
                        · omega
                        · have hck : wr.drew.cell? ⟨b3, off3 + i2, none⟩ = some (.string (kf i2)) := hcell i2 (by omega)
                          cases hAe
                          rw [Nat.zero_add] at hck
                          have HBr : Hid (Below n6 W4 wr.drew) := hid (Below.drew hBr)
                          have hi2 : i2 < n := by omega
                          have hcast : ((i2 + 1 : Nat) : Int) - 1 = (i2 : Int) := by omega
                          rw [hcast]
                          clear hcast hcell
                          by_cases hij : jj < i2
                          · have hne := HNK.out i2 hij (by omega)
                            generalize kf i2 = y at hck hne
                            clear hBr hBr'
                            go_wp2
                            go_region
                            go_wp2
                            go_roundw
                            case rel => exact ⟨i2, by omega, hij, rfl, rfl, HBr.out⟩
                            case measure => simp [intOf]
                          · have hyk : ((kf i2).toList == (mkB q).toList) = true := by
                              have : jj = i2 := by omega
                              rw [← this]; exact HYK.out
                            have hBw : Below n0 w wr.drew := Below.trans HB5.out ((Below.drew hBr).mono hn06)
                            have HBw : Hid (Below n0 w wr.drew) := hBw
                            generalize kf i2 = y at hck hyk
                            rcases ArrIs.below HC4.out hBr' with ⟨_, h0⟩ | ⟨b4, off4, hAe2, hcell4⟩
                            · omega
                            · have hcv : wr.drew.cell? ⟨b4, off4 + i2, none⟩ = some (.string z) := by
                                have h1 := hcell4 i2 (by omega)
                                have : jj = i2 := by omega
                                rw [← HZ.out, this]; exact h1
                              cases hAe2
                              rw [Nat.zero_add] at hcv
                              have hi2k : i2 < k := by omega
                              clear hBr hBr' HB5 HA4 HC4 HNK HYK HC0 hBw hcell4
                              go_wp2
                              go_region
                              go_wp2
                              go_ret
                              exact ⟨by simp, HBw.out⟩
  · by_cases h1 : s.size ≤ 1048576
    · by_cases h2 : n ≤ 65536
      · have h3 : ¬ k ≤ 65536 := fun h => hgo ⟨h1, h2, h⟩
        clear hgo
        go_enter Tryd.func7, Tryd.ntmps7
        go_wp2_with fail
        refine (Calls.mono K22.out) ?_
        rintro e w0 ⟨⟨bl, rfl⟩, hw0⟩
        have hw0' := hw0.symm
        subst hw0'
        clear hw0 K22
        unfold maxLen at *
        cases bl with
        | false =>
          go_wp2
          go_ret
          exact ⟨rfl, HB0.out⟩
        | true =>
          go_wp2
          go_ret
          exact ⟨rfl, HB0.out⟩
      · clear hgo
        go_enter Tryd.func7, Tryd.ntmps7
        go_wp2_with fail
        refine (Calls.mono K22.out) ?_
        rintro e w0 ⟨⟨bl, rfl⟩, hw0⟩
        have hw0' := hw0.symm
        subst hw0'
        clear hw0 K22
        unfold maxLen at *
        cases bl with
        | false =>
          go_wp2
          go_ret
          exact ⟨rfl, HB0.out⟩
        | true =>
          go_wp2
          go_ret
          exact ⟨rfl, HB0.out⟩
    · clear hgo
      go_enter Tryd.func7, Tryd.ntmps7
      go_wp2_with fail
      refine (Calls.mono K22.out) ?_
      rintro e w0 ⟨⟨bl, rfl⟩, hw0⟩
      have hw0' := hw0.symm
      subst hw0'
      clear hw0 K22
      unfold maxLen at *
      cases bl with
      | false =>
        go_wp2
        go_ret
        exact ⟨rfl, HB0.out⟩
      | true =>
        go_wp2
        go_ret
        exact ⟨rfl, HB0.out⟩
end Go.Proofs.Qxb6609358aDoor.A
