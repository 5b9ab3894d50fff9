import Derived.Test.Qxb6604580aReqB
import Derived.Test.Qxb6604580aReqP
import Derived.Test.Qxb6604580aShelf
import Derived.Lib.SlBytesConst
import Derived.Shelf.RegionOpenPlain
import Derived.Deep.QuietTactic
import Derived.BigQuiet
namespace Go.Proofs.Qxb6604580a.ReqC
open Go.ChangeShapes Go.WideShapes Go.ChangeAt Go.RowKit ReqA ReqB ReqP
set_option linter.unusedVariables false

theorem use {P : Program} {f : FuncId} {args : Array Value} {w : World} {v : Value} {Q : Ending → World → Prop} (h : Calls P f args w fun e w' => e = .returned v ∧ w' = w) (hQ : Q (.returned v) w) : Calls P f args w Q :=
  h.mono (by rintro e w' ⟨rfl, rfl⟩; exact hQ)

set_option maxHeartbeats 1000000 in
/-- bytes.Cut at a separator of one byte that stands first at place j. -/
theorem cut_at (g n c b2 j : Nat) (xs : List Int) (cv : Int) (w : World) (hx : xs.length = n) (hc : ∀ i, i < n → w.cell? ⟨g, 0 + i, none⟩ = some (.int .u8 (xs.getD i 0))) (hc2 : w.cell? ⟨b2, 0, none⟩ = some (.int .u8 cv))
    (hj : Lib.indexByte (Lib.bytesOf xs) cv.toNat.toUInt8 = (j : Int)) (hjn : j < n) (hcap : n ≤ c) (hbig : c ≤ 4194304) :
    Calls Try.prog 8 #[.slice (some ⟨g, 0, none⟩) n c, .slice (some ⟨b2, 0, none⟩) 1 1] w fun e w' => (∃ a l d, e = .returned (.tuple #[.slice (some ⟨g, 0, none⟩) j c, .slice a l d, .bool true])) ∧ ∃ q, w' = w.drewN q := by
  have k12 := Try.bytes_Index_one g 0 n c b2 0 1 xs cv w hx hc hc2
  rw [hj] at k12
  have K12 : Hid _ := k12
  clear k12 hc hc2 hj
  go_enter Try.func8, Try.ntmps8
  go_wp2_with fail
  refine use K12.out ?_
  clear K12
  go_wp2_with fail
  go_region
  all_goals go_wp2
  all_goals go_ret3
  all_goals exact ⟨⟨_, _, _, rfl⟩, _, rfl⟩

theorem last_at (b n cap p : Nat) (zs : List Int) (c : Int) (w : World) (hz : zs.length = n) (hl : n ≤ 4294967296) (hp : p < n) (hpc : zs.getD p 0 = c) (hno : ∀ j, p < j → j < n → zs.getD j 0 ≠ c)
    (hc : ∀ i, i < n → w.cell? ⟨b, 0 + i, none⟩ = some (.int .u8 (zs.getD i 0))) :
    Calls Try.prog 11 #[.slice (some ⟨b, 0, none⟩) n cap, .int .u8 c] w fun e w' => e = .returned (.int .i64 p) ∧ w' = w := by
  have k := lastAlg b 0 n cap p zs c w hz hl hp hpc hno hc
  have K : Hid _ := k
  clear k hno hc hpc
  go_enter Try.func11, Try.ntmps11
  go_wp2_with fail
  refine use K.out ?_
  go_wp2
  go_ret
  exact ⟨rfl, rfl⟩

/-- The line that is built. -/
def built (m t v r : List Int) : List Int := m ++ 32 :: (t ++ 32 :: (v ++ 13 :: 10 :: r))
/-- Its first line with and without its end. -/
def line (m t v : List Int) : List Int := m ++ 32 :: (t ++ 32 :: v)

theorem built_eq (m t v r : List Int) : built m t v r = (line m t v ++ [13]) ++ 10 :: r := by unfold built line; simp
theorem line_len (m t v : List Int) : (line m t v).length = m.length + 1 + t.length + 1 + v.length := by unfold line; simp; omega

theorem getD_left {l r : List Int} {i : Nat} (h : i < l.length) : (l ++ r).getD i 0 = l.getD i 0 := by
  simp [List.getD_eq_getElem?_getD, List.getElem?_append_left h]

theorem drewN_cell (w : World) (q : Nat) (a : Addr) : (w.drewN q).cell? a = w.cell? a := by
  induction q generalizing w with
  | zero => rfl
  | succ q ih => exact ih w.drew

set_option maxHeartbeats 1000000 in
theorem target7 (g n c : Nat) (m t v r : List Int) (w : World) (hn : (built m t v r).length = n) (hr : ∀ x ∈ built m t v r, 0 ≤ x ∧ x < 256)
    (hm1 : ∀ x ∈ m, x ≠ 32) (hm2 : ∀ x ∈ m, x ≠ 10) (ht1 : ∀ x ∈ t, x ≠ 32) (ht2 : ∀ x ∈ t, x ≠ 10) (hv1 : ∀ x ∈ v, x ≠ 32) (hv2 : ∀ x ∈ v, x ≠ 10) (hcap : n ≤ c) (hbig : c ≤ 4194304)
    (hc : ∀ i, i < n → w.cell? ⟨g, i, none⟩ = some (.int .u8 ((built m t v r).getD i 0))) :
    Calls Try.prog 7 #[.slice (some ⟨g, 0, none⟩) n c] w fun e w' => e = .returned (.tuple #[.int .i64 (m.length + 1), .int .i64 (m.length + 1 + t.length), .bool true]) ∧ Below w.heap.size w w' := by
  have hll := line_len m t v
  have hbl : n = (line m t v).length + 2 + r.length := by rw [← hn, built_eq]; simp; omega
  -- the first newline
  have hr' : ∀ x ∈ line m t v ++ [13], 0 ≤ x ∧ x < 256 := fun x hx => hr x (by rw [built_eq]; exact List.mem_append_left _ hx)
  have hrl : ∀ x ∈ line m t v, 0 ≤ x ∧ x < 256 := fun x hx => hr' x (List.mem_append_left _ hx)
  have hno10 : ∀ x ∈ line m t v ++ [13], x ≠ 10 := by
    intro x hx
    simp [line] at hx
    rcases hx with hx | hx | hx | hx | hx | hx
    · exact hm2 x hx
    · omega
    · exact ht2 x hx
    · omega
    · exact hv2 x hx
    · omega
  have e1 := indexByte_first (line m t v ++ [13]) r 10 hr' (by omega) (by omega) hno10
  rw [← built_eq] at e1
  have hl13 : (line m t v ++ [13]).length = (line m t v).length + 1 := by simp
  rw [hl13] at e1
  -- the first space
  have e2 := indexByte_first m (t ++ 32 :: v) 32 (fun x hx => hrl x (by simp [line, hx])) (by omega) (by omega) hm1
  have e2' : Lib.indexByte (Lib.bytesOf (line m t v)) (Int.toNat 32).toUInt8 = (m.length : Int) := e2
  -- the suffix
  have e3 := hasSuffix_13 (line m t v)
  -- the last space
  have hls : line m t v = (m ++ 32 :: t) ++ 32 :: v := by unfold line; simp
  have hmt : (m ++ 32 :: t).length = m.length + 1 + t.length := by simp; omega
  have e4 : (line m t v).getD (m.length + 1 + t.length) 0 = 32 := by rw [hls, ← hmt]; exact at_place _ _ _
  have e5 : ∀ j, m.length + 1 + t.length < j → j < (line m t v).length → (line m t v).getD j 0 ≠ 32 := by
    intro j h1 h2
    rw [hls] at h2 ⊢
    exact behind _ _ _ hv1 j (by rw [hmt]; exact h1) h2
  -- the cells
  have cb : ∀ i, i < n → w.cell? ⟨g, 0 + i, none⟩ = some (.int .u8 ((built m t v r).getD i 0)) := fun i hi => by rw [Nat.zero_add]; exact hc i hi
  have cl13 : ∀ i, i < (line m t v).length + 1 → w.cell? ⟨g, 0 + i, none⟩ = some (.int .u8 ((line m t v ++ [13]).getD i 0)) := fun i hi => by
    rw [cb i (by omega), built_eq, getD_left (by rw [hl13]; exact hi)]
  have cl : ∀ i, i < (line m t v).length → w.cell? ⟨g, 0 + i, none⟩ = some (.int .u8 ((line m t v).getD i 0)) := fun i hi => by
    rw [cl13 i (by omega), getD_left hi]
  have hg : g < w.heap.size := World.block_lt_of_cell? w ⟨g, 0, none⟩ (hc 0 (by omega))
  obtain ⟨L, hL⟩ : ∃ L, L = (line m t v).length := ⟨_, rfl⟩
  obtain ⟨M, hM⟩ : ∃ M, M = m.length := ⟨_, rfl⟩
  obtain ⟨T, hT⟩ : ∃ T, T = t.length := ⟨_, rfl⟩
  rw [← hL] at hll hbl e1 cl13 cl hl13 e5
  rw [← hM] at hll e2' e4 e5
  rw [← hT] at hll e4 e5
  rw [← hM, ← hT]
  have q1 : M + 1 + T + 1 ≤ L := by omega
  have q2 : L + 2 ≤ n := by omega
  have k8 := fun (wx : World) (b2 : Nat) (hb : Below w.heap.size w wx) (hcx : wx.cell? ⟨b2, 0, none⟩ = some (.int .u8 10)) =>
    cut_at g n c b2 (L + 1) (built m t v r) 10 wx hn (fun i hi => (hb.cell hg).trans (cb i hi)) hcx e1 (by omega) hcap hbig
  have k9 : ∀ (wx : World) (b2 : Nat), Below w.heap.size w wx → wx.cell? ⟨b2, 0, none⟩ = some (.int .u8 13) →
      Calls Try.prog 9 #[.slice (some ⟨g, 0, none⟩) (L + 1) c, .slice (some ⟨b2, 0, none⟩) 1 1] wx fun e w' => e = .returned (.slice (some ⟨g, 0, none⟩) L c) ∧ w' = wx := by
    intro wx b2 hb hcx
    have k := Try.bytes_TrimSuffix g 0 (L + 1) c b2 0 1 1 (line m t v ++ [13]) [13] wx hl13 rfl (by omega) (by omega) (fun i hi => (hb.cell hg).trans (cl13 i hi)) (by
      intro i hi
      obtain rfl : i = 0 := by omega
      exact hcx)
    unfold Lib.bytesTrimSuffix at k
    rw [if_pos e3] at k
    exact k
  have k10 := fun (wx : World) (hb : Below w.heap.size w wx) =>
    Try.bytes_IndexByte g 0 L c (line m t v) 32 wx hL.symm (fun i hi => (hb.cell hg).trans (cl i hi))
  have k11 := fun (wx : World) (hb : Below w.heap.size w wx) =>
    last_at g L c (M + 1 + T) (line m t v) 32 wx hL.symm (by omega) (by omega) e4 e5 (fun i hi => (hb.cell hg).trans (cl i hi))
  rw [e2'] at k10
  have K8 : Hid _ := k8
  have K9 : Hid _ := k9
  have K10 : Hid _ := k10
  have K11 : Hid _ := k11
  clear k8 k9 k10 k11 cb cl13 cl hc e1 e2 e2' e3 e4 e5 hls hmt hno10 hr' hrl hr hL hM hT hl13 hn hm1 hm2 ht1 ht2 hv1 hv2 hll hbl
  have kc := fun (w : World) (C : Array Value) (n c : Nat) => Lib.run_convert_bytes_const (P := Try.prog) w 22 5 C n c Try.underlying22 Try.underlying5
  go_enter Try.func7, Try.ntmps7
  go_wp2_with fail
  have b1 : Below w.heap.size w (w.alloc (Obj.cells #[Value.int IntKind.u8 10] 5 (1, 2))) := (Below.refl _ w).alloc (Nat.le_refl _) _
  refine (K8.out _ w.heap.size b1 (by simp [World.cell?_alloc_mark])).mono ?_
  rintro e w1 ⟨⟨pa, pl, pd, rfl⟩, hw1⟩
  have b2 : Below w.heap.size w w1 := by
    obtain ⟨q, rfl⟩ := hw1
    exact b1.trans ⟨rfl, rfl, rfl, Nat.le_refl _, fun _ _ => rfl⟩
  clear hw1 b1 K8
  go_wp2_with fail
  have b3 : Below w.heap.size w (w1.alloc (Obj.cells #[Value.int IntKind.u8 13] 5 (1, 2))) := b2.alloc b2.size _
  refine use (K9.out _ w1.heap.size b3 (by simp [World.cell?_alloc_mark])) ?_
  clear K9 b2
  go_wp2_with fail
  refine use (K10.out _ b3) ?_
  clear K10
  go_wp2_with fail
  refine use (K11.out _ b3) ?_
  clear K11
  go_wp2
  go_ret3
  exact ⟨rfl, b3⟩

theorem target_any (g n c : Nat) (m t v r : List Int) (w : World) (hn : (built m t v r).length = n) (hr : ∀ x ∈ built m t v r, 0 ≤ x ∧ x < 256)
    (hm1 : hasB m 32 = false) (hm2 : hasB m 10 = false) (ht1 : hasB t 32 = false) (ht2 : hasB t 10 = false) (hv1 : hasB v 32 = false) (hv2 : hasB v 10 = false) (hcap : n ≤ c) (hbig : c ≤ 4194304)
    (hc : ∀ i, i < n → w.cell? ⟨g, i, none⟩ = some (.int .u8 ((built m t v r).getD i 0))) :
    Calls Try.prog 6 #[.slice (some ⟨g, 0, none⟩) n c] w fun e w' => e = .returned (.tuple #[.int .i64 (m.length + 1), .int .i64 (m.length + 1 + t.length), .bool true]) ∧ Below w.heap.size w w' := by
  have k := target7 g n c m t v r w hn hr (hasB_no.1 hm1) (hasB_no.1 hm2) (hasB_no.1 ht1) (hasB_no.1 ht2) (hasB_no.1 hv1) (hasB_no.1 hv2) hcap hbig hc
  have K : Hid _ := k
  clear k hn hr hm1 hm2 ht1 ht2 hv1 hv2 hc
  go_enter Try.func6, Try.ntmps6
  go_wp2_with fail
  refine (Calls.mono K.out) ?_
  rintro e w1 ⟨rfl, b⟩
  clear K
  go_wp2
  go_ret3
  exact ⟨rfl, b⟩
end Go.Proofs.Qxb6604580a.ReqC
