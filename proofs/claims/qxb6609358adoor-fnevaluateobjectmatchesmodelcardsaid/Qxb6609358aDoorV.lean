import Derived.Test.Qxb6609358aDoorU
import Derived.Test.Qxb6609358aDoorN
namespace Go.Proofs.Qxb6609358aDoor.A
open Go.ChangeShapes Go.WideShapes Go.ChangeAt Go.RowKit P T
set_option linter.unusedVariables false
attribute [local go_sem] a9_9 a9_79 a9_88 a88_9 a88_88 aN_9 aN_79 aN_88

/-- What ZZevalObject answers. -/
def ZObj (m : Nat) (kf vf : Nat → ByteArray) (ts : List (List UInt8)) (e : Ending) (w' : World) : Prop :=
  (ts = [] ∧ e = .returned (.tuple #[.string kNone, .bool false, .int .i64 (Maps.size (DM kf vf m) : Int), .bool true, .nilIface])) ∨
  (∃ q rest b tok, ts = q :: rest ∧ NoKey kf m q ∧ L tok = q ∧ e = .returned (.tuple #[.string kNone, .bool false, .int .i64 0, .bool false, .iface 84 (.pointer (some ⟨b, 0, none⟩))]) ∧ w'.heap[b]? = some (.cells #[.string kMem, .int .i64 1, .string tok] 87 (0, 0))) ∨
  (∃ q q2 rest b tok j, ts = q :: q2 :: rest ∧ IsLast kf m q j ∧ L tok = q2 ∧ e = .returned (.tuple #[.string kNone, .bool false, .int .i64 0, .bool false, .iface 84 (.pointer (some ⟨b, 0, none⟩))]) ∧ w'.heap[b]? = some (.cells #[.string kCont, .int .i64 2, .string tok] 87 (0, 0))) ∨
  (∃ q j, ts = [q] ∧ IsLast kf m q j ∧ e = .returned (.tuple #[.string (vf j), .bool true, .int .i64 0, .bool false, .nilIface]))

theorem mkm (n : Int) (w : World) : (Instr.makeMap 88 (some (.int .i64 n))).run Tryd.prog w = .ok (.map (some w.heap.size)) (w.alloc (.map #[] 0)) := by
  kernel_rfl

set_option maxRecDepth 100000 in
set_option maxHeartbeats 4000000 in
theorem zobj (v : Value) (t : ByteArray) (ts : List (List UInt8)) (a c : Option Addr) (n k capa capc : Nat) (kf vf : Nat → ByteArray) (w : World) (hn : n ≤ 65536) (hk : k ≤ 65536) (hkf : ∀ i, i < n → (kf i).size ≤ 9223372036854775807) (h : PtrIs w v t ts) (ha : ArrIs w a n kf) (hc : ArrIs w c k vf) :
    Calls Tryd.prog 23 #[.agg #[.string t, v], .slice a n capa, .slice c k capc] w fun e w' => ZObj (Nat.min n k) kf vf ts e w' ∧ Below w.heap.size w w' := by
  have h0 := h
  obtain ⟨va, vn, vc, rfl⟩ := ptr_shape h
  have HP : Hid _ := h0
  clear h h0
  obtain ⟨n0, hn0⟩ : ∃ m, w.heap.size = m := ⟨_, rfl⟩
  have HB0 : Hid (Below n0 w (w.alloc (.cells #[.string t, .slice va vn vc] 31))) := hid (by rw [← hn0]; exact (Below.refl _ w).alloc (Nat.le_refl _) _)
  have hp0 : (w.alloc (.cells #[.string t, .slice va vn vc] 31)).heap[n0]? = some (.cells #[.string t, .slice va vn vc] 31) := by rw [← hn0]; exact World.alloc_heap_new w _
  rw [hn0]
  have hmk := mkm
  have hmx : Tryd.prog.follows .mixedOrders = true := by kernel_rfl
  have hsz1 : (w.alloc (.cells #[.string t, .slice va vn vc] 31)).heap.size = n0 + 1 := by simp [hn0]
  have own0 : Own ((w.alloc (.cells #[.string t, .slice va vn vc] 31)).alloc (.map #[] 0)) (n0 + 1) 0 (DM kf vf 0) := by
    have := World.ownsMap_made (w.alloc (.cells #[.string t, .slice va vn vc] 31)) Tryd.prog 9 R
    rw [hsz1] at this
    exact this
  have HB1 : Hid (Below (n0 + 1) (w.alloc (.cells #[.string t, .slice va vn vc] 31)) ((w.alloc (.cells #[.string t, .slice va vn vc] 31)).alloc (.map #[] 0))) := hid ((Below.refl _ _).alloc (by omega) _)
  have H0 : Hid _ := hp0
  obtain ⟨mm, hmm⟩ : ∃ mm, Nat.min n k = mm := ⟨_, rfl⟩
  have hm1 : mm ≤ n ∧ mm ≤ k ∧ (n ≤ mm ∨ k ≤ mm) := by rw [← hmm]; simp only [Nat.min_def]; split <;> omega
  rw [hmm]
  have HO : Hid _ := own0
  clear hp0 hsz1 own0 hmm
  go_enter Tryd.func23, Tryd.ntmps23
  go_wp2
  go_loopw [12] (fun i wr => ∃ (j : Nat), j ≤ mm ∧ i = .int .i64 j ∧ Own wr (n0 + 1) j (DM kf vf j) ∧ Below (n0 + 1) (w.alloc (.cells #[.string t, .slice va vn vc] 31)) wr) (fun i wr => mm - (intOf i).toNat)
  case atStart => exact ⟨0, Nat.zero_le _, rfl, HO.out, HB1.out⟩
  case round =>
    obtain ⟨j, hj, rfl, hown, hbw⟩ := hrel
    have HBW : Hid _ := hbw
    have hbsz := hbw.size
    simp only [World.size_alloc, hn0] at hbsz
    have hB : Below n0 w wr := HB0.out.trans (hbw.mono (by omega))
    have ha2 := ha.below (hn0 ▸ hB)
    have hc2 := hc.below (hn0 ▸ hB)
    clear HO HB1 ha hc hbw
    by_cases hlt : j < mm
    · rcases ha2 with ⟨_, h0⟩ | ⟨b, off, rfl, hcell⟩
      · omega
      · rcases hc2 with ⟨_, h0⟩ | ⟨b2, off2, rfl, hcell2⟩
        · omega
        · have hs1 : wr.drew.cell? ⟨b, off + j, none⟩ = some (.string (kf j)) := hcell j (by omega)
          have hs2 : wr.drew.cell? ⟨b2, off2 + j, none⟩ = some (.string (vf j)) := hcell2 j (by omega)
          have hjn : j < n := by omega
          have hjk : j < k := by omega
          have hkey := keyS (kf j) (hkf j hjn)
          have hownd : Own wr.drew (n0 + 1) j (DM kf vf j) := hown
          have HBd : Hid (Below (n0 + 1) (w.alloc (.cells #[.string t, .slice va vn vc] 31)) wr.drew) := hid (Below.drew HBW.out)
          obtain ⟨x, hx⟩ : ∃ x, kf j = x := ⟨_, rfl⟩
          obtain ⟨y, hy⟩ : ∃ y, vf j = y := ⟨_, rfl⟩
          have HXY : Hid (kf j = x ∧ vf j = y) := ⟨hx, hy⟩
          rw [hx] at hs1 hkey
          rw [hy] at hs2
          obtain ⟨w2, hrun, own2, gr2⟩ := World.ownsMap.update (t := 88) (e := 20) (val := .iface 9 (.string y)) hownd (Maps.string_keyed Tryd.underlying9) Tryd.underlying88 (by unfold maxLen; omega) hkey (show R (.iface 9 (.string y)) = some (.lit (.string (L y)), []) from rfl)
          clear hcell hcell2 hown hB hx hy hownd hkey
          go_wp2
          go_region
          go_wp2
          go_roundw
          case rel => exact ⟨j + 1, hlt, by go_num, by have := own2; rw [← HXY.out.1, ← HXY.out.2] at this; exact this, Below.grown HBd.out gr2 (by show _ ≤ wr.heap.size; omega) (fun i e => by cases e; exact Nat.le_refl _)⟩
          case measure => simp [intOf]; omega
    · have hjm : j = mm := by omega
      have hjge : mm ≤ j := by omega
      rw [hjm] at hown
      have hbox : wr.heap[n0]? = some (.cells #[.string t, .slice va vn vc] 31) := (Below.block HBW.out n0 (by omega)).trans H0.out
      have hc0 : wr.cell? ⟨n0, 0, none⟩ = some (.string t) := by simp [World.cell?, hbox]
      have hc1 : wr.cell? ⟨n0, 1, none⟩ = some (.slice va vn vc) := by simp [World.cell?, hbox]
      have k40 := eval_obj (.slice va vn vc) t ts (n0 + 1) mm mm kf vf wr (PtrIs.below HP.out (hn0 ▸ hB)) hown
      have K40 : Hid _ := k40
      have HB : Hid _ := hB
      have HO2 : Hid (Own wr (n0 + 1) mm (DM kf vf mm)) := hown
      have hms := size_le (fun i => L (kf i)) (fun i => L (vf i)) mm
      clear k40 hbox hown HBW hB HP ha2 hc2 H0 HB0 hjm
      by_cases hjn : j < n
      · have hjk : ¬ j < k := by omega
        go_wp2_with fail
        refine (Calls.mono K40.out) ?_
        rintro e w1 ⟨hE, hB1⟩
        have HB1 : Hid (Below n0 w w1) := hid (Below.trans HB.out (hB1.mono (by have := Below.size HB.out; omega)))
        have hown1 : Own w1 (n0 + 1) mm (DM kf vf mm) := Own.below HO2.out hB1
        clear K40 hB1 hc0 hc1 HB HO2
        rcases hE with ⟨h1, rfl⟩ | ⟨q, rest, b, tok, h1, h2, h3, rfl, h5⟩ | ⟨q, q2, rest, b, tok, jj, h1, h2, h3, rfl, h5⟩ | ⟨q, jj, h1, h2, rfl⟩
        · have H1 : Hid (ts = []) := h1
          clear h1
          go_wp2_with (at_len; refine wpList_len_own _ rfl _ 88 rfl 9 20 Tryd.underlying88 R (n0 + 1) mm (DM kf vf mm) rfl hown1 ?_)
          refine bodyPost_ret (v := .tuple #[.string kNone, .bool false, .int .i64 (Maps.size (DM kf vf mm) : Int), .bool true, .nilIface]) (by simp [results, Tryd.results23, go_sem]) rfl ?_
          exact ⟨.inl ⟨H1.out, rfl⟩, HB1.out⟩
        · have HR : Hid (ZObj mm kf vf ts (.returned (.tuple #[.string kNone, .bool false, .int .i64 0, .bool false, .iface 84 (.pointer (some ⟨b, 0, none⟩))])) w1) := hid (.inr (.inl ⟨q, rest, b, tok, h1, h2, h3, rfl, h5⟩))
          clear h1 h2 h3 h5
          go_wp2
          refine bodyPost_ret (v := .tuple #[.string kNone, .bool false, .int .i64 0, .bool false, .iface 84 (.pointer (some ⟨b, 0, none⟩))]) (by simp [results, Tryd.results23, go_sem]) rfl ?_
          exact ⟨HR.out, HB1.out⟩
        · have HR : Hid (ZObj mm kf vf ts (.returned (.tuple #[.string kNone, .bool false, .int .i64 0, .bool false, .iface 84 (.pointer (some ⟨b, 0, none⟩))])) w1) := hid (.inr (.inr (.inl ⟨q, q2, rest, b, tok, jj, h1, h2, h3, rfl, h5⟩)))
          clear h1 h2 h3 h5
          go_wp2
          refine bodyPost_ret (v := .tuple #[.string kNone, .bool false, .int .i64 0, .bool false, .iface 84 (.pointer (some ⟨b, 0, none⟩))]) (by simp [results, Tryd.results23, go_sem]) rfl ?_
          exact ⟨HR.out, HB1.out⟩
        · have HR : Hid (ZObj mm kf vf ts (.returned (.tuple #[.string (vf jj), .bool true, .int .i64 0, .bool false, .nilIface])) w1) := hid (.inr (.inr (.inr ⟨q, jj, h1, h2, rfl⟩)))
          clear h1 h2
          go_wp2
          refine bodyPost_ret (v := .tuple #[.string (vf jj), .bool true, .int .i64 0, .bool false, .nilIface]) (by simp [results, Tryd.results23, go_sem]) rfl ?_
          exact ⟨HR.out, HB1.out⟩
      · go_wp2_with fail
        refine (Calls.mono K40.out) ?_
        rintro e w1 ⟨hE, hB1⟩
        have HB1 : Hid (Below n0 w w1) := hid (Below.trans HB.out (hB1.mono (by have := Below.size HB.out; omega)))
        have hown1 : Own w1 (n0 + 1) mm (DM kf vf mm) := Own.below HO2.out hB1
        clear K40 hB1 hc0 hc1 HB HO2
        rcases hE with ⟨h1, rfl⟩ | ⟨q, rest, b, tok, h1, h2, h3, rfl, h5⟩ | ⟨q, q2, rest, b, tok, jj, h1, h2, h3, rfl, h5⟩ | ⟨q, jj, h1, h2, rfl⟩
        · have H1 : Hid (ts = []) := h1
          clear h1
          go_wp2_with (at_len; refine wpList_len_own _ rfl _ 88 rfl 9 20 Tryd.underlying88 R (n0 + 1) mm (DM kf vf mm) rfl hown1 ?_)
          refine bodyPost_ret (v := .tuple #[.string kNone, .bool false, .int .i64 (Maps.size (DM kf vf mm) : Int), .bool true, .nilIface]) (by simp [results, Tryd.results23, go_sem]) rfl ?_
          exact ⟨.inl ⟨H1.out, rfl⟩, HB1.out⟩
        · have HR : Hid (ZObj mm kf vf ts (.returned (.tuple #[.string kNone, .bool false, .int .i64 0, .bool false, .iface 84 (.pointer (some ⟨b, 0, none⟩))])) w1) := hid (.inr (.inl ⟨q, rest, b, tok, h1, h2, h3, rfl, h5⟩))
          clear h1 h2 h3 h5
          go_wp2
          refine bodyPost_ret (v := .tuple #[.string kNone, .bool false, .int .i64 0, .bool false, .iface 84 (.pointer (some ⟨b, 0, none⟩))]) (by simp [results, Tryd.results23, go_sem]) rfl ?_
          exact ⟨HR.out, HB1.out⟩
        · have HR : Hid (ZObj mm kf vf ts (.returned (.tuple #[.string kNone, .bool false, .int .i64 0, .bool false, .iface 84 (.pointer (some ⟨b, 0, none⟩))])) w1) := hid (.inr (.inr (.inl ⟨q, q2, rest, b, tok, jj, h1, h2, h3, rfl, h5⟩)))
          clear h1 h2 h3 h5
          go_wp2
          refine bodyPost_ret (v := .tuple #[.string kNone, .bool false, .int .i64 0, .bool false, .iface 84 (.pointer (some ⟨b, 0, none⟩))]) (by simp [results, Tryd.results23, go_sem]) rfl ?_
          exact ⟨HR.out, HB1.out⟩
        · have HR : Hid (ZObj mm kf vf ts (.returned (.tuple #[.string (vf jj), .bool true, .int .i64 0, .bool false, .nilIface])) w1) := hid (.inr (.inr (.inr ⟨q, jj, h1, h2, rfl⟩)))
          clear h1 h2
          go_wp2
          refine bodyPost_ret (v := .tuple #[.string (vf jj), .bool true, .int .i64 0, .bool false, .nilIface]) (by simp [results, Tryd.results23, go_sem]) rfl ?_
          exact ⟨HR.out, HB1.out⟩
end Go.Proofs.Qxb6609358aDoor.A
