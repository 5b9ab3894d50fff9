import Derived.RangeFuncNested
import Derived.RangeFuncBound
import Derived.RangeFuncCalls
import Derived.RangeFuncLeaves
import Derived.Shelf.Abstract
import Derived.Shelf.RegionOpen
import Derived.OwnWalkIn
import Derived.TacticsInMore
import Derived.LoopNIn
import Derived.LoopIn
import Derived.Maps.AppendAt
import Derived.Test.Qxb6609358aDoorB
namespace Go.Proofs.Qxb6609358aDoor.A
open Go.ChangeShapes Go.WideShapes Go.ChangeAt Go.RowKit Go.Shelf P
set_option linter.unusedVariables false
attribute [local go_sem] Oper.semAt_some

/-- A token as the iterator hands it on: its index and its bytes. -/
abbrev Tok := { x : Nat × ByteArray // wf false (L x.2) = true ∧ x.2.size ≤ 4194304 }
def tl (x : Tok) : List UInt8 := L x.1.2
abbrev Tok.encs (x : Tok) : Array Value := #[.int .i64 (x.1.1 : Int), .string x.1.2]
/-- What a round keeps: the pointer's own box. -/
abbrev KeepsP (pb : Nat) (W W' : World) : Prop := W'.heap[pb]? = W.heap[pb]?

theorem ext_L (s : ByteArray) (a b : Nat) : L (s.extract a b) = ((L s).take b).drop a := by
  simp [L, ByteArray.data_extract, List.drop_take]
theorem piece_L (s : ByteArray) (a : Nat) (q r : List UInt8) (h : (L s).drop a = q ++ r) : L (s.extract a (a + q.length)) = q := by
  rw [ext_L, List.drop_take, h, show a + q.length - a = q.length by omega, List.take_left]

set_option maxRecDepth 100000 in
set_option maxHeartbeats 4000000 in
theorem all1_in (n : Nat) (hn : 2 ≤ n) (lp pb : Nat) (s : ByteArray) (l : List UInt8) (hs : s.size ≤ 4194304) (hL : L s = 47 :: l) (hw : wf false l = true) (J Jx : List Tok → World → Prop) (W : World) (hJa : AbidesFrom W.heap.size J)
    (hY : ∀ pre x W, J pre W → pre.length < (raw l).length → YieldAt Fence.wide (n - 1) Tryd.prog lp (Tok.encs x) W fun e W' =>
      (e = .returned (.bool true) ∧ J (pre ++ [x]) W' ∧ KeepsP pb W W') ∨ (e = .returned (.bool false) ∧ Jx (pre ++ [x]) W'))
    (hp : W.heap[pb]? = some (boxP s (.slice none 0 0))) (h0 : J [] W) :
    CallsIn Fence.wide n Tryd.prog 68 #[.func (.yield lp) #[] #[], .pointer (some ⟨pb, 0, none⟩)] W fun e W' => (∃ v, e = .returned v) ∧
      ((∃ xs, xs.map tl = raw l ∧ J xs W') ∨ (∃ pre, True ∧ Jx pre W')) := by
  unfold boxP at hp
  refine callsIn_of_wp Tryd.func68 rfl trivial ?_ rfl
  simp only [Tryd.ntmps68, List.size_toArray, List.length_cons, List.length_nil, Nat.reduceAdd, Nat.reduceSub, Array.replicate_succ, Array.replicate_zero, List.push_toArray, List.append_toArray, List.nil_append, List.cons_append]
  have hall : L s = txt (raw l) := by rw [hL, txt_raw]
  have hsz : s.size = (txt (raw l)).length := by rw [← L_len, hall]
  gi_wp2
  gi_loopw [3, 4] (fun i st wr => ∃ (xs : List Tok) (rest : List (List UInt8)), xs.map tl ++ rest = raw l ∧ i = .int .i64 (xs.length : Int) ∧ st = .int .i64 ((txt (xs.map tl)).length + 1 : Nat) ∧ J xs wr ∧ wr.heap[pb]? = some (.cells #[.string s, .slice none 0 0] 31))
    (fun _ st _ => s.size + 1 - (intOf st).toNat)
  case atStart => exact ⟨[], raw l, rfl, rfl, rfl, h0, hp⟩
  case round =>
    obtain ⟨xs, rest, hr, rfl, rfl, hJ, hb⟩ := hrel
    have hc0 : wr.cell? ⟨pb, 0, none⟩ = some (.string s) := by simp [World.cell?, hb]
    have hc1 : wr.cell? ⟨pb, 1, none⟩ = some (.slice none 0 0) := by simp [World.cell?, hb]
    have hsplit : L s = txt (xs.map tl) ++ txt rest := by rw [hall, ← hr, txt_append]
    have hlen : s.size = (txt (xs.map tl)).length + (txt rest).length := by rw [← L_len, hsplit, List.length_append]
    obtain ⟨m, hm⟩ : ∃ m, (txt (xs.map tl)).length = m := ⟨_, rfl⟩
    rw [hm] at hlen ⊢
    cases rest with
    | nil =>
      simp [txt] at hlen
      have HX : Hid (xs.map tl = raw l) := hid (by rw [← hr, List.append_nil])
      have hd : decide (((m + 1 : Nat) : Int) ≤ (s.size : Int)) = false := decide_eq_false (by omega)
      clear hr hsplit hall hsz hL hY
      gi_wp2
      go_end0
      exact ⟨⟨_, rfl⟩, .inl ⟨_, HX.out, hJ⟩⟩
    | cons q rest' =>
      have hq : (L s).drop (m + 1) = q ++ txt rest' := by
        rw [hsplit, ← hm, ← List.drop_drop, List.drop_left]; rfl
      have hmem : q ∈ raw l := by rw [← hr]; simp
      have hqn : ∀ c ∈ q, c ≠ 47 := raw_no47 l q hmem
      have hqw : wf false q = true := wf_toks l hw q hmem
      have hr' : txt rest' = [] ∨ ∃ r', txt rest' = 47 :: r' := by
        cases rest' with
        | nil => exact .inl rfl
        | cons a b => exact .inr ⟨_, rfl⟩
      have hlen2 : m + 1 + q.length + (txt rest').length = s.size := by simp [txt] at hlen; omega
      have hst : m + 1 ≤ s.size := by omega
      have hLx : L (s.extract (m + 1) (m + 1 + q.length)) = q := piece_L s _ _ _ hq
      have hxs : (s.extract (m + 1) (m + 1 + q.length)).size ≤ 4194304 := by rw [← L_len, hLx]; omega
      obtain ⟨x, hx⟩ : ∃ x : Tok, x.1 = (xs.length, s.extract (m + 1) (m + 1 + q.length)) := ⟨⟨(xs.length, s.extract (m + 1) (m + 1 + q.length)), by show wf false (L (s.extract (m + 1) (m + 1 + q.length))) = true; rw [hLx]; exact hqw, hxs⟩, rfl⟩
      have hx1 : x.1.1 = xs.length := by rw [hx]
      have hx2 : x.1.2 = s.extract (m + 1) (m + 1 + q.length) := by rw [hx]
      have htx : tl x = q := by unfold tl; rw [hx2, hLx]
      have hpl : xs.length < (raw l).length := by rw [← hr]; simp
      have hJ2 : J xs (wr.alloc (boxP s (.slice none 0 0))) := hJa _ _ _ none hJ (World.grownBy_alloc _ _ _) (fun r e => by cases e)
      obtain ⟨fn, tmps, assign, body, hy, hR⟩ := hY xs x _ hJ2 hpl
      unfold Tok.encs at hy
      rw [hx1, hx2] at hy
      have hb2 : (wr.alloc (boxP s (.slice none 0 0))).heap[pb]? = some (.cells #[.string s, .slice none 0 0] 31) := (Below.heap_alloc _ _ _ (Array.getElem?_eq_some_iff.1 hb).1).trans hb
      have hc2 : (wr.alloc (boxP s (.slice none 0 0))).cell? ⟨pb, 0, none⟩ = some (.string s) := by simp [World.cell?, hb2]
      have k59 := end_nil s xs.length (m + 1) q (txt rest') wr hs hst hq hqn hr'
      have HT : Hid (txt ((xs ++ [x]).map tl) = txt (xs.map tl) ++ 47 :: q) := hid (by rw [List.map_append, txt_append]; simp [txt, htx])
      have HM : Hid _ := hm
      have HR2 : Hid ((xs ++ [x]).map tl ++ rest' = raw l) := hid (by rw [← hr]; simp [htx])
      have HB : Hid _ := hb2
      have hend : m + 1 + q.length ≤ s.size := by omega
      clear hq hqn hqw hr' hmem hLx hxs hx hx1 hx2 htx hr hsplit hall hsz hL hlen hY hJ hb2 hm
      have hcast : ((m + 1 : Nat) : Int) = (m : Int) + 1 := by omega
      rw [hcast] at k59
      have K59 : Hid _ := k59
      clear k59 hcast
      gi_wp2
      refine ⟨trivial, fun _ => by omega, (callsIn_wide.2 K59.out).mono ?_⟩
      rintro e w' ⟨rfl, rfl⟩
      clear K59 hc0 hc1 hb
      gi_wp2
      refine ⟨fun _ => by omega, hR.mono ?_⟩
      rintro e W3 (⟨rfl, hJ3, hk3⟩ | ⟨rfl, hJx3⟩)
      · have hlb : xs.length ≤ 4194304 := by
          have : (xs.map tl).length ≤ (txt (xs.map tl)).length := by
            generalize xs.map tl = ys
            induction ys with
            | nil => exact Nat.le_refl _
            | cons a b ih => simp [txt]; omega
          rw [List.length_map, HM.out] at this
          omega
        gi_wp2
        go_roundw
        case rel => exact ⟨xs ++ [x], rest', HR2.out, by simp, by rw [HT.out]; simp [HM.out]; omega, hJ3, by rw [show KeepsP pb _ W3 from hk3]; exact HB.out⟩
        case measure => simp [intOf]; omega
      · gi_wp2
        refine bodyPost_ret (results_none rfl _ _ _) rfl ?_
        exact ⟨⟨_, rfl⟩, .inr ⟨_, trivial, hJx3⟩⟩

/-- all: the iterator's value. -/
theorem all_in (n : Nat) (s : ByteArray) (v : Value) (w : World) :
    CallsIn Fence.wide n Tryd.prog 56 #[.agg #[.string s, v]] w fun e w' => e = .returned (.func (.func 68) #[] #[.pointer (some ⟨w.heap.size, 0, none⟩)]) ∧ w' = w.alloc (boxP s v) := by
  unfold boxP
  refine callsIn_of_wp Tryd.func56 rfl trivial ?_ rfl
  simp only [Tryd.ntmps56, List.size_toArray, List.length_cons, List.length_nil, Nat.reduceAdd, Nat.reduceSub, Array.replicate_succ, Array.replicate_zero, List.push_toArray, List.append_toArray, List.nil_append, List.cons_append]
  gi_wp2
  go_ret
  exact ⟨rfl, rfl⟩

theorem all_stops (n : Nat) (hn : 2 ≤ n) (pb : Nat) (s : ByteArray) (l : List UInt8) (hs : s.size ≤ 4194304) (hL : L s = 47 :: l) (hw : wf false l = true) (w : World) (hp : w.heap[pb]? = some (boxP s (.slice none 0 0))) :
    SeqStopsK Fence.wide n Tryd.prog 68 #[.pointer (some ⟨pb, 0, none⟩)] Tok.encs (KeepsP pb) (fun xs => xs.map tl = raw l) (fun _ => True) (raw l).length w := fun lp J Jx W hW hJa _ hY h0 =>
  all1_in n hn lp pb s l hs hL hw J Jx W hJa hY ((hW.block pb (Array.getElem?_eq_some_iff.1 hp).1).trans hp) h0
end Go.Proofs.Qxb6609358aDoor.A
