import Derived.Test.Qxb6003626aLocD
import Derived.Deep.QuietTactic
import Derived.BigQuiet
namespace Go.Proofs.Qxb6003626a.LocE
open Go.ChangeShapes Go.WideShapes Go.ChangeAt Go.RowKit QuoA LocP LocA LocB LocC LocD
set_option linter.unusedVariables false

theorem Try.info31 : (Try.prog.info? 31).map (fun i => (i.zero, i.size, i.bytes)) = some (some (.agg #[.string ⟨#[]⟩, .string ⟨#[]⟩]), 2, 32) := by kernel_rfl

def mkB (l : List UInt8) : ByteArray := ⟨l.toArray⟩
/-- Hops as cells. -/
def hcells : List (List UInt8 × List UInt8) → List Value
  | [] => []
  | h :: t => .string (mkB h.1) :: .string (mkB h.2) :: hcells t
theorem hcells_append (a b : List (List UInt8 × List UInt8)) : hcells (a ++ b) = hcells a ++ hcells b := by
  induction a with
  | nil => rfl
  | cons h a ih => simp [hcells, ih]
theorem hcells_len (a : List (List UInt8 × List UInt8)) : (hcells a).length = a.length * 2 := by
  induction a with
  | nil => rfl
  | cons h a ih => simp [hcells, ih]; omega

theorem two_new (w : World) (x y : ByteArray) : ∀ j u, [Value.string x, Value.string y][j]? = some u → (w.alloc (.cells #[.string x, .string y] 31)).cell? ((⟨w.heap.size, 0, none⟩ : Addr).add j) = some u := by
  intro j u hj
  match j, hj with
  | 0, hj => simp at hj; subst hj; simp [Addr.add]
  | 1, hj => simp at hj; subst hj; simp [Addr.add]
theorem two_cell (x y : ByteArray) : ∀ u ∈ [Value.string x, Value.string y], u.oneCell' = true := by
  intro u hu
  simp at hu
  rcases hu with rfl | rfl <;> rfl

theorem mkB_ne {n : List UInt8} (h : n ≠ []) : (mkB n).toList.isEmpty = false := by
  rw [Lib.toList_data]
  unfold mkB
  cases n with
  | nil => exact absurd rfl h
  | cons a l => rfl

/-- The block of a box, behind an append onto a row of the call's own that lies above it. -/
theorem box_grown {wr w1 : World} {B : Nat} {v : Value} {n size : Nat} {xs : List Value} {o : Obj} {c : Obj} (hown : wr.ownsRow (B + 1) 31 size v n xs) (hbox : wr.heap[B]? = some c) (gr : (wr.alloc o).grownBy w1 v.ownBlock) : w1.heap[B]? = some c := by
  have hlt : B < wr.heap.size := by
    rcases Nat.lt_or_ge B wr.heap.size with h | h
    · exact h
    · simp [Array.getElem?_eq_none h] at hbox
  rw [gr.block B (by simp; omega) (fun e => by
    have := hown.lt B e.symm
    omega), Below.heap_alloc wr o B hlt, hbox]
theorem row_low {wr : World} {B : Nat} {v : Value} {n size : Nat} {xs : List Value} (hown : wr.ownsRow (B + 1) 31 size v n xs) : ∀ k, v.ownBlock = some k → B + 1 ≤ k := fun k hk => (hown.lt k hk).1
theorem box_below {wr w1 : World} {B : Nat} {c : Obj} (hbox : wr.heap[B]? = some c) (hb : Below wr.heap.size wr w1) : w1.heap[B]? = some c := by
  have hlt : B < wr.heap.size := by
    rcases Nat.lt_or_ge B wr.heap.size with h | h
    · exact h
    · simp [Array.getElem?_eq_none h] at hbox
  rw [hb.block B hlt, hbox]
theorem own_below {wr w1 : World} {B : Nat} {v : Value} {n size : Nat} {xs : List Value} (h : wr.ownsRow B 31 size v n xs) (hb : Below wr.heap.size wr w1) : w1.ownsRow B 31 size v n xs := by
  refine ⟨h.1, ?_⟩
  rcases h.2 with h1 | ⟨g, cap, cur, hv, hg, hh, r⟩
  · exact Or.inl h1
  · have hgl : g < wr.heap.size := by
      rcases Nat.lt_or_ge g wr.heap.size with h' | h'
      · exact h'
      · simp [Array.getElem?_eq_none h'] at hh
    exact Or.inr ⟨g, cap, cur, hv, hg, by rw [hb.block g hgl]; exact hh, r⟩
theorem own_low {wr : World} {B B' : Nat} {v : Value} {n size : Nat} {xs : List Value} (h : wr.ownsRow B 31 size v n xs) (hB : B' ≤ B) : wr.ownsRow B' 31 size v n xs := by
  refine ⟨h.1, ?_⟩
  rcases h.2 with h1 | ⟨g, cap, cur, hv, hg, hh, r⟩
  · exact Or.inl h1
  · exact Or.inr ⟨g, cap, cur, hv, by omega, hh, r⟩

/-- What holds from round to round. -/
structure Inv (s : ByteArray) (pf : Bool) (w : World) (B : Nat) (l r : Nat) (b : Option (Nat × List UInt8 × List UInt8)) (p : Option (Nat × List UInt8)) (bi pi : Int) (nm kd pn : ByteArray) (f : Nat) (acc : List (List UInt8 × List UInt8)) (v : Value) (wr : World) : Prop where
  lr : l ≤ r
  rs : r ≤ s.size
  brep : BRep b bi nm kd
  prep : PRep p pi pn
  bok : ∀ i hp, b = some (i, hp) → l ≤ i ∧ i < s.size ∧ hp.1 ≠ []
  pok : ∀ i n, p = some (i, n) → i < r ∧ n ≠ []
  fuel : r - l ≤ f
  hops : acc ++ (steps pf (L s) f l r b p).1 = (total pf (L s)).1
  rest : (steps pf (L s) f l r b p).2 = (total pf (L s)).2
  len : acc.length + (r - l) ≤ s.size
  box : wr.heap[B]? = some (.cells #[.string nm, .string kd] 31 (0, 0))
  own : wr.ownsRow (B + 1) 31 2 v acc.length (hcells acc)
  below : Below w.heap.size w wr
  low : w.heap.size ≤ B


theorem Inv.lt {s : ByteArray} {pf : Bool} {w : World} {B l r : Nat} {b : Option (Nat × List UInt8 × List UInt8)} {p : Option (Nat × List UInt8)} {bi pi : Int} {nm kd pn : ByteArray} {f : Nat} {acc : List (List UInt8 × List UInt8)} {v : Value} {wr : World} (inv : Inv s pf w B l r b p bi pi nm kd pn f acc v wr) : B < wr.heap.size := by
  rcases Nat.lt_or_ge B wr.heap.size with h | h
  · exact h
  · have := inv.box
    simp [Array.getElem?_eq_none h] at this

theorem inv_pct {s : ByteArray} {pf : Bool} {w : World} {B l r j : Nat} {n : List UInt8} {b : Option (Nat × List UInt8 × List UInt8)} {bi pi pi' : Int} {nm kd pn pn' : ByteArray} {f : Nat} {acc : List (List UInt8 × List UInt8)} {v v1 : Value} {wr w1 : World} {o : Obj}
    (inv : Inv s pf w B l r b (some (j, n)) bi pi nm kd pn f acc v wr) (hlj : l < j) (hc : (pf || !canB b r) = true)
    (own1 : w1.ownsRow (B + 1) 31 2 v1 (acc.length + 1) (hcells acc ++ [.string pn, .string ⟨#[100, 111, 109, 97, 105, 110]⟩])) (gr1 : (wr.alloc o).grownBy w1 v.ownBlock) (hpr : PRep (lpct (L s) l j) pi' pn') :
    Inv s pf w B l j b (lpct (L s) l j) bi pi' nm kd pn' (f - 1) (acc ++ [(n, dom)]) v1 w1 := by
  have hj := inv.pok j n rfl
  have hf := inv.fuel
  have hrs := inv.rs
  obtain ⟨f', rfl⟩ : ∃ f', f = f' + 1 := ⟨f - 1, by omega⟩
  have hst := steps_pct (S := L s) (f := f') (nm := n) hlj hc
  have h1 := inv.hops
  have h2 := inv.rest
  rw [hst] at h1 h2
  have hlen := inv.len
  have hsz := inv.below.size
  refine { lr := by omega, rs := by omega, brep := inv.brep, prep := hpr, bok := inv.bok, pok := fun i m h => (lpct_some h).2, fuel := by omega, hops := ?_, rest := h2, len := by simp; omega, box := box_grown inv.own inv.box gr1, own := ?_, below := ?_, low := inv.low }
  · rw [← h1]; simp
  · have e : pn = mkB n := inv.prep.2
    rw [hcells_append, List.length_append]
    rw [e] at own1
    exact own1
  · exact (inv.below.alloc hsz o).grown gr1 (by simp; omega) (fun k hk => by have := row_low inv.own k hk; have := inv.low; omega)

theorem inv_bang {s : ByteArray} {pf : Bool} {w : World} {B l r i : Nat} {hn hk : List UInt8} {p : Option (Nat × List UInt8)} {bi pi bi' : Int} {nm kd pn nm' kd' : ByteArray} {f : Nat} {acc : List (List UInt8 × List UInt8)} {v v1 : Value} {wr w1 w2 : World} {o : Obj}
    (inv : Inv s pf w B l r (some (i, hn, hk)) p bi pi nm kd pn f acc v wr) (hir : i + 1 < r) (hc : (canP p l && pf) = false)
    (own1 : w1.ownsRow (B + 1) 31 2 v1 (acc.length + 1) (hcells acc ++ [.string nm, .string kd])) (gr1 : (wr.alloc o).grownBy w1 v.ownBlock) (hb2 : Below w1.heap.size w1 w2) (hbr : BRep (fbang (L s) (i + 1) r) bi' nm' kd') :
    Inv s pf w B (i + 1) r (fbang (L s) (i + 1) r) p bi' pi nm' kd' pn (f - 1) (acc ++ [(hn, hk)]) v1 ((w2.setCell ⟨B, 0, none⟩ (.string nm')).setCell ⟨B, 1, none⟩ (.string kd')) := by
  have hi := inv.bok i (hn, hk) rfl
  have hf := inv.fuel
  have hrs := inv.rs
  obtain ⟨f', rfl⟩ : ∃ f', f = f' + 1 := ⟨f - 1, by omega⟩
  have hst := steps_bang (S := L s) (f := f') (hp := (hn, hk)) hir hc
  have h1 := inv.hops
  have h2 := inv.rest
  rw [hst] at h1 h2
  have hlen := inv.len
  have hsz := inv.below.size
  have box1 := box_grown inv.own inv.box gr1
  have box2 := box_below box1 hb2
  have bel1 : Below w.heap.size w w1 := (inv.below.alloc hsz o).grown gr1 (by simp; omega) (fun k hk => by have := row_low inv.own k hk; have := inv.low; omega)
  refine { lr := by omega, rs := hrs, brep := hbr, prep := inv.prep, bok := fun a m h => ?_, pok := inv.pok, fuel := by omega, hops := ?_, rest := h2, len := by simp; omega, box := ?_, own := ?_, below := ?_, low := inv.low }
  · have := fbang_some (by rw [L_len]; exact hrs) h
    exact ⟨this.1, by omega, this.2.2⟩
  · rw [← h1]; simp
  · simp [World.setCell, Array.getElem?_modify, box2]
  · have e1 : nm = mkB hn := inv.brep.2.1
    have e2 : kd = mkB hk := inv.brep.2.2
    rw [e1, e2] at own1
    rw [hcells_append, List.length_append]
    exact ownsRow_setCell_below (ownsRow_setCell_below (own_below own1 hb2) (a := ⟨B, 0, none⟩) (Nat.lt_succ_self _) _) (a := ⟨B, 1, none⟩) (Nat.lt_succ_self _) _
  · have bel2 := bel1.trans (hb2.mono bel1.size)
    exact (bel2.setCell (p := ⟨B, 0, none⟩) inv.low _).setCell (p := ⟨B, 1, none⟩) inv.low _

set_option maxHeartbeats 16000000 in
theorem local_any (s : ByteArray) (pf : Bool) (w : World) (hs : s.size ≤ 4194304) :
    Calls Try.prog 19 #[.string s, .bool pf, .slice none 0 0] w fun e w' => (∃ v, e = .returned (.tuple #[v, .string (mkB (total pf (L s)).2)]) ∧ w'.ownsRow w.heap.size 31 2 v (total pf (L s)).1.length (hcells (total pf (L s)).1)) ∧ Below w.heap.size w w' := by
  obtain ⟨i0, hi, hz0, hz1, hz2⟩ := info_parts Try.info31
  have K27 := bang_any s 0 s.size w hs (Nat.zero_le _) (Nat.le_refl _)
  have K28 := fun wx => pct_any s 0 s.size wx hs (Nat.zero_le _) (Nat.le_refl _)
  rw [show ((0 : Nat) : Int) = 0 from rfl] at K27 K28
  have HK27 : Hid _ := K27
  have HK28 : Hid _ := K28
  clear K27 K28
  go_enter Try.func19, Try.ntmps19
  go_wp2_with fail
  refine (Calls.mono HK27.out) ?_
  rintro e w1 ⟨⟨bi, nm, kd, rfl, hbr⟩, b1⟩
  have HBR : Hid _ := hbr
  clear hbr HK27
  go_wp2_with fail
  refine (Calls.mono (HK28.out _)) ?_
  rintro e w2 ⟨⟨pi, pn, rfl, hpr⟩, hw2⟩
  have hw2' := hw2.symm
  subst hw2'
  have HPR : Hid _ := hpr
  clear hpr HK28 hw2
  have start : Inv s pf w w1.heap.size 0 s.size (fbang (L s) 0 s.size) (lpct (L s) 0 s.size) bi pi nm kd pn s.size [] (.slice none 0 0) (w1.alloc (.cells #[.string nm, .string kd] 31)) := {
    lr := Nat.zero_le _
    rs := Nat.le_refl _
    brep := HBR.out
    prep := HPR.out
    bok := fun i hp h => by
      have := fbang_some (by rw [L_len]; exact Nat.le_refl _) h
      exact ⟨this.1, this.2.1, this.2.2⟩
    pok := fun i n h => (lpct_some h).2
    fuel := by omega
    hops := by unfold total; rw [L_len]; rfl
    rest := by unfold total; rw [L_len]
    len := by simp
    box := heap_alloc_new w1 _
    own := World.ownsRow_nil _ _ _ _
    below := b1.alloc b1.size _
    low := b1.size }
  have START : Hid _ := start
  clear start HBR HPR b1
  generalize w1.heap.size = B at *
  go_wp2_with fail
  go_loopw [2, 8, 9, 10, 12, 13] (fun v2 v8 v9 v10 v12 v13 wr => ∃ (l r : Nat) (b : Option (Nat × List UInt8 × List UInt8)) (p : Option (Nat × List UInt8)) (bi pi : Int) (nm kd pn : ByteArray) (f : Nat) (acc : List (List UInt8 × List UInt8)), v8 = .int .i64 l ∧ v9 = .int .i64 r ∧ v10 = .int .i64 bi ∧ v12 = .int .i64 pi ∧ v13 = .string pn ∧ Inv s pf w B l r b p bi pi nm kd pn f acc v2 wr)
    (fun v2 v8 v9 v10 v12 v13 wr => (intOf v9 - intOf v8).toNat)
  case atStart => exact ⟨_, _, _, _, _, _, _, _, _, _, _, rfl, rfl, rfl, rfl, rfl, START.out⟩
  case round =>
    obtain ⟨l, r, b, p, bi, pi, nm, kd, pn, f, acc, rfl, rfl, rfl, rfl, rfl, inv⟩ := hrel
    clear START
    have hB := inv.lt
    have c0 : wr.cell? ⟨B, 0, none⟩ = some (.string nm) := by rw [Lib.cell_of_heap inv.box]; rfl
    have c1 : wr.cell? ⟨B, 1, none⟩ = some (.string kd) := by rw [Lib.cell_of_heap inv.box]; rfl
    have f0 : wr.frozen? ⟨B, 0, none⟩ = false := Lib.frozen_of_heap inv.box 0
    have f1 : wr.frozen? ⟨B, 1, none⟩ = false := Lib.frozen_of_heap inv.box 1
    have hlr := inv.lr
    have hrs := inv.rs
    have hown := inv.own
    have hlen := inv.len
    have hbelow := inv.below.size
    have hlow := inv.low
    have hbase : B + 1 ≤ wr.heap.size := hB
    cases pf with
    | true =>
      cases b with
      | none =>
        obtain ⟨rfl, hb1, hb2⟩ := inv.brep
        have hcB : canB (none : Option (Nat × List UInt8 × List UInt8)) r = false := rfl
        cases p with
        | none =>
          obtain ⟨rfl, hp1, hp2⟩ := inv.prep
          have hcP : canP (none : Option (Nat × List UInt8)) l = false := rfl
          have hst := steps_end (pf := true) (S := L s) (f := f) hcP hcB
          have HT : Hid ((total true (L s)).2 = sub (L s) l r ∧ (total true (L s)).1 = acc) := by
            have h1 := inv.hops
            have h2 := inv.rest
            rw [hst] at h1 h2
            exact ⟨h2.symm, by rw [← h1]; simp⟩
          have HI : Hid _ := inv
          clear inv hst hcP hcB hown
          go_wp2_with fail
          go_region
          all_goals go_wp2
          all_goals go_ret2
          all_goals refine ⟨⟨_, by rw [HT.out.1]; exact congrArg (fun x => Ending.returned (.tuple #[_, .string x])) (Lib.extract_eq s l r), ?_⟩, ?_⟩
          all_goals first | (rw [HT.out.2]; exact own_low HI.out.own (by omega)) | exact HI.out.below.drew
        | some x =>
          obtain ⟨j, n⟩ := x
          obtain ⟨rfl, hpn⟩ := inv.prep
          have hpe : pn.toList.isEmpty = false := by rw [hpn]; exact mkB_ne (inv.pok j n rfl).2
          clear hpn
          by_cases hlj : l < j
          · have hljD : decide ((l : Int) < (j : Int)) = true := decide_eq_true (by omega)
            have hc : (true || !canB (none : Option (Nat × List UInt8 × List UInt8)) r) = true := rfl
            have hjr := inv.pok j n rfl
            have K28 := fun wx => pct_any s l j wx hs (by omega) (by omega)
            have HK28 : Hid _ := K28
            have HI : Hid _ := inv
            have HC : Hid _ := hc
            clear K28 inv hc hjr
            have hjr : j < r := (HI.out.pok j n rfl).1
            go_wp2_with (at_builtin; refine wpList_append_own _ rfl (.tmp 62) (.tmp 65) 26 rfl (B + 1) 31 i0 (.agg #[.string ⟨#[]⟩, .string ⟨#[]⟩]) 2 32 Try.underlying26 hi hz0 hz1 hz2 rfl (by decide) _ acc.length (hcells acc) rfl (hown.alloc _) ⟨wr.heap.size, 0, none⟩ 1 1 [.string pn, .string ⟨#[100, 111, 109, 97, 105, 110]⟩] rfl rfl (two_new wr _ _) (two_cell _ _) (by unfold maxLen; omega) (by omega) (by simp; omega) ?_; intro v1 w1 own1 gr1 _)
            refine (Calls.mono (HK28.out _)) ?_
            rintro e w2 ⟨⟨pi', pn', rfl, hpr⟩, hw2⟩
            have hw2' := hw2.symm
            subst hw2'
            have R := inv_pct HI.out hlj HC.out own1 gr1 hpr
            have HR : Hid _ := R
            clear R own1 gr1 hpr hw2 HI HC HK28 hown c0 c1 f0 f1
            go_wp2
            go_roundw
            case rel => exact ⟨_, _, _, _, _, _, _, _, _, _, _, rfl, rfl, rfl, rfl, rfl, HR.out⟩
            case measure => simp [intOf]; omega
          · have hljD : decide ((l : Int) < (j : Int)) = false := decide_eq_false (by omega)
            have hcP : canP (some (j, n)) l = false := by simp [canP, hlj]
            have hst := steps_end (pf := true) (S := L s) (f := f) hcP hcB
            have HT : Hid ((total true (L s)).2 = sub (L s) l r ∧ (total true (L s)).1 = acc) := by
              have h1 := inv.hops
              have h2 := inv.rest
              rw [hst] at h1 h2
              exact ⟨h2.symm, by rw [← h1]; simp⟩
            have HI : Hid _ := inv
            clear inv hst hcP hcB hown
            go_wp2_with fail
            go_region
            all_goals go_wp2
            all_goals go_ret2
            all_goals refine ⟨⟨_, by rw [HT.out.1]; exact congrArg (fun x => Ending.returned (.tuple #[_, .string x])) (Lib.extract_eq s l r), ?_⟩, ?_⟩
            all_goals first | (rw [HT.out.2]; exact own_low HI.out.own (by omega)) | exact HI.out.below.drew
      | some x =>
        obtain ⟨i, hn, hk⟩ := x
        obtain ⟨rfl, hnm, hkd⟩ := inv.brep
        have hne : nm.toList.isEmpty = false := by rw [hnm]; exact mkB_ne (inv.bok i (hn, hk) rfl).2.2
        clear hnm hkd
        have his : i < s.size := (inv.bok i (hn, hk) rfl).2.1
        by_cases hir : i + 1 < r
        · have hirD : decide ((i : Int) + 1 < (r : Int)) = true := decide_eq_true (by omega)
          cases p with
          | none =>
            obtain ⟨rfl, hp1, hp2⟩ := inv.prep
            have hc : (canP (none : Option (Nat × List UInt8)) l && true) = false := rfl
            have K27 := fun wx => bang_any s (i + 1) r wx hs (by omega) hrs
            rw [show ((i + 1 : Nat) : Int) = (i : Int) + 1 from by omega] at K27
            have hil := (inv.bok i (hn, hk) rfl).1
            have HK27 : Hid _ := K27
            have HI : Hid _ := inv
            have HC : Hid _ := hc
            clear K27 inv hc
            go_wp2_with (at_builtin; refine wpList_append_own _ rfl (.tmp 77) (.tmp 79) 26 rfl (B + 1) 31 i0 (.agg #[.string ⟨#[]⟩, .string ⟨#[]⟩]) 2 32 Try.underlying26 hi hz0 hz1 hz2 rfl (by decide) _ acc.length (hcells acc) rfl (hown.alloc _) ⟨wr.heap.size, 0, none⟩ 1 1 [.string nm, .string kd] rfl rfl (two_new wr _ _) (two_cell _ _) (by unfold maxLen; omega) (by omega) (by simp; omega) ?_; intro v1 w1 own1 gr1 _)
            refine (Calls.mono (HK27.out _)) ?_
            rintro e w2 ⟨⟨bi', nm', kd', rfl, hbr⟩, hb2⟩
            have R := inv_bang HI.out hir HC.out own1 gr1 hb2 hbr
            have box2 := box_below (box_grown HI.out.own HI.out.box gr1) hb2
            have d0 : w2.cell? ⟨B, 0, none⟩ = some (.string nm) := by rw [Lib.cell_of_heap box2]; rfl
            have d1 : w2.cell? ⟨B, 1, none⟩ = some (.string kd) := by rw [Lib.cell_of_heap box2]; rfl
            have g0 : w2.frozen? ⟨B, 0, none⟩ = false := Lib.frozen_of_heap box2 0
            have g1 : w2.frozen? ⟨B, 1, none⟩ = false := Lib.frozen_of_heap box2 1
            have HR : Hid _ := R
            clear R own1 gr1 hbr hb2 HI HC HK27 hown c0 c1 f0 f1 box2
            go_wp2
            go_roundw
            case rel => exact ⟨i + 1, _, _, _, _, _, _, _, _, _, _, by go_num, rfl, rfl, rfl, rfl, HR.out⟩
            case measure => simp [intOf]; omega
          | some x =>
            obtain ⟨j, n⟩ := x
            obtain ⟨rfl, hpn⟩ := inv.prep
            have hpe : pn.toList.isEmpty = false := by rw [hpn]; exact mkB_ne (inv.pok j n rfl).2
            clear hpn
            by_cases hlj : l < j
            · have hljD : decide ((l : Int) < (j : Int)) = true := decide_eq_true (by omega)
              have hc : (true || !canB (some (i, hn, hk)) r) = true := rfl
              have hjr := inv.pok j n rfl
              have K28 := fun wx => pct_any s l j wx hs (by omega) (by omega)
              have HK28 : Hid _ := K28
              have HI : Hid _ := inv
              have HC : Hid _ := hc
              clear K28 inv hc hjr
              have hjr : j < r := (HI.out.pok j n rfl).1
              go_wp2_with (at_builtin; refine wpList_append_own _ rfl (.tmp 62) (.tmp 65) 26 rfl (B + 1) 31 i0 (.agg #[.string ⟨#[]⟩, .string ⟨#[]⟩]) 2 32 Try.underlying26 hi hz0 hz1 hz2 rfl (by decide) _ acc.length (hcells acc) rfl (hown.alloc _) ⟨wr.heap.size, 0, none⟩ 1 1 [.string pn, .string ⟨#[100, 111, 109, 97, 105, 110]⟩] rfl rfl (two_new wr _ _) (two_cell _ _) (by unfold maxLen; omega) (by omega) (by simp; omega) ?_; intro v1 w1 own1 gr1 _)
              refine (Calls.mono (HK28.out _)) ?_
              rintro e w2 ⟨⟨pi', pn', rfl, hpr⟩, hw2⟩
              have hw2' := hw2.symm
              subst hw2'
              have R := inv_pct HI.out hlj HC.out own1 gr1 hpr
              have HR : Hid _ := R
              clear R own1 gr1 hpr hw2 HI HC HK28 hown c0 c1 f0 f1
              go_wp2
              go_roundw
              case rel => exact ⟨_, _, _, _, _, _, _, _, _, _, _, rfl, rfl, rfl, rfl, rfl, HR.out⟩
              case measure => simp [intOf]; omega
            · have hljD : decide ((l : Int) < (j : Int)) = false := decide_eq_false (by omega)
              have hc : (canP (some (j, n)) l && true) = false := by simp [canP, hlj]
              have K27 := fun wx => bang_any s (i + 1) r wx hs (by omega) hrs
              rw [show ((i + 1 : Nat) : Int) = (i : Int) + 1 from by omega] at K27
              have hil := (inv.bok i (hn, hk) rfl).1
              have HK27 : Hid _ := K27
              have HI : Hid _ := inv
              have HC : Hid _ := hc
              clear K27 inv hc
              go_wp2_with (at_builtin; refine wpList_append_own _ rfl (.tmp 77) (.tmp 79) 26 rfl (B + 1) 31 i0 (.agg #[.string ⟨#[]⟩, .string ⟨#[]⟩]) 2 32 Try.underlying26 hi hz0 hz1 hz2 rfl (by decide) _ acc.length (hcells acc) rfl (hown.alloc _) ⟨wr.heap.size, 0, none⟩ 1 1 [.string nm, .string kd] rfl rfl (two_new wr _ _) (two_cell _ _) (by unfold maxLen; omega) (by omega) (by simp; omega) ?_; intro v1 w1 own1 gr1 _)
              refine (Calls.mono (HK27.out _)) ?_
              rintro e w2 ⟨⟨bi', nm', kd', rfl, hbr⟩, hb2⟩
              have R := inv_bang HI.out hir HC.out own1 gr1 hb2 hbr
              have box2 := box_below (box_grown HI.out.own HI.out.box gr1) hb2
              have d0 : w2.cell? ⟨B, 0, none⟩ = some (.string nm) := by rw [Lib.cell_of_heap box2]; rfl
              have d1 : w2.cell? ⟨B, 1, none⟩ = some (.string kd) := by rw [Lib.cell_of_heap box2]; rfl
              have g0 : w2.frozen? ⟨B, 0, none⟩ = false := Lib.frozen_of_heap box2 0
              have g1 : w2.frozen? ⟨B, 1, none⟩ = false := Lib.frozen_of_heap box2 1
              have HR : Hid _ := R
              clear R own1 gr1 hbr hb2 HI HC HK27 hown c0 c1 f0 f1 box2
              go_wp2
              go_roundw
              case rel => exact ⟨i + 1, _, _, _, _, _, _, _, _, _, _, by go_num, rfl, rfl, rfl, rfl, HR.out⟩
              case measure => simp [intOf]; omega
        · have hirD : decide ((i : Int) + 1 < (r : Int)) = false := decide_eq_false (by omega)
          have hcB : canB (some (i, hn, hk)) r = false := by simp [canB, hir]
          cases p with
          | none =>
            obtain ⟨rfl, hp1, hp2⟩ := inv.prep
            have hcP : canP (none : Option (Nat × List UInt8)) l = false := rfl
            have hst := steps_end (pf := true) (S := L s) (f := f) hcP hcB
            have HT : Hid ((total true (L s)).2 = sub (L s) l r ∧ (total true (L s)).1 = acc) := by
              have h1 := inv.hops
              have h2 := inv.rest
              rw [hst] at h1 h2
              exact ⟨h2.symm, by rw [← h1]; simp⟩
            have HI : Hid _ := inv
            clear inv hst hcP hcB hown
            go_wp2_with fail
            go_region
            all_goals go_wp2
            all_goals go_ret2
            all_goals refine ⟨⟨_, by rw [HT.out.1]; exact congrArg (fun x => Ending.returned (.tuple #[_, .string x])) (Lib.extract_eq s l r), ?_⟩, ?_⟩
            all_goals first | (rw [HT.out.2]; exact own_low HI.out.own (by omega)) | exact HI.out.below.drew
          | some x =>
            obtain ⟨j, n⟩ := x
            obtain ⟨rfl, hpn⟩ := inv.prep
            have hpe : pn.toList.isEmpty = false := by rw [hpn]; exact mkB_ne (inv.pok j n rfl).2
            clear hpn
            by_cases hlj : l < j
            · have hljD : decide ((l : Int) < (j : Int)) = true := decide_eq_true (by omega)
              have hc : (true || !canB (some (i, hn, hk)) r) = true := rfl
              have hjr := inv.pok j n rfl
              have K28 := fun wx => pct_any s l j wx hs (by omega) (by omega)
              have HK28 : Hid _ := K28
              have HI : Hid _ := inv
              have HC : Hid _ := hc
              clear K28 inv hc hjr
              have hjr : j < r := (HI.out.pok j n rfl).1
              go_wp2_with (at_builtin; refine wpList_append_own _ rfl (.tmp 62) (.tmp 65) 26 rfl (B + 1) 31 i0 (.agg #[.string ⟨#[]⟩, .string ⟨#[]⟩]) 2 32 Try.underlying26 hi hz0 hz1 hz2 rfl (by decide) _ acc.length (hcells acc) rfl (hown.alloc _) ⟨wr.heap.size, 0, none⟩ 1 1 [.string pn, .string ⟨#[100, 111, 109, 97, 105, 110]⟩] rfl rfl (two_new wr _ _) (two_cell _ _) (by unfold maxLen; omega) (by omega) (by simp; omega) ?_; intro v1 w1 own1 gr1 _)
              refine (Calls.mono (HK28.out _)) ?_
              rintro e w2 ⟨⟨pi', pn', rfl, hpr⟩, hw2⟩
              have hw2' := hw2.symm
              subst hw2'
              have R := inv_pct HI.out hlj HC.out own1 gr1 hpr
              have HR : Hid _ := R
              clear R own1 gr1 hpr hw2 HI HC HK28 hown c0 c1 f0 f1
              go_wp2
              go_roundw
              case rel => exact ⟨_, _, _, _, _, _, _, _, _, _, _, rfl, rfl, rfl, rfl, rfl, HR.out⟩
              case measure => simp [intOf]; omega
            · have hljD : decide ((l : Int) < (j : Int)) = false := decide_eq_false (by omega)
              have hcP : canP (some (j, n)) l = false := by simp [canP, hlj]
              have hst := steps_end (pf := true) (S := L s) (f := f) hcP hcB
              have HT : Hid ((total true (L s)).2 = sub (L s) l r ∧ (total true (L s)).1 = acc) := by
                have h1 := inv.hops
                have h2 := inv.rest
                rw [hst] at h1 h2
                exact ⟨h2.symm, by rw [← h1]; simp⟩
              have HI : Hid _ := inv
              clear inv hst hcP hcB hown
              go_wp2_with fail
              go_region
              all_goals go_wp2
              all_goals go_ret2
              all_goals refine ⟨⟨_, by rw [HT.out.1]; exact congrArg (fun x => Ending.returned (.tuple #[_, .string x])) (Lib.extract_eq s l r), ?_⟩, ?_⟩
              all_goals first | (rw [HT.out.2]; exact own_low HI.out.own (by omega)) | exact HI.out.below.drew
    | false =>
      cases b with
      | none =>
        obtain ⟨rfl, hb1, hb2⟩ := inv.brep
        have hcB : canB (none : Option (Nat × List UInt8 × List UInt8)) r = false := rfl
        cases p with
        | none =>
          obtain ⟨rfl, hp1, hp2⟩ := inv.prep
          have hcP : canP (none : Option (Nat × List UInt8)) l = false := rfl
          have hst := steps_end (pf := false) (S := L s) (f := f) hcP hcB
          have HT : Hid ((total false (L s)).2 = sub (L s) l r ∧ (total false (L s)).1 = acc) := by
            have h1 := inv.hops
            have h2 := inv.rest
            rw [hst] at h1 h2
            exact ⟨h2.symm, by rw [← h1]; simp⟩
          have HI : Hid _ := inv
          clear inv hst hcP hcB hown
          go_wp2_with fail
          go_region
          all_goals go_wp2
          all_goals go_ret2
          all_goals refine ⟨⟨_, by rw [HT.out.1]; exact congrArg (fun x => Ending.returned (.tuple #[_, .string x])) (Lib.extract_eq s l r), ?_⟩, ?_⟩
          all_goals first | (rw [HT.out.2]; exact own_low HI.out.own (by omega)) | exact HI.out.below.drew
        | some x =>
          obtain ⟨j, n⟩ := x
          obtain ⟨rfl, hpn⟩ := inv.prep
          have hpe : pn.toList.isEmpty = false := by rw [hpn]; exact mkB_ne (inv.pok j n rfl).2
          clear hpn
          by_cases hlj : l < j
          · have hljD : decide ((l : Int) < (j : Int)) = true := decide_eq_true (by omega)
            have hc : (false || !canB (none : Option (Nat × List UInt8 × List UInt8)) r) = true := by rw [hcB]; rfl
            have hjr := inv.pok j n rfl
            have K28 := fun wx => pct_any s l j wx hs (by omega) (by omega)
            have HK28 : Hid _ := K28
            have HI : Hid _ := inv
            have HC : Hid _ := hc
            clear K28 inv hc hjr
            have hjr : j < r := (HI.out.pok j n rfl).1
            go_wp2_with (at_builtin; refine wpList_append_own _ rfl (.tmp 62) (.tmp 65) 26 rfl (B + 1) 31 i0 (.agg #[.string ⟨#[]⟩, .string ⟨#[]⟩]) 2 32 Try.underlying26 hi hz0 hz1 hz2 rfl (by decide) _ acc.length (hcells acc) rfl (hown.alloc _) ⟨wr.heap.size, 0, none⟩ 1 1 [.string pn, .string ⟨#[100, 111, 109, 97, 105, 110]⟩] rfl rfl (two_new wr _ _) (two_cell _ _) (by unfold maxLen; omega) (by omega) (by simp; omega) ?_; intro v1 w1 own1 gr1 _)
            refine (Calls.mono (HK28.out _)) ?_
            rintro e w2 ⟨⟨pi', pn', rfl, hpr⟩, hw2⟩
            have hw2' := hw2.symm
            subst hw2'
            have R := inv_pct HI.out hlj HC.out own1 gr1 hpr
            have HR : Hid _ := R
            clear R own1 gr1 hpr hw2 HI HC HK28 hown c0 c1 f0 f1
            go_wp2
            go_roundw
            case rel => exact ⟨_, _, _, _, _, _, _, _, _, _, _, rfl, rfl, rfl, rfl, rfl, HR.out⟩
            case measure => simp [intOf]; omega
          · have hljD : decide ((l : Int) < (j : Int)) = false := decide_eq_false (by omega)
            have hcP : canP (some (j, n)) l = false := by simp [canP, hlj]
            have hst := steps_end (pf := false) (S := L s) (f := f) hcP hcB
            have HT : Hid ((total false (L s)).2 = sub (L s) l r ∧ (total false (L s)).1 = acc) := by
              have h1 := inv.hops
              have h2 := inv.rest
              rw [hst] at h1 h2
              exact ⟨h2.symm, by rw [← h1]; simp⟩
            have HI : Hid _ := inv
            clear inv hst hcP hcB hown
            go_wp2_with fail
            go_region
            all_goals go_wp2
            all_goals go_ret2
            all_goals refine ⟨⟨_, by rw [HT.out.1]; exact congrArg (fun x => Ending.returned (.tuple #[_, .string x])) (Lib.extract_eq s l r), ?_⟩, ?_⟩
            all_goals first | (rw [HT.out.2]; exact own_low HI.out.own (by omega)) | exact HI.out.below.drew
      | some x =>
        obtain ⟨i, hn, hk⟩ := x
        obtain ⟨rfl, hnm, hkd⟩ := inv.brep
        have hne : nm.toList.isEmpty = false := by rw [hnm]; exact mkB_ne (inv.bok i (hn, hk) rfl).2.2
        clear hnm hkd
        have his : i < s.size := (inv.bok i (hn, hk) rfl).2.1
        by_cases hir : i + 1 < r
        · have hirD : decide ((i : Int) + 1 < (r : Int)) = true := decide_eq_true (by omega)
          cases p with
          | none =>
            obtain ⟨rfl, hp1, hp2⟩ := inv.prep
            have hc : (canP (none : Option (Nat × List UInt8)) l && false) = false := rfl
            have K27 := fun wx => bang_any s (i + 1) r wx hs (by omega) hrs
            rw [show ((i + 1 : Nat) : Int) = (i : Int) + 1 from by omega] at K27
            have hil := (inv.bok i (hn, hk) rfl).1
            have HK27 : Hid _ := K27
            have HI : Hid _ := inv
            have HC : Hid _ := hc
            clear K27 inv hc
            go_wp2_with (at_builtin; refine wpList_append_own _ rfl (.tmp 77) (.tmp 79) 26 rfl (B + 1) 31 i0 (.agg #[.string ⟨#[]⟩, .string ⟨#[]⟩]) 2 32 Try.underlying26 hi hz0 hz1 hz2 rfl (by decide) _ acc.length (hcells acc) rfl (hown.alloc _) ⟨wr.heap.size, 0, none⟩ 1 1 [.string nm, .string kd] rfl rfl (two_new wr _ _) (two_cell _ _) (by unfold maxLen; omega) (by omega) (by simp; omega) ?_; intro v1 w1 own1 gr1 _)
            refine (Calls.mono (HK27.out _)) ?_
            rintro e w2 ⟨⟨bi', nm', kd', rfl, hbr⟩, hb2⟩
            have R := inv_bang HI.out hir HC.out own1 gr1 hb2 hbr
            have box2 := box_below (box_grown HI.out.own HI.out.box gr1) hb2
            have d0 : w2.cell? ⟨B, 0, none⟩ = some (.string nm) := by rw [Lib.cell_of_heap box2]; rfl
            have d1 : w2.cell? ⟨B, 1, none⟩ = some (.string kd) := by rw [Lib.cell_of_heap box2]; rfl
            have g0 : w2.frozen? ⟨B, 0, none⟩ = false := Lib.frozen_of_heap box2 0
            have g1 : w2.frozen? ⟨B, 1, none⟩ = false := Lib.frozen_of_heap box2 1
            have HR : Hid _ := R
            clear R own1 gr1 hbr hb2 HI HC HK27 hown c0 c1 f0 f1 box2
            go_wp2
            go_roundw
            case rel => exact ⟨i + 1, _, _, _, _, _, _, _, _, _, _, by go_num, rfl, rfl, rfl, rfl, HR.out⟩
            case measure => simp [intOf]; omega
          | some x =>
            obtain ⟨j, n⟩ := x
            obtain ⟨rfl, hpn⟩ := inv.prep
            have hpe : pn.toList.isEmpty = false := by rw [hpn]; exact mkB_ne (inv.pok j n rfl).2
            clear hpn
            by_cases hlj : l < j
            · have hljD : decide ((l : Int) < (j : Int)) = true := decide_eq_true (by omega)
              have hc : (canP (some (j, n)) l && false) = false := by simp
              have K27 := fun wx => bang_any s (i + 1) r wx hs (by omega) hrs
              rw [show ((i + 1 : Nat) : Int) = (i : Int) + 1 from by omega] at K27
              have hil := (inv.bok i (hn, hk) rfl).1
              have HK27 : Hid _ := K27
              have HI : Hid _ := inv
              have HC : Hid _ := hc
              clear K27 inv hc
              go_wp2_with (at_builtin; refine wpList_append_own _ rfl (.tmp 77) (.tmp 79) 26 rfl (B + 1) 31 i0 (.agg #[.string ⟨#[]⟩, .string ⟨#[]⟩]) 2 32 Try.underlying26 hi hz0 hz1 hz2 rfl (by decide) _ acc.length (hcells acc) rfl (hown.alloc _) ⟨wr.heap.size, 0, none⟩ 1 1 [.string nm, .string kd] rfl rfl (two_new wr _ _) (two_cell _ _) (by unfold maxLen; omega) (by omega) (by simp; omega) ?_; intro v1 w1 own1 gr1 _)
              refine (Calls.mono (HK27.out _)) ?_
              rintro e w2 ⟨⟨bi', nm', kd', rfl, hbr⟩, hb2⟩
              have R := inv_bang HI.out hir HC.out own1 gr1 hb2 hbr
              have box2 := box_below (box_grown HI.out.own HI.out.box gr1) hb2
              have d0 : w2.cell? ⟨B, 0, none⟩ = some (.string nm) := by rw [Lib.cell_of_heap box2]; rfl
              have d1 : w2.cell? ⟨B, 1, none⟩ = some (.string kd) := by rw [Lib.cell_of_heap box2]; rfl
              have g0 : w2.frozen? ⟨B, 0, none⟩ = false := Lib.frozen_of_heap box2 0
              have g1 : w2.frozen? ⟨B, 1, none⟩ = false := Lib.frozen_of_heap box2 1
              have HR : Hid _ := R
              clear R own1 gr1 hbr hb2 HI HC HK27 hown c0 c1 f0 f1 box2
              go_wp2
              go_roundw
              case rel => exact ⟨i + 1, _, _, _, _, _, _, _, _, _, _, by go_num, rfl, rfl, rfl, rfl, HR.out⟩
              case measure => simp [intOf]; omega
            · have hljD : decide ((l : Int) < (j : Int)) = false := decide_eq_false (by omega)
              have hc : (canP (some (j, n)) l && false) = false := by simp [canP, hlj]
              have K27 := fun wx => bang_any s (i + 1) r wx hs (by omega) hrs
              rw [show ((i + 1 : Nat) : Int) = (i : Int) + 1 from by omega] at K27
              have hil := (inv.bok i (hn, hk) rfl).1
              have HK27 : Hid _ := K27
              have HI : Hid _ := inv
              have HC : Hid _ := hc
              clear K27 inv hc
              go_wp2_with (at_builtin; refine wpList_append_own _ rfl (.tmp 77) (.tmp 79) 26 rfl (B + 1) 31 i0 (.agg #[.string ⟨#[]⟩, .string ⟨#[]⟩]) 2 32 Try.underlying26 hi hz0 hz1 hz2 rfl (by decide) _ acc.length (hcells acc) rfl (hown.alloc _) ⟨wr.heap.size, 0, none⟩ 1 1 [.string nm, .string kd] rfl rfl (two_new wr _ _) (two_cell _ _) (by unfold maxLen; omega) (by omega) (by simp; omega) ?_; intro v1 w1 own1 gr1 _)
              refine (Calls.mono (HK27.out _)) ?_
              rintro e w2 ⟨⟨bi', nm', kd', rfl, hbr⟩, hb2⟩
              have R := inv_bang HI.out hir HC.out own1 gr1 hb2 hbr
              have box2 := box_below (box_grown HI.out.own HI.out.box gr1) hb2
              have d0 : w2.cell? ⟨B, 0, none⟩ = some (.string nm) := by rw [Lib.cell_of_heap box2]; rfl
              have d1 : w2.cell? ⟨B, 1, none⟩ = some (.string kd) := by rw [Lib.cell_of_heap box2]; rfl
              have g0 : w2.frozen? ⟨B, 0, none⟩ = false := Lib.frozen_of_heap box2 0
              have g1 : w2.frozen? ⟨B, 1, none⟩ = false := Lib.frozen_of_heap box2 1
              have HR : Hid _ := R
              clear R own1 gr1 hbr hb2 HI HC HK27 hown c0 c1 f0 f1 box2
              go_wp2
              go_roundw
              case rel => exact ⟨i + 1, _, _, _, _, _, _, _, _, _, _, by go_num, rfl, rfl, rfl, rfl, HR.out⟩
              case measure => simp [intOf]; omega
        · have hirD : decide ((i : Int) + 1 < (r : Int)) = false := decide_eq_false (by omega)
          have hcB : canB (some (i, hn, hk)) r = false := by simp [canB, hir]
          cases p with
          | none =>
            obtain ⟨rfl, hp1, hp2⟩ := inv.prep
            have hcP : canP (none : Option (Nat × List UInt8)) l = false := rfl
            have hst := steps_end (pf := false) (S := L s) (f := f) hcP hcB
            have HT : Hid ((total false (L s)).2 = sub (L s) l r ∧ (total false (L s)).1 = acc) := by
              have h1 := inv.hops
              have h2 := inv.rest
              rw [hst] at h1 h2
              exact ⟨h2.symm, by rw [← h1]; simp⟩
            have HI : Hid _ := inv
            clear inv hst hcP hcB hown
            go_wp2_with fail
            go_region
            all_goals go_wp2
            all_goals go_ret2
            all_goals refine ⟨⟨_, by rw [HT.out.1]; exact congrArg (fun x => Ending.returned (.tuple #[_, .string x])) (Lib.extract_eq s l r), ?_⟩, ?_⟩
            all_goals first | (rw [HT.out.2]; exact own_low HI.out.own (by omega)) | exact HI.out.below.drew
          | some x =>
            obtain ⟨j, n⟩ := x
            obtain ⟨rfl, hpn⟩ := inv.prep
            have hpe : pn.toList.isEmpty = false := by rw [hpn]; exact mkB_ne (inv.pok j n rfl).2
            clear hpn
            by_cases hlj : l < j
            · have hljD : decide ((l : Int) < (j : Int)) = true := decide_eq_true (by omega)
              have hc : (false || !canB (some (i, hn, hk)) r) = true := by rw [hcB]; rfl
              have hjr := inv.pok j n rfl
              have K28 := fun wx => pct_any s l j wx hs (by omega) (by omega)
              have HK28 : Hid _ := K28
              have HI : Hid _ := inv
              have HC : Hid _ := hc
              clear K28 inv hc hjr
              have hjr : j < r := (HI.out.pok j n rfl).1
              go_wp2_with (at_builtin; refine wpList_append_own _ rfl (.tmp 62) (.tmp 65) 26 rfl (B + 1) 31 i0 (.agg #[.string ⟨#[]⟩, .string ⟨#[]⟩]) 2 32 Try.underlying26 hi hz0 hz1 hz2 rfl (by decide) _ acc.length (hcells acc) rfl (hown.alloc _) ⟨wr.heap.size, 0, none⟩ 1 1 [.string pn, .string ⟨#[100, 111, 109, 97, 105, 110]⟩] rfl rfl (two_new wr _ _) (two_cell _ _) (by unfold maxLen; omega) (by omega) (by simp; omega) ?_; intro v1 w1 own1 gr1 _)
              refine (Calls.mono (HK28.out _)) ?_
              rintro e w2 ⟨⟨pi', pn', rfl, hpr⟩, hw2⟩
              have hw2' := hw2.symm
              subst hw2'
              have R := inv_pct HI.out hlj HC.out own1 gr1 hpr
              have HR : Hid _ := R
              clear R own1 gr1 hpr hw2 HI HC HK28 hown c0 c1 f0 f1
              go_wp2
              go_roundw
              case rel => exact ⟨_, _, _, _, _, _, _, _, _, _, _, rfl, rfl, rfl, rfl, rfl, HR.out⟩
              case measure => simp [intOf]; omega
            · have hljD : decide ((l : Int) < (j : Int)) = false := decide_eq_false (by omega)
              have hcP : canP (some (j, n)) l = false := by simp [canP, hlj]
              have hst := steps_end (pf := false) (S := L s) (f := f) hcP hcB
              have HT : Hid ((total false (L s)).2 = sub (L s) l r ∧ (total false (L s)).1 = acc) := by
                have h1 := inv.hops
                have h2 := inv.rest
                rw [hst] at h1 h2
                exact ⟨h2.symm, by rw [← h1]; simp⟩
              have HI : Hid _ := inv
              clear inv hst hcP hcB hown
              go_wp2_with fail
              go_region
              all_goals go_wp2
              all_goals go_ret2
              all_goals refine ⟨⟨_, by rw [HT.out.1]; exact congrArg (fun x => Ending.returned (.tuple #[_, .string x])) (Lib.extract_eq s l r), ?_⟩, ?_⟩
              all_goals first | (rw [HT.out.2]; exact own_low HI.out.own (by omega)) | exact HI.out.below.drew
end Go.Proofs.Qxb6003626a.LocE
