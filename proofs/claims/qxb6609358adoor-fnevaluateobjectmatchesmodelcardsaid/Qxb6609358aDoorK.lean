import Derived.Test.Qxb6609358aDoorJ
namespace Go.Proofs.Qxb6609358aDoor.A
open Go.ChangeShapes Go.WideShapes Go.ChangeAt Go.RowKit P
set_option linter.unusedVariables false

theorem txt_head (ts : List (List UInt8)) : txt ts = [] ∨ ∃ r, txt ts = 47 :: r := by
  cases ts with
  | nil => exact .inl rfl
  | cons a b => exact .inr ⟨_, rfl⟩
theorem txt_ge (ts : List (List UInt8)) : ts.length ≤ (txt ts).length := by
  induction ts with
  | nil => exact Nat.le_refl _
  | cons a b ih => simp [txt]; omega

/-- tokenEnd at a parsed pointer. -/
theorem end_any (v : Value) (t : ByteArray) (done rest : List (List UInt8)) (q : List UInt8) (w : World) (h : PtrIs w v t (done ++ q :: rest)) :
    Calls Tryd.prog 59 #[.agg #[.string t, v], .int .i64 (done.length : Int), .int .i64 ((txt done).length + 1 : Nat)] w fun e w' => e = .returned (.int .i64 ((txt done).length + 1 + q.length : Nat)) ∧ w' = w.alloc (boxP t v) := by
  obtain ⟨h1, h2, h3⟩ := h
  have hlen : t.size = (txt done).length + (1 + (q.length + (txt rest).length)) := by rw [← L_len, h1, txt_append]; simp [txt]; try omega
  rcases h3 with ⟨rfl, hno⟩ | ⟨g, cap, rfl, hE⟩
  · refine end_nil t done.length ((txt done).length + 1) q (txt rest) w h2 (by omega) ?_ (fun c hc => hno q (by simp) c hc) (txt_head rest)
    rw [h1, txt_append, ← List.drop_drop, List.drop_left]
    rfl
  · have hl : done.length + 1 ≤ (done ++ q :: rest).length := by simp
    have hg := txt_ge (done ++ q :: rest)
    rw [← h1, L_len] at hg
    refine (end_at t g (done ++ q :: rest).length cap done.length ((txt done).length + 1 + q.length) _ w (by omega) (by omega) (hE.2 _ _ ?_)).mono ?_
    · rw [cum_append, List.getElem?_append_right (by rw [cum_len]; exact Nat.le_refl _), cum_len]
      simp [cum]
    · rintro e w' ⟨rfl, rfl⟩
      exact ⟨rfl, rfl⟩
theorem tok_L (t : ByteArray) (done rest : List (List UInt8)) (q : List UInt8) (h : L t = txt (done ++ q :: rest)) : L (t.extract ((txt done).length + 1) ((txt done).length + 1 + q.length)) = q := by
  refine piece_L t _ q (txt rest) ?_
  rw [h, txt_append, ← List.drop_drop, List.drop_left]
  rfl

theorem ptr_shape {w : World} {v : Value} {t : ByteArray} {ts : List (List UInt8)} (h : PtrIs w v t ts) : ∃ a n c, v = .slice a n c := by
  rcases h.2.2 with ⟨rfl, _⟩ | ⟨g, cap, rfl, _⟩
  · exact ⟨_, _, _, rfl⟩
  · exact ⟨_, _, _, rfl⟩

set_option maxRecDepth 100000 in
set_option maxHeartbeats 2000000 in
theorem eval_nil (v doc : Value) (t : ByteArray) (w : World) (h : PtrIs w v t []) :
    Calls Tryd.prog 40 #[.agg #[.string t, v], doc] w fun e w' => e = .returned (.tuple #[doc, .nilIface]) ∧ Below w.heap.size w w' := by
  have hz : t.size = 0 := by rw [← L_len, h.1]; rfl
  obtain ⟨a, n, c, rfl⟩ := ptr_shape h
  clear h
  have hd : decide ((1 : Int) ≤ (t.size : Int)) = false := decide_eq_false (by omega)
  have hz' : t.size ≤ 0 := by omega
  clear hz
  go_enter Tryd.func40, Tryd.ntmps40
  go_wp2
  go_loopw [6, 7, 8] (fun v i st wr => v = doc ∧ i = .int .i64 0 ∧ st = .int .i64 1 ∧ wr = w.alloc (.cells #[.string t, .slice a n c] 31)) (fun _ _ _ _ => 0)
  case atStart => exact ⟨rfl, rfl, rfl, rfl⟩
  case round =>
    obtain ⟨rfl, rfl, rfl, rfl⟩ := hrel
    go_wp2
    refine bodyPost_ret (v := .tuple #[_, .nilIface]) (by simp [results, Tryd.results40, go_sem]; rfl) rfl ?_
    exact ⟨rfl, (Below.refl _ w).alloc (Nat.le_refl _) _⟩

set_option maxRecDepth 100000 in
set_option maxHeartbeats 4000000 in
theorem eval_bad (v doc : Value) (t D : ByteArray) (q : List UInt8) (rest : List (List UInt8)) (w : World) (h : PtrIs w v t (q :: rest)) (hD : D.toList.isEmpty = false)
    (hsel : ∀ W, Below w.heap.size w W → Calls Tryd.prog 60 #[doc, .string (t.extract 1 (1 + q.length))] W fun e w' => e = .returned (.tuple #[.nilIface, .string D]) ∧ w' = W) :
    Calls Tryd.prog 40 #[.agg #[.string t, v], doc] w fun e w' => (∃ b, e = .returned (.tuple #[.nilIface, .iface 84 (.pointer (some ⟨b, 0, none⟩))]) ∧ w'.heap[b]? = some (.cells #[.string D, .int .i64 1, .string (t.extract 1 (1 + q.length))] 87 (0, 0)) ∧ w.heap.size ≤ b) ∧ Below w.heap.size w w' := by
  have hB1 : Below w.heap.size w (w.alloc (boxP t v)) := (Below.refl _ w).alloc (Nat.le_refl _) _
  have hB2 : Below w.heap.size w ((w.alloc (boxP t v)).alloc (boxP t v)) := hB1.alloc (by simp) _
  have k59 := end_any v t [] rest q _ (h.below hB1)
  have k60 := hsel _ hB2
  have hlen : 1 + q.length ≤ t.size := by rw [← L_len, h.1]; simp [txt]; omega
  have ht := h.2.1
  obtain ⟨a, n, c, rfl⟩ := ptr_shape h
  clear h hsel
  simp only [txt, List.length_nil, Nat.zero_add] at k59
  unfold boxP at *
  have K59 : Hid _ := k59
  have K60 : Hid _ := k60
  have HB2 : Hid _ := hB2
  clear k59 k60 hB1 hB2
  have hc0 : (w.alloc (.cells #[.string t, .slice a n c] 31)).cell? ⟨w.heap.size, 0, none⟩ = some (.string t) := by simp
  go_enter Tryd.func40, Tryd.ntmps40
  go_wp2
  go_loopw [6, 7, 8] (fun v i st wr => v = doc ∧ i = .int .i64 0 ∧ st = .int .i64 1 ∧ wr = w.alloc (.cells #[.string t, .slice a n c] 31)) (fun _ _ _ _ => 0)
  case atStart => exact ⟨rfl, rfl, rfl, rfl⟩
  case round =>
    obtain ⟨rfl, rfl, rfl, rfl⟩ := hrel
    go_wp2_with fail
    refine (Calls.mono K59.out) ?_
    rintro e w1 ⟨rfl, rfl⟩
    go_wp2_with fail
    refine use K60.out ?_
    go_wp2
    refine bodyPost_ret (v := .tuple #[.nilIface, .iface 84 (.pointer (some ⟨w.heap.size + 1 + 1, 0, none⟩))]) (by simp [results, Tryd.results40, go_sem]) rfl ?_
    refine ⟨⟨_, rfl, ?_, by omega⟩, HB2.out.alloc (by simp; omega) _⟩
    have := World.alloc_heap_new ((w.alloc (.cells #[.string t, .slice a n c] 31)).alloc (.cells #[.string t, .slice a n c] 31)) (.cells #[.string D, .int .i64 1, .string (t.extract 1 (1 + q.length))] 87)
    rwa [World.size_alloc, World.size_alloc] at this

set_option maxRecDepth 100000 in
set_option maxHeartbeats 4000000 in
theorem eval_one (v doc : Value) (t u : ByteArray) (q : List UInt8) (w : World) (h : PtrIs w v t [q])
    (hsel : ∀ W, Below w.heap.size w W → Calls Tryd.prog 60 #[doc, .string (t.extract 1 (1 + q.length))] W fun e w' => e = .returned (.tuple #[.iface 9 (.string u), .string kNone]) ∧ w' = W) :
    Calls Tryd.prog 40 #[.agg #[.string t, v], doc] w fun e w' => e = .returned (.tuple #[.iface 9 (.string u), .nilIface]) ∧ Below w.heap.size w w' := by
  have hB1 : Below w.heap.size w (w.alloc (boxP t v)) := (Below.refl _ w).alloc (Nat.le_refl _) _
  have hB2 : Below w.heap.size w ((w.alloc (boxP t v)).alloc (boxP t v)) := hB1.alloc (by simp) _
  have k59 := end_any v t [] [] q _ (h.below hB1)
  have k60 := hsel _ hB2
  have hlen : 1 + q.length ≤ t.size := by rw [← L_len, h.1]; simp [txt]; omega
  have hlen2 : t.size ≤ 1 + q.length := by rw [← L_len, h.1]; simp [txt]; omega
  have ht := h.2.1
  obtain ⟨a, n, c, rfl⟩ := ptr_shape h
  clear h hsel
  simp only [txt, List.length_nil, Nat.zero_add] at k59
  unfold boxP at *
  have K59 : Hid _ := k59
  have K60 : Hid _ := k60
  have HB2 : Hid _ := hB2
  clear k59 k60 hB1 hB2
  have hc0 : (w.alloc (.cells #[.string t, .slice a n c] 31)).cell? ⟨w.heap.size, 0, none⟩ = some (.string t) := by simp
  have hc1 : ((w.alloc (.cells #[.string t, .slice a n c] 31)).alloc (.cells #[.string t, .slice a n c] 31)).cell? ⟨w.heap.size, 0, none⟩ = some (.string t) := Lib.cell?_alloc_some _ hc0
  have hd : decide (((1 + q.length + 1 : Nat) : Int) ≤ (t.size : Int)) = false := decide_eq_false (by omega)
  go_enter Tryd.func40, Tryd.ntmps40
  go_wp2
  go_loopw [6, 7, 8] (fun v i st wr => (v = doc ∧ i = .int .i64 0 ∧ st = .int .i64 1 ∧ wr = w.alloc (.cells #[.string t, .slice a n c] 31)) ∨ (v = .iface 9 (.string u) ∧ i = .int .i64 1 ∧ st = .int .i64 (1 + q.length + 1 : Nat) ∧ wr = (w.alloc (.cells #[.string t, .slice a n c] 31)).alloc (.cells #[.string t, .slice a n c] 31))) (fun _ _ st _ => t.size + 1 - (intOf st).toNat)
  case atStart => exact .inl ⟨rfl, rfl, rfl, rfl⟩
  case round =>
    rcases hrel with ⟨rfl, rfl, rfl, rfl⟩ | ⟨rfl, rfl, rfl, rfl⟩
    · go_wp2_with fail
      refine (Calls.mono K59.out) ?_
      rintro e w1 ⟨rfl, rfl⟩
      go_wp2_with fail
      refine use K60.out ?_
      go_wp2
      go_roundw
      case rel => exact .inr ⟨rfl, by go_num, by go_num, by simp⟩
      case measure => simp [intOf]; omega
    · go_wp2
      refine bodyPost_ret (v := .tuple #[.iface 9 (.string u), .nilIface]) (by simp [results, Tryd.results40, go_sem]) rfl ?_
      exact ⟨rfl, HB2.out⟩

set_option maxRecDepth 100000 in
set_option maxHeartbeats 4000000 in
theorem eval_two (v doc : Value) (t u : ByteArray) (q q2 : List UInt8) (rest : List (List UInt8)) (w : World) (h : PtrIs w v t (q :: q2 :: rest))
    (hsel : ∀ W, Below w.heap.size w W → Calls Tryd.prog 60 #[doc, .string (t.extract 1 (1 + q.length))] W fun e w' => e = .returned (.tuple #[.iface 9 (.string u), .string kNone]) ∧ w' = W) :
    Calls Tryd.prog 40 #[.agg #[.string t, v], doc] w fun e w' => (∃ b, e = .returned (.tuple #[.nilIface, .iface 84 (.pointer (some ⟨b, 0, none⟩))]) ∧ w'.heap[b]? = some (.cells #[.string kCont, .int .i64 2, .string (t.extract (1 + q.length + 1) (1 + q.length + 1 + q2.length))] 87 (0, 0)) ∧ w.heap.size ≤ b) ∧ Below w.heap.size w w' := by
  have hB1 : Below w.heap.size w (w.alloc (boxP t v)) := (Below.refl _ w).alloc (Nat.le_refl _) _
  have hB2 : Below w.heap.size w ((w.alloc (boxP t v)).alloc (boxP t v)) := hB1.alloc (by simp) _
  have hB3 : Below w.heap.size w (((w.alloc (boxP t v)).alloc (boxP t v)).alloc (boxP t v)) := hB2.alloc (by simp; omega) _
  have k59 := end_any v t [] (q2 :: rest) q _ (h.below hB1)
  have k59b := end_any v t [q] rest q2 _ (h.below hB2)
  have k60 := hsel _ hB2
  have k60b := sel_str u (t.extract (1 + q.length + 1) (1 + q.length + 1 + q2.length)) (((w.alloc (boxP t v)).alloc (boxP t v)).alloc (boxP t v))
  have hlen : 1 + q.length + 1 + q2.length ≤ t.size := by rw [← L_len, h.1]; simp [txt]; omega
  have ht := h.2.1
  obtain ⟨a, n, c, rfl⟩ := ptr_shape h
  clear h hsel
  simp only [txt, List.length_nil, Nat.zero_add] at k59
  have he : (txt [q]).length = 1 + q.length := by simp [txt]; omega
  rw [he] at k59b
  clear he
  unfold boxP at *
  have K59 : Hid _ := k59
  have K60 : Hid _ := k60
  have K59b : Hid _ := k59b
  have K60b : Hid _ := k60b
  have HB3 : Hid _ := hB3
  clear k59 k60 k59b k60b hB1 hB2 hB3
  have hc0 : (w.alloc (.cells #[.string t, .slice a n c] 31)).cell? ⟨w.heap.size, 0, none⟩ = some (.string t) := by simp
  have hcb : (w.alloc (.cells #[.string t, .slice a n c] 31)).cell? ⟨w.heap.size, 1, none⟩ = some (.slice a n c) := by simp
  have hc1 : ((w.alloc (.cells #[.string t, .slice a n c] 31)).alloc (.cells #[.string t, .slice a n c] 31)).cell? ⟨w.heap.size, 0, none⟩ = some (.string t) := Lib.cell?_alloc_some _ hc0
  have hc2 : ((w.alloc (.cells #[.string t, .slice a n c] 31)).alloc (.cells #[.string t, .slice a n c] 31)).cell? ⟨w.heap.size, 1, none⟩ = some (.slice a n c) := Lib.cell?_alloc_some _ hcb
  have hc3 : (((w.alloc (.cells #[.string t, .slice a n c] 31)).alloc (.cells #[.string t, .slice a n c] 31)).alloc (.cells #[.string t, .slice a n c] 31)).cell? ⟨w.heap.size, 0, none⟩ = some (.string t) := Lib.cell?_alloc_some _ hc1
  go_enter Tryd.func40, Tryd.ntmps40
  go_wp2
  go_loopw [6, 7, 8] (fun v i st wr => (v = doc ∧ i = .int .i64 0 ∧ st = .int .i64 1 ∧ wr = w.alloc (.cells #[.string t, .slice a n c] 31)) ∨ (v = .iface 9 (.string u) ∧ i = .int .i64 1 ∧ st = .int .i64 (1 + q.length + 1 : Nat) ∧ wr = (w.alloc (.cells #[.string t, .slice a n c] 31)).alloc (.cells #[.string t, .slice a n c] 31))) (fun _ _ st _ => t.size + 1 - (intOf st).toNat)
  case atStart => exact .inl ⟨rfl, rfl, rfl, rfl⟩
  case round =>
    rcases hrel with ⟨rfl, rfl, rfl, rfl⟩ | ⟨rfl, rfl, rfl, rfl⟩
    · go_wp2_with fail
      refine (Calls.mono K59.out) ?_
      rintro e w1 ⟨rfl, rfl⟩
      go_wp2_with fail
      refine use K60.out ?_
      go_wp2
      go_roundw
      case rel => exact .inr ⟨rfl, by go_num, by go_num, by simp⟩
      case measure => simp [intOf]; omega
    · go_wp2_with fail
      refine (Calls.mono K59b.out) ?_
      rintro e w1 ⟨rfl, rfl⟩
      go_wp2_with fail
      refine use K60b.out ?_
      go_wp2
      refine bodyPost_ret (v := .tuple #[.nilIface, .iface 84 (.pointer (some ⟨w.heap.size + 1 + 1 + 1, 0, none⟩))]) (by simp [results, Tryd.results40, go_sem]) rfl ?_
      refine ⟨⟨_, rfl, ?_, by omega⟩, HB3.out.alloc (by simp; omega) _⟩
      have := World.alloc_heap_new (((w.alloc (.cells #[.string t, .slice a n c] 31)).alloc (.cells #[.string t, .slice a n c] 31)).alloc (.cells #[.string t, .slice a n c] 31)) (.cells #[.string kCont, .int .i64 2, .string (t.extract (1 + q.length + 1) (1 + q.length + 1 + q2.length))] 87)
      rwa [World.size_alloc, World.size_alloc, World.size_alloc] at this
end Go.Proofs.Qxb6609358aDoor.A
