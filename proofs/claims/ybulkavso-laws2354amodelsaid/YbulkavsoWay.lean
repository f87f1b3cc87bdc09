/-
  (*node).walk: where it may make, and where it may not.
-/
import Derived.Test.YbulkavsoKidAll
namespace Go.Proofs.Ybulkavso
open Go.RowKit

/-- A segment as the law makes it. -/
abbrev Seg := Nat × ByteArray
def SegOk (s : Seg) : Prop := (s.1 = 0 ∧ Clean s.2.data.toList ∧ s.2.size ≤ 256) ∨ s.1 = 1 ∨ s.1 = 2
def keys (ss : List Seg) : List Key := ss.map fun s => keyOf s.1 s.2

/-- A row of segments. -/
def SegRow (w : World) (g : Nat) (ss : List Seg) : Prop :=
  ∃ cs : Array Value, w.heap[g]? = some (.cells cs 71) ∧ ∀ i, (hi : i < ss.length) → cs[i * 2]? = some (.int .i64 ss[i].1) ∧ cs[i * 2 + 1]? = some (.string ss[i].2)

theorem SegRow.move {w w' : World} {g : Nat} {ss : List Seg} (h : SegRow w g ss) (hg : w'.heap[g]? = w.heap[g]?) : SegRow w' g ss := by
  obtain ⟨cs, h1, h2⟩ := h
  exact ⟨cs, hg.trans h1, h2⟩

theorem SegRow.lt {w : World} {g : Nat} {ss : List Seg} (h : SegRow w g ss) : g < w.heap.size := by
  obtain ⟨cs, h1, _⟩ := h
  exact (Array.getElem?_eq_some_iff.1 h1).1

theorem SegRow.cell {w : World} {g : Nat} {ss : List Seg} (h : SegRow w g ss) (i : Nat) (hi : i < ss.length) : w.cell? ⟨g, i * 2, none⟩ = some (.int .i64 ss[i].1) ∧ w.cell? ⟨g, i * 2 + 1, none⟩ = some (.string ss[i].2) := by
  obtain ⟨cs, h1, h2⟩ := h
  simp only [World.cell?, h1]
  exact h2 i hi

theorem At.later {w w1 : World} {b : Nat} {R : Tell} {F : Nat → Prop} {p : List Key} {d n : Nat} {Fd : Nat → Prop} (h : At w b R F p d n Fd) (hlt : ∀ x, F x → x < w.heap.size) (hb : Below w.heap.size w w1) : At w1 b R (fun x => F x ∨ New w w1 x) p d n Fd := by
  obtain ⟨h1, h2, h3⟩ := h
  have hs := hb.size
  refine ⟨fun x hx => .inl (h1 x hx), NodeT.move n h2 (fun x hx => hb.block x (hlt x (h1 x hx))), ?_⟩
  intro w' n' R1 Fd' hu hT hF hoff
  have hs' := hu.size
  obtain ⟨m, hm⟩ := h3 w' n' R1 Fd' ((Upd.of_below hb Fd).trans hu (fun x hx => .inl hx)) hT (fun x hx => by
    rcases hF x hx with e | e
    · exact .inl e
    · exact .inr ⟨by have := e.1; omega, e.2⟩) hoff
  refine ⟨m, hm.congr (fun _ => rfl) (fun x hx => ?_)⟩
  rcases hx with e | e
  · exact .inl (.inl e)
  · rcases Nat.lt_or_ge x w1.heap.size with hl | hl
    · exact .inl (.inr ⟨e.1, hl⟩)
    · exact .inr ⟨hl, e.2⟩

/-- child, whatever the segment. -/
theorem child_any (hins : InsertLaw) (n b : Nat) (R : Tell) (F : Nat → Prop) (s : Seg) (w : World) (hT : NodeT n w b R F) (hlt : ∀ x, F x → x < w.heap.size) (hs : SegOk s) :
    Calls Yba.prog 23 #[.pointer (some ⟨b, 0, none⟩), .agg #[.int .i64 s.1, .string s.2], .bool true] w fun e w' => ∃ c, e = .returned (.pointer (some ⟨c, 0, none⟩)) ∧ ChildOk w w' b R F (keyOf s.1 s.2) c := by
  obtain ⟨n, rfl⟩ : ∃ k, n = k + 1 := by
    cases n with
    | zero => exact hT.elim
    | succ k => exact ⟨k, rfl⟩
  obtain ⟨kd, T⟩ := s
  rcases hs with ⟨h, h1, h2⟩ | h | h
  · obtain rfl : kd = 0 := h
    exact child_static hins n b R F T w hT hlt h1 h2
  · obtain rfl : kd = 1 := h
    exact child_param n b R F T w hT hlt
  · obtain rfl : kd = 2 := h
    exact child_catch n b R F T w hT hlt

theorem read_any (b : Nat) (r : Option Nat) (Ch : Key → Nat → Prop) (F0 : Nat → Prop) (s : Seg) (w : World) (hobj : NodeObj w b r Ch F0) (hfun : ∀ k d d', Ch k d → Ch k d' → d = d') (hlt : ∀ x, F0 x → x < w.heap.size) (hs : SegOk s) :
    Calls Yba.prog 23 #[.pointer (some ⟨b, 0, none⟩), .agg #[.int .i64 s.1, .string s.2], .bool false] w fun e w' => ChildIs w w' Ch (keyOf s.1 s.2) e := by
  obtain ⟨kd, T⟩ := s
  rcases hs with ⟨h, h1, h2⟩ | h | h
  · obtain rfl : kd = 0 := h
    exact read_static b r Ch F0 T w hobj hfun hlt h1 h2
  · obtain rfl : kd = 1 := h
    exact read_param b r Ch F0 T w hobj hlt
  · obtain rfl : kd = 2 := h
    exact read_catch b r Ch F0 T w hobj hlt

theorem keys_take (ss : List Seg) (i : Nat) (hi : i < ss.length) : (keys ss).take (i + 1) = (keys ss).take i ++ [keyOf ss[i].1 ss[i].2] := by
  have hl : i < (keys ss).length := by simpa [keys] using hi
  rw [List.take_add_one, List.getElem?_eq_getElem hl]
  simp [keys]

theorem keys_all (ss : List Seg) : (keys ss).take ss.length = keys ss := List.take_of_length_le (by simp [keys])

/-- What walk comes to, where it may make. -/
def WalkOk (w w' : World) (b : Nat) (R : Tell) (F : Nat → Prop) (p : List Key) (d : Nat) : Prop :=
  Upd w w' F ∧ ∃ (F' : Nat → Prop) (nd : Nat) (Fd : Nat → Prop), (∀ x, F' x → F x ∨ New w w' x) ∧ At w' b R F' p d nd Fd

set_option maxRecDepth 100000 in
set_option maxHeartbeats 1000000 in
theorem walk_make (hins : InsertLaw) (n b g cap : Nat) (R : Tell) (F : Nat → Prop) (ss : List Seg) (w : World) (hT : NodeT n w b R F) (hlt : ∀ x, F x → x < w.heap.size) (hrow : SegRow w g ss) (hg : ¬ F g) (hok : ∀ s ∈ ss, SegOk s) (hlen : ss.length ≤ 256) :
    Calls Yba.prog 11 #[.pointer (some ⟨b, 0, none⟩), .slice (some ⟨g, 0, none⟩) ss.length cap, .bool true] w fun e w' => ∃ d, e = .returned (.pointer (some ⟨d, 0, none⟩)) ∧ WalkOk w w' b R F (keys ss) d := by
  have HI := hide hins
  have HST : Hid (WalkOk w w b R F [] b) := ⟨Upd.refl _ _, F, n, F, fun _ h => .inl h, At.start hT⟩
  have HLT := hide hlt
  have HROW := hide hrow
  have HG := hide hg
  have HOK := hide hok
  clear hins hT hlt hrow hg hok
  go_enter Yba.func11, Yba.ntmps11
  go_wp2_with fail
  go_loopw [0, 11] (fun v i wr => ∃ (j d : Nat), j ≤ ss.length ∧ v = .pointer (some ⟨d, 0, none⟩) ∧ i = .int .i64 j ∧ WalkOk w wr b R F ((keys ss).take j) d) (fun _ i _ => ss.length - (intOf i).toNat)
  case atStart => exact ⟨0, b, Nat.zero_le _, rfl, rfl, by simpa using HST.out⟩
  case round =>
    obtain ⟨j, d, hj, rfl, rfl, hw⟩ := hrel
    have HW := hide hw
    clear hw
    by_cases hlt : j < ss.length
    · have hgr : wr.heap[g]? = w.heap[g]? := HW.out.1.block g HROW.out.lt HG.out
      obtain ⟨r1, r2⟩ := (HROW.out.move hgr).cell j hlt
      have HSO : Hid (SegOk ss[j]) := HOK.out _ (List.getElem_mem hlt)
      have HKT := hide (keys_take ss j hlt)
      clear hgr
      generalize ss[j] = s at *
      obtain ⟨kd, T⟩ := s
      simp only at r1 r2
      have HC : Hid (Calls Yba.prog 23 #[.pointer (some ⟨d, 0, none⟩), .agg #[.int .i64 kd, .string T], .bool true] (wr.alloc (.cells #[.int .i64 kd, .string T] 71)) fun e w' => ∃ c, e = .returned (.pointer (some ⟨c, 0, none⟩)) ∧ WalkOk w w' b R F ((keys ss).take (j + 1)) c) := by
        obtain ⟨hu, F', nd, Fd, hF', hat⟩ := HW.out
        have hbel : Below wr.heap.size wr (wr.alloc (.cells #[.int .i64 kd, .string T] 71)) := (Below.refl _ _).alloc (Nat.le_refl _) _
        have hs := hu.size
        have hlt' : ∀ x, F' x → x < wr.heap.size := fun x hx => by
          rcases hF' x hx with e | e
          · have := HLT.out x e; omega
          · exact e.2
        have hat1 := hat.later hlt' hbel
        refine (child_any HI.out nd d _ Fd (kd, T) _ hat1.2.1 (fun x hx => by have := hlt' x (hat.1 x hx); simp; omega) HSO.out).mono ?_
        rintro e w2 ⟨c, rfl, hu2, Fd2, nc, Fc, hFd2, hat2⟩
        refine ⟨c, rfl, ?_, _, nc, Fc, ?_, by rw [HKT.out]; exact hat1.step hu2 hFd2 hat2⟩
        · refine (hu.trans (Upd.of_below hbel F) (fun x hx => .inl hx)).trans hu2 (fun x hx => ?_)
          rcases hF' x (hat.1 x hx) with e | e
          · exact .inl e
          · exact .inr ⟨e.1, by have := e.2; simp; omega⟩
        · have hs1 := hbel.size
          have hs2 := hu2.size
          rintro x ((hx | hx) | hx)
          · rcases hF' x hx with e | e
            · exact .inl e
            · exact .inr ⟨e.1, by have := e.2; omega⟩
          · exact .inr ⟨by have := hx.1; omega, by have := hx.2; omega⟩
          · exact .inr ⟨by have := hx.1; omega, hx.2⟩
      go_wp2_with (go_at_call 23; refine HC.out.mono ?_; rintro e w2 ⟨c, rfl, hw2⟩)
      have HW2 := hide hw2
      clear hw2
      go_roundw
      case rel => exact ⟨j + 1, c, by omega, rfl, by go_num, HW2.out⟩
      case measure => simp [intOf]; omega
    · obtain rfl : j = ss.length := by omega
      go_wp2_with fail
      go_ret
      exact ⟨d, rfl, by have := HW.out; rw [keys_all] at this; exact this⟩

/-- A tree, or nothing where the tree tells nothing: v points to it. -/
def Sub (w : World) (R : Tell) (v : Value) : Prop :=
  (v = .pointer none ∧ ∀ q, R q = none) ∨ ∃ (d n : Nat) (F : Nat → Prop), v = .pointer (some ⟨d, 0, none⟩) ∧ NodeT n w d R F ∧ ∀ x, F x → x < w.heap.size

set_option maxRecDepth 100000 in
set_option maxHeartbeats 1000000 in
theorem walk_read (g cap : Nat) (R : Tell) (v0 : Value) (ss : List Seg) (w : World) (hT : Sub w R v0) (hrow : SegRow w g ss) (hok : ∀ s ∈ ss, SegOk s) (hlen : ss.length ≤ 256) :
    Calls Yba.prog 11 #[v0, .slice (some ⟨g, 0, none⟩) ss.length cap, .bool false] w fun e w' => Below w.heap.size w w' ∧ ∃ v, e = .returned v ∧ Sub w (fun q => R (keys ss ++ q)) v := by
  have HST := hide hT
  have HROW := hide hrow
  have HOK := hide hok
  clear hT hrow hok
  go_enter Yba.func11, Yba.ntmps11
  go_wp2_with fail
  go_loopw [0, 11] (fun v i wr => ∃ j : Nat, j ≤ ss.length ∧ i = .int .i64 j ∧ Below w.heap.size w wr ∧ Sub w (fun q => R ((keys ss).take j ++ q)) v) (fun _ i _ => ss.length - (intOf i).toNat)
  case atStart => exact ⟨0, Nat.zero_le _, rfl, Below.refl _ _, by simpa using HST.out⟩
  case round =>
    obtain ⟨j, hj, rfl, hbel, hsub⟩ := hrel
    have HB := hide hbel
    clear hbel
    by_cases hlt : j < ss.length
    · obtain ⟨r1, r2⟩ := (HROW.out.move (HB.out.block g HROW.out.lt)).cell j hlt
      have HSO : Hid (SegOk ss[j]) := HOK.out _ (List.getElem_mem hlt)
      have HKT := hide (keys_take ss j hlt)
      generalize ss[j] = s at *
      obtain ⟨kd, T⟩ := s
      simp only at r1 r2
      rcases hsub with ⟨rfl, hno⟩ | ⟨d, n, F, rfl, hT, hF⟩
      · have HNO : Hid (∀ q, R (keys ss ++ q) = none) := fun q => by
          have := hno ((keys ss).drop j ++ q)
          simp only at this
          rw [← List.append_assoc, List.take_append_drop] at this
          exact this
        have HBA : Hid (Below w.heap.size w (wr.alloc (.cells #[.int .i64 kd, .string T] 71))) := HB.out.alloc HB.out.size _
        clear hno
        go_wp2_with fail
        go_ret
        exact ⟨HBA.out, _, rfl, .inl ⟨rfl, HNO.out⟩⟩
      · have HC : Hid (Calls Yba.prog 23 #[.pointer (some ⟨d, 0, none⟩), .agg #[.int .i64 kd, .string T], .bool false] (wr.alloc (.cells #[.int .i64 kd, .string T] 71)) fun e w' => ∃ v, e = .returned v ∧ Below w.heap.size w w' ∧ Sub w (fun q => R ((keys ss).take (j + 1) ++ q)) v) := by
          obtain ⟨n, rfl⟩ : ∃ k, n = k + 1 := by
            cases n with
            | zero => exact hT.elim
            | succ k => exact ⟨k, rfl⟩
          obtain ⟨Ch, Fk, F0, k1, k2, k3, k4, k5, k6, k7⟩ := hT
          have hba : Below w.heap.size w (wr.alloc (.cells #[.int .i64 kd, .string T] 71)) := HB.out.alloc HB.out.size _
          have hs := hba.size
          refine (read_any d _ Ch F0 (kd, T) _ (k1.move (fun x hx => hba.block x (hF x (k5 x hx)))) k2 (fun x hx => by have := hF x (k5 x hx); omega) HSO.out).mono ?_
          rintro e w2 ⟨hb2, h⟩
          have hb3 := hba.trans (hb2.mono hs)
          have hR : ∀ q, R ((keys ss).take (j + 1) ++ q) = R ((keys ss).take j ++ (keyOf kd T :: q)) := fun q => by rw [HKT.out]; simp
          rcases h with ⟨rfl, hno⟩ | ⟨c, rfl, hc⟩
          · exact ⟨_, rfl, hb3, .inl ⟨rfl, fun q => (hR q).trans (k4 _ hno q)⟩⟩
          · exact ⟨_, rfl, hb3, .inr ⟨c, n, Fk (keyOf kd T), rfl, (k3 _ c hc).congr hR (fun _ h => h), fun x hx => hF x (k6 _ c x hc hx).1⟩⟩
        clear hT hF
        go_wp2_with (go_at_call 23; refine HC.out.mono ?_; rintro e w2 ⟨v2, rfl, hb2, hsub2⟩)
        have HB2 := hide hb2
        have HS2 := hide hsub2
        clear hb2 hsub2
        go_roundw
        case rel => exact ⟨j + 1, by omega, by go_num, HB2.out, HS2.out⟩
        case measure => simp [intOf]; omega
    · obtain rfl : j = ss.length := by omega
      have HSUB := hide hsub
      clear hsub
      go_wp2_with fail
      go_ret
      exact ⟨HB.out, _, rfl, by have := HSUB.out; rw [keys_all] at this; exact this⟩

end Go.Proofs.Ybulkavso
