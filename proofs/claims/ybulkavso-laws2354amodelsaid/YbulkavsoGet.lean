/-
  (*methodTrees).get and .put.
-/
import Derived.Test.YbulkavsoRout
import Derived.WideMake
import Derived.Maps.RangeRun
namespace Go.Proofs.Ybulkavso
open Go.RowKit

theorem lookup_nil (w : World) (s : ByteArray) : (Instr.lookup 30 (.map none) (.string s) false).run Yba.prog w = .ok (.pointer none) w := by
  have hc : (Instr.checkKey true 10000 9 (.string s)).run Yba.prog w = .ok () w := MapKept.run_checkKey (k := .string s) Yba.underlying9 (by simp [MapKept.IsKey]) true 9999
  have hf : Instr.findNow .string (.string s) ([] : List MapEntry) 0 = some none := rfl
  simp [Instr.lookup, run_underlying Yba.underlying30, hc, MapKept.run_findKey Yba.underlying9 hf, Result.andThen]

theorem lookup_one (w : World) (s : ByteArray) (v : Value) (mb : Nat) (h : w.heap[mb]? = some (.map #[⟨.string s, v, 0⟩] 1)) : (Instr.lookup 30 (.map (some mb)) (.string s) false).run Yba.prog w = .ok v w := by
  have hc : (Instr.checkKey false 10000 9 (.string s)).run Yba.prog w = .ok () w := MapKept.run_checkKey (k := .string s) Yba.underlying9 (by simp [MapKept.IsKey]) false 9999
  have hf : Instr.findNow .string (.string s) [(⟨.string s, v, 0⟩ : MapEntry)] 0 = some (some (0, v)) := by
    have hb : (s == s) = true := (MapKept.bytes_beq s s).2 rfl
    simp [Instr.findNow, Instr.sameNow, hb]
  simp [Instr.lookup, run_underlying Yba.underlying30, MapKept.run_getObj_map h, hc, MapKept.run_findKey Yba.underlying9 hf, Result.andThen]

set_option maxRecDepth 100000 in
set_option maxHeartbeats 1000000 in
theorem get_any (w : World) (rt m : Nat) (root : Nat → Option Nat) (R : Nat → Tell) (F : Nat → Nat → Prop) (h : Rout w rt root R F) (hm : m < 5) (hm0 : ¬ m = 0) :
    Calls Yba.prog 12 #[.pointer (some ⟨rt, 4, none⟩), .string (meth m)] w fun e w' => e = .returned (ptrO (root m)) ∧ w' = w := by
  obtain ⟨c0, c1, c2, c3, ms, mo, h1, h2⟩ := h.obj
  clear h
  have k5 : w.cell? ⟨rt, 5, none⟩ = some (ptrO (root 1)) := by simp [World.cell?, h1, rcells]
  have k7 : w.cell? ⟨rt, 7, none⟩ = some (ptrO (root 2)) := by simp [World.cell?, h1, rcells]
  have k15 : w.cell? ⟨rt, 15, none⟩ = some (ptrO (root 3)) := by simp [World.cell?, h1, rcells]
  have k22 : w.cell? ⟨rt, 22, none⟩ = some (.map mo) := by simp [World.cell?, h1, rcells]
  clear h1
  have hr : m = 1 ∨ m = 2 ∨ m = 3 ∨ m = 4 := by omega
  rcases hr with rfl | rfl | rfl | rfl
  · have HK1 : Hid (Calls Yba.prog 24 #[.string (meth 1)] w fun e w' => e = .returned (.int .i64 0) ∧ w' = w) := known_any 1 hm w
    go_enter Yba.func12, Yba.ntmps12
    go_wp2_with (go_at_call 24; refine HK1.out.mono ?_; rintro e w' ⟨rfl, rfl⟩)
    go_ret
    exact ⟨rfl, rfl⟩
  · have HK2 : Hid (Calls Yba.prog 24 #[.string (meth 2)] w fun e w' => e = .returned (.int .i64 1) ∧ w' = w) := known_any 2 hm w
    go_enter Yba.func12, Yba.ntmps12
    go_wp2_with (go_at_call 24; refine HK2.out.mono ?_; rintro e w' ⟨rfl, rfl⟩)
    go_ret
    exact ⟨rfl, rfl⟩
  · have HK3 : Hid (Calls Yba.prog 24 #[.string (meth 3)] w fun e w' => e = .returned (.int .i64 5) ∧ w' = w) := known_any 3 hm w
    go_enter Yba.func12, Yba.ntmps12
    go_wp2_with (go_at_call 24; refine HK3.out.mono ?_; rintro e w' ⟨rfl, rfl⟩)
    go_ret
    exact ⟨rfl, rfl⟩
  · have hl : (Instr.lookup 30 (.map mo) (.string (meth 4)) false).run Yba.prog w = .ok (ptrO (root 4)) w := by
      rcases h2 with ⟨e1, rfl⟩ | ⟨b, mb, e1, rfl, e3⟩
      · rw [e1]; exact lookup_nil w _
      · rw [e1]; exact lookup_one w _ _ mb e3
    have HK4 : Hid (Calls Yba.prog 24 #[.string (meth 4)] w fun e w' => e = .returned (.int .i64 (-1)) ∧ w' = w) := known_any 4 hm w
    go_enter Yba.func12, Yba.ntmps12
    go_wp2_with (go_at_call 24; refine HK4.out.mono ?_; rintro e w' ⟨rfl, rfl⟩)
    go_ret
    exact ⟨rfl, rfl⟩

/-- The roots with a new one for m. -/
def setRoot (root : Nat → Option Nat) (m b : Nat) : Nat → Option Nat := fun j => if j = m then some b else root j

/-- What put comes to. -/
def PutOk (w w' : World) (rt m b : Nat) (root : Nat → Option Nat) : Prop :=
  Upd w w' (fun x => x = rt) ∧ ∃ c0 c1 c2 c3 ms mo, w'.heap[rt]? = some (.cells (rcells c0 c1 c2 c3 ms (setRoot root m b) mo) 34) ∧ MapIs w' mo (setRoot root m b 4)

theorem Upd.set {w w' : World} {rt : Nat} (h : Upd w w' (fun x => x = rt)) (o : Nat) (v : Value) : Upd w (w'.setCell ⟨rt, o, none⟩ v) (fun x => x = rt) :=
  ⟨h.os, h.tape, h.output, by simpa using h.size, fun x hx hn => (heap_set_other _ hn).trans (h.block x hx hn)⟩

theorem put_known {w : World} {rt m b o : Nat} {root : Nat → Option Nat} {c0 c1 c2 c3 : Value} {ms : Nat → ByteArray} {mo : Option Nat} (h1 : w.heap[rt]? = some (.cells (rcells c0 c1 c2 c3 ms root mo) 34)) (h2 : MapIs w mo (root 4)) (hm : (m = 1 ∧ o = 4) ∨ (m = 2 ∧ o = 6) ∨ (m = 3 ∧ o = 14)) (s : ByteArray) :
    PutOk w ((w.setCell ⟨rt, o, none⟩ (.string s)).setCell ⟨rt, o + 1, none⟩ (.pointer (some ⟨b, 0, none⟩))) rt m b root := by
  refine ⟨((Upd.refl w _).set _ _).set _ _, c0, c1, c2, c3, fun j => if j = m then s else ms j, mo, ?_, ?_⟩
  · rw [heap_set_same (heap_set_same h1 _) _]
    rcases hm with ⟨rfl, rfl⟩ | ⟨rfl, rfl⟩ | ⟨rfl, rfl⟩ <;> simp [rcells, setRoot, ptrO]
  · have h4 : setRoot root m b 4 = root 4 := by rcases hm with ⟨rfl, rfl⟩ | ⟨rfl, rfl⟩ | ⟨rfl, rfl⟩ <;> rfl
    rw [h4]
    refine h2.move (fun x _ hc => ?_)
    have hx : x ≠ rt := fun e => hc ⟨_, _, e ▸ h1⟩
    rw [heap_set_other _ hx, heap_set_other _ hx]

theorem put_map {w : World} {rt b : Nat} {root : Nat → Option Nat} {c0 c1 c2 c3 : Value} {ms : Nat → ByteArray} (h1 : w.heap[rt]? = some (.cells (rcells c0 c1 c2 c3 ms root none) 34)) (W : World) (hW : W = (w.setCell ⟨rt, 22, none⟩ (.map (some w.heap.size))).alloc (.map #[] 0)) :
    (Instr.mapUpdate 30 (.map (some w.heap.size)) (.string (meth 4)) (.pointer (some ⟨b, 0, none⟩))).run Yba.prog W = .ok () { W with heap := W.heap.setIfInBounds w.heap.size (.map #[⟨.string ⟨#[88]⟩, .pointer (some ⟨b, 0, none⟩), 0⟩] 1) } ∧
      PutOk w { W with heap := W.heap.setIfInBounds w.heap.size (.map #[⟨.string ⟨#[88]⟩, .pointer (some ⟨b, 0, none⟩), 0⟩] 1) } rt 4 b root := by
  have hrt : rt < w.heap.size := (Array.getElem?_eq_some_iff.1 h1).1
  have hn : W.heap[w.heap.size]? = some (.map #[] 0) := by
    rw [hW]
    have := heap_alloc_new (w.setCell ⟨rt, 22, none⟩ (.map (some w.heap.size))) (.map #[] 0)
    simpa using this
  have hsz : W.heap.size = w.heap.size + 1 := by rw [hW]; simp
  have hold : ∀ x, x < w.heap.size → x ≠ rt → W.heap[x]? = w.heap[x]? := fun x hx hne => by
    rw [hW]
    exact (heap_alloc_old _ _ (by simpa using hx)).trans (heap_set_other _ hne)
  refine ⟨run_mapUpdate_first W 30 9 26 w.heap.size 0 _ _ Yba.underlying30 Yba.underlying9 hn, ⟨by rw [hW]; rfl, by rw [hW]; rfl, by rw [hW]; rfl, by simp [hsz], fun x hx hne => ?_⟩, c0, c1, c2, c3, ms, some w.heap.size, ?_, ?_⟩
  · show (W.heap.setIfInBounds _ _)[x]? = _
    rw [Array.getElem?_setIfInBounds_ne (by omega)]
    exact hold x hx hne
  · show (W.heap.setIfInBounds _ _)[rt]? = _
    rw [Array.getElem?_setIfInBounds_ne (by omega), hW, heap_alloc_old _ _ (by simpa using hrt), heap_set_same h1]
    simp [rcells, setRoot, ptrO]
  · refine .inr ⟨b, w.heap.size, rfl, rfl, ?_⟩
    show (W.heap.setIfInBounds _ _)[w.heap.size]? = _
    rw [Array.getElem?_setIfInBounds_self_of_lt (by omega)]

set_option maxRecDepth 100000 in
set_option maxHeartbeats 1000000 in
theorem put_any (w : World) (rt m b : Nat) (root : Nat → Option Nat) (R : Nat → Tell) (F : Nat → Nat → Prop) (h : Rout w rt root R F) (hm : m < 5) (hm0 : ¬ m = 0) (hno : root m = none) :
    Calls Yba.prog 22 #[.pointer (some ⟨rt, 4, none⟩), .string (meth m), .pointer (some ⟨b, 0, none⟩)] w fun e w' => (∃ v, e = .returned v) ∧ PutOk w w' rt m b root := by
  obtain ⟨c0, c1, c2, c3, ms, mo, h1, h2⟩ := h.obj
  have hrt := h.lt
  clear h
  have H1 := hide h1
  have k4 : w.cell? ⟨rt, 4, none⟩ = some (.string (ms 1)) := by simp [World.cell?, h1, rcells]
  have k5 : w.cell? ⟨rt, 5, none⟩ = some (ptrO (root 1)) := by simp [World.cell?, h1, rcells]
  have k6 : w.cell? ⟨rt, 6, none⟩ = some (.string (ms 2)) := by simp [World.cell?, h1, rcells]
  have k7 : w.cell? ⟨rt, 7, none⟩ = some (ptrO (root 2)) := by simp [World.cell?, h1, rcells]
  have k14 : w.cell? ⟨rt, 14, none⟩ = some (.string (ms 3)) := by simp [World.cell?, h1, rcells]
  have k15 : w.cell? ⟨rt, 15, none⟩ = some (ptrO (root 3)) := by simp [World.cell?, h1, rcells]
  have k22 : w.cell? ⟨rt, 22, none⟩ = some (.map mo) := by simp [World.cell?, h1, rcells]
  have f4 : w.frozen? ⟨rt, 4, none⟩ = false := not_frozen h1 (.inl rfl) (by simp [rcells])
  have f5 : w.frozen? ⟨rt, 5, none⟩ = false := not_frozen h1 (.inl rfl) (by simp [rcells])
  have f6 : w.frozen? ⟨rt, 6, none⟩ = false := not_frozen h1 (.inl rfl) (by simp [rcells])
  have f7 : w.frozen? ⟨rt, 7, none⟩ = false := not_frozen h1 (.inl rfl) (by simp [rcells])
  have f14 : w.frozen? ⟨rt, 14, none⟩ = false := not_frozen h1 (.inl rfl) (by simp [rcells])
  have f15 : w.frozen? ⟨rt, 15, none⟩ = false := not_frozen h1 (.inl rfl) (by simp [rcells])
  have f22 : w.frozen? ⟨rt, 22, none⟩ = false := not_frozen h1 (.inl rfl) (by simp [rcells])
  clear h1
  have hr : m = 1 ∨ m = 2 ∨ m = 3 ∨ m = 4 := by omega
  rcases hr with rfl | rfl | rfl | rfl
  · have HP := hide (put_known (b := b) H1.out h2 (.inl ⟨rfl, rfl⟩) (meth 1))
    have HK : Hid (Calls Yba.prog 24 #[.string (meth 1)] w fun e w' => e = .returned (.int .i64 0) ∧ w' = w) := known_any 1 hm w
    clear h2 hno
    go_enter Yba.func22, Yba.ntmps22
    go_wp2_with (go_at_call 24; refine HK.out.mono ?_; rintro e w' ⟨rfl, rfl⟩)
    refine bodyPost_ret (results_none rfl _ _ _) rfl ?_
    exact ⟨⟨_, rfl⟩, HP.out⟩
  · have HP := hide (put_known (b := b) H1.out h2 (.inr (.inl ⟨rfl, rfl⟩)) (meth 2))
    have HK : Hid (Calls Yba.prog 24 #[.string (meth 2)] w fun e w' => e = .returned (.int .i64 1) ∧ w' = w) := known_any 2 hm w
    clear h2 hno
    go_enter Yba.func22, Yba.ntmps22
    go_wp2_with (go_at_call 24; refine HK.out.mono ?_; rintro e w' ⟨rfl, rfl⟩)
    refine bodyPost_ret (results_none rfl _ _ _) rfl ?_
    exact ⟨⟨_, rfl⟩, HP.out⟩
  · have HP := hide (put_known (b := b) H1.out h2 (.inr (.inr ⟨rfl, rfl⟩)) (meth 3))
    have HK : Hid (Calls Yba.prog 24 #[.string (meth 3)] w fun e w' => e = .returned (.int .i64 5) ∧ w' = w) := known_any 3 hm w
    clear h2 hno
    go_enter Yba.func22, Yba.ntmps22
    go_wp2_with (go_at_call 24; refine HK.out.mono ?_; rintro e w' ⟨rfl, rfl⟩)
    refine bodyPost_ret (results_none rfl _ _ _) rfl ?_
    exact ⟨⟨_, rfl⟩, HP.out⟩
  · have HK : Hid (Calls Yba.prog 24 #[.string (meth 4)] w fun e w' => e = .returned (.int .i64 (-1)) ∧ w' = w) := known_any 4 hm w
    obtain rfl : mo = none := by
      rcases h2 with ⟨_, e⟩ | ⟨b', mb, e, _⟩
      · exact e
      · rw [hno] at e; cases e
    obtain ⟨hup, hP⟩ := put_map (b := b) H1.out _ rfl
    have HP := hide hP
    have hmm := @run_makeMap Yba.prog
    have heq : ∀ wx, (binOp .eql 30 (.map none) (.map none)).run Yba.prog wx = .ok (.bool true) wx := fun wx => run_eql_map_nil wx 30 9 26 none Yba.underlying30
    clear h2 hno hP
    go_enter Yba.func22, Yba.ntmps22
    go_wp2_with (go_at_call 24; refine HK.out.mono ?_; rintro e w' ⟨rfl, rfl⟩)
    go_end0
    exact ⟨⟨_, rfl⟩, HP.out⟩

end Go.Proofs.Ybulkavso
