/-
  (*node).addStatic and (*node).child.
-/
import Derived.Test.YbulkavsoNode
import Derived.Test.YbulkavsoEach
import Derived.Deep.RegionWith
namespace Go.Proofs.Ybulkavso
open Go.RowKit

theorem hide {p : Prop} (h : p) : Hid p := h

/-- What addStatic comes to. -/
def Added1 (w w' : World) (b d : Nat) (r : Option Nat) (Ch : Key → Nat → Prop) (F0 : Nat → Prop) (k : Key) : Prop :=
  Upd w w' F0 ∧ New w w' d ∧ w'.heap[d]? = some (.cells #[.pointer none, .pointer none, .pointer none, .pointer none] 54) ∧
    ∃ F0' : Nat → Prop, NodeObj w' b r (fun k' d' => Ch k' d' ∨ (k' = k ∧ d' = d)) F0' ∧ (∀ x, F0' x → F0 x ∨ New w w' x) ∧ ¬ F0' d

theorem kS_inj {t t' : ByteArray} (h : kS t = kS t') : t = t' := by
  simp [kS] at h
  exact h
theorem kS_kP (t : ByteArray) : kS t ≠ kP := by simp [kS, kP]
theorem kS_kC (t : ByteArray) : kS t ≠ kC := by simp [kS, kC]
theorem kP_kC : kP ≠ kC := by simp [kP, kC]

/-- A first text. -/
theorem added_first {w : World} {b : Nat} {r : Option Nat} {Ch : Key → Nat → Prop} {F0 : Nat → Prop} {pp cp : Option Nat} {T : ByteArray} (h0 : F0 b) (hlt : ∀ x, F0 x → x < w.heap.size)
    (h1 : w.heap[b]? = some (.cells #[ptrO r, ptrO none, ptrO pp, ptrO cp] 54)) (h2 : ∀ d, Ch kP d ↔ pp = some d) (h3 : ∀ d, Ch kC d ↔ cp = some d) (h4 : ∀ k d, Ch k d → k = kP ∨ k = kC ∨ ∃ t, k = kS t ∧ Clean t.data.toList ∧ t.size ≤ 256)
    (h5 : ∀ t d, ¬ Ch (kS t) d) (hT : Clean T.data.toList) (hT2 : T.size ≤ 256) :
    Added1 w (((w.alloc (.cells #[.pointer none, .pointer none, .pointer none, .pointer none] 54)).alloc (.cells #[.pointer none, .string T, .pointer (some ⟨w.heap.size, 0, none⟩)] 83)).setCell ⟨b, 1, none⟩ (.pointer (some ⟨w.heap.size + 1, 0, none⟩))) b w.heap.size r Ch F0 (kS T) := by
  have hb := hlt b h0
  have hsz : (((w.alloc (.cells #[.pointer none, .pointer none, .pointer none, .pointer none] 54)).alloc (.cells #[.pointer none, .string T, .pointer (some ⟨w.heap.size, 0, none⟩)] 83)).setCell ⟨b, 1, none⟩ (.pointer (some ⟨w.heap.size + 1, 0, none⟩))).heap.size = w.heap.size + 2 := by simp
  have hold : ∀ x, x < w.heap.size → ((w.alloc (.cells #[.pointer none, .pointer none, .pointer none, .pointer none] 54)).alloc (.cells #[.pointer none, .string T, .pointer (some ⟨w.heap.size, 0, none⟩)] 83)).heap[x]? = w.heap[x]? := fun x hx =>
    (Below.heap_alloc _ _ x (by simp; omega)).trans (Below.heap_alloc w _ x hx)
  have hn1 : ((w.alloc (.cells #[.pointer none, .pointer none, .pointer none, .pointer none] 54)).alloc (.cells #[.pointer none, .string T, .pointer (some ⟨w.heap.size, 0, none⟩)] 83)).heap[w.heap.size]? = some (.cells #[.pointer none, .pointer none, .pointer none, .pointer none] 54) :=
    (Below.heap_alloc _ _ _ (by simp)).trans (heap_alloc_new w _)
  have hn2 : ((w.alloc (.cells #[.pointer none, .pointer none, .pointer none, .pointer none] 54)).alloc (.cells #[.pointer none, .string T, .pointer (some ⟨w.heap.size, 0, none⟩)] 83)).heap[w.heap.size + 1]? = some (.cells #[.pointer none, .string T, .pointer (some ⟨w.heap.size, 0, none⟩)] 83) := by
    have := heap_alloc_new (w.alloc (.cells #[.pointer none, .pointer none, .pointer none, .pointer none] 54)) (.cells #[.pointer none, .string T, .pointer (some ⟨w.heap.size, 0, none⟩)] 83)
    simpa using this
  have hn3 : (((w.alloc (.cells #[.pointer none, .pointer none, .pointer none, .pointer none] 54)).alloc (.cells #[.pointer none, .string T, .pointer (some ⟨w.heap.size, 0, none⟩)] 83)).setCell ⟨b, 1, none⟩ (.pointer (some ⟨w.heap.size + 1, 0, none⟩))).heap[w.heap.size + 1]? = some (.cells #[.pointer none, .string T, .pointer (some ⟨w.heap.size, 0, none⟩)] 83) :=
    (heap_set_other _ (by omega)).trans hn2
  refine ⟨⟨rfl, rfl, rfl, by omega, fun x hx hxF => ?_⟩, ⟨Nat.le_refl _, by omega⟩, ?_, fun x => F0 x ∨ x = w.heap.size + 1, ⟨.inl h0, some (w.heap.size + 1), pp, cp, ?_, ?_, ?_, ?_, .inr ⟨w.heap.size + 1, 1, fun _ => False, rfl, ⟨#[.pointer none, .string T, .pointer (some ⟨w.heap.size, 0, none⟩)], ?_⟩, .inl ⟨T, w.heap.size, ⟨?_, ?_, ?_⟩, ?_⟩, fun h => h, .inr rfl, by omega, fun x h => h.elim⟩⟩, ?_, ?_⟩
  · have hxb : x ≠ b := by rintro rfl; exact hxF h0
    rw [heap_set_other _ hxb]
    exact hold x hx
  · rw [heap_set_other _ (by omega)]
    exact hn1
  · rw [heap_set_same ((hold b hb).trans h1)]
    rfl
  · intro d
    constructor
    · rintro (h | ⟨e, _⟩)
      · exact (h2 d).1 h
      · exact absurd e.symm (kS_kP T)
    · intro e; exact .inl ((h2 d).2 e)
  · intro d
    constructor
    · rintro (h | ⟨e, _⟩)
      · exact (h3 d).1 h
      · exact absurd e.symm (kS_kC T)
    · intro e; exact .inl ((h3 d).2 e)
  · rintro k d (h | ⟨rfl, _⟩)
    · exact h4 k d h
    · exact .inr (.inr ⟨T, rfl, hT, hT2⟩)
  · exact hn3
  · simp only [World.cell?, hn3]; rfl
  · simp only [World.cell?, hn3]; rfl
  · simp only [World.cell?, hn3]; rfl
  · intro t d
    constructor
    · rintro (h | ⟨e, rfl⟩)
      · exact absurd h (h5 t d)
      · exact ⟨kS_inj e, rfl⟩
    · rintro ⟨rfl, rfl⟩
      exact .inr ⟨rfl, rfl⟩
  · rintro x (h | rfl)
    · exact .inl h
    · exact .inr ⟨by omega, by omega⟩
  · rintro (h | h)
    · have := hlt _ h; omega
    · omega

/-- One text more. -/
theorem added_more {w w' : World} {b tb : Nat} {r : Option Nat} {Ch : Key → Nat → Prop} {F0 Ft : Nat → Prop} {pp cp : Option Nat} {T : ByteArray} {ob : Obj} {wx : World} (h0 : F0 b) (hlt : ∀ x, F0 x → x < w.heap.size)
    (h1 : w.heap[b]? = some (.cells #[ptrO r, ptrO (some tb), ptrO pp, ptrO cp] 54)) (h2 : ∀ d, Ch kP d ↔ pp = some d) (h3 : ∀ d, Ch kC d ↔ cp = some d) (h4 : ∀ k d, Ch k d → k = kP ∨ k = kC ∨ ∃ t, k = kS t ∧ Clean t.data.toList ∧ t.size ≤ 256)
    (e5 : F0 tb) (e6 : tb ≠ b) (e7 : ∀ x, Ft x → F0 x ∧ x ≠ b) (e4 : ¬ Ft tb) (hT : Clean T.data.toList) (hT2 : T.size ≤ 256)
    (hx : Drawn ((w.alloc (.cells #[.pointer none, .pointer none, .pointer none, .pointer none] 54)).alloc (.cells #[.pointer none, .string T, .pointer (some ⟨w.heap.size, 0, none⟩)] 83)) wx)
    (hg : Good (wx.alloc ob) w' tb (fun t d => Ch (kS t) d) Ft T w.heap.size) :
    Added1 w w' b w.heap.size r Ch F0 (kS T) ∧ w'.cell? ⟨w.heap.size + 1, 2, none⟩ = some (.pointer (some ⟨w.heap.size, 0, none⟩)) := by
  obtain ⟨hu, n', F', hT', hF'⟩ := hg
  have hxs : wx.heap.size = w.heap.size + 2 := by rw [hx.heap]; simp
  have has : (wx.alloc ob).heap.size = w.heap.size + 3 := by simp [hxs]
  have hus := hu.size
  have hb := hlt b h0
  have htb := hlt tb e5
  have keep : ∀ x, x < w.heap.size + 2 → x ≠ tb → ¬ Ft x → w'.heap[x]? = ((w.alloc (.cells #[.pointer none, .pointer none, .pointer none, .pointer none] 54)).alloc (.cells #[.pointer none, .string T, .pointer (some ⟨w.heap.size, 0, none⟩)] 83)).heap[x]? := fun x hx1 hx2 hx3 => by
    rw [hu.block x (by omega) hx2 hx3, Below.heap_alloc wx ob x (by omega), hx.heap]
  have keep1 : ∀ x, x < w.heap.size → x ≠ tb → ¬ Ft x → w'.heap[x]? = w.heap[x]? := fun x hx1 hx2 hx3 =>
    (keep x (by omega) hx2 hx3).trans ((Below.heap_alloc _ _ x (by simp; omega)).trans (Below.heap_alloc w _ x hx1))
  have hFt : ∀ x, Ft x → x < w.heap.size := fun x hx => hlt x (e7 x hx).1
  have hd : w'.heap[w.heap.size]? = some (.cells #[.pointer none, .pointer none, .pointer none, .pointer none] 54) :=
    (keep _ (by omega) (by omega) (fun e => by have := hFt _ e; omega)).trans ((Below.heap_alloc _ _ _ (by simp)).trans (heap_alloc_new w _))
  have hl : w'.heap[w.heap.size + 1]? = some (.cells #[.pointer none, .string T, .pointer (some ⟨w.heap.size, 0, none⟩)] 83) := by
    rw [keep _ (by omega) (by omega) (fun e => by have := hFt _ e; omega)]
    have := heap_alloc_new (w.alloc (.cells #[.pointer none, .pointer none, .pointer none, .pointer none] 54)) (.cells #[.pointer none, .string T, .pointer (some ⟨w.heap.size, 0, none⟩)] 83)
    simpa using this
  have hos : wx.os = w.os ∧ wx.tape = w.tape ∧ wx.output = w.output := by
    obtain ⟨m, rfl⟩ := hx
    exact ⟨rfl, rfl, rfl⟩
  refine ⟨⟨⟨hu.os.trans hos.1, hu.tape.trans hos.2.1, hu.output.trans hos.2.2, by omega, fun x hx1 hxF => keep1 x hx1 (fun e => hxF (e ▸ e5)) (fun e => hxF (e7 x e).1)⟩, ⟨Nat.le_refl _, by omega⟩, hd,
    fun x => F0 x ∨ (w.heap.size + 3 ≤ x ∧ x < w'.heap.size), ⟨.inl h0, some tb, pp, cp, (keep1 b hb (Ne.symm e6) (fun e => (e7 b e).2 rfl)).trans h1, ?_, ?_, ?_, .inr ⟨tb, n', F', rfl, ?_, hT'.congr ?_ (fun _ h => h), ?_, .inl e5, e6, ?_⟩⟩, ?_, ?_⟩, ?_⟩
  · intro d
    constructor
    · rintro (h | ⟨e, _⟩)
      · exact (h2 d).1 h
      · exact absurd e.symm (kS_kP T)
    · intro e; exact .inl ((h2 d).2 e)
  · intro d
    constructor
    · rintro (h | ⟨e, _⟩)
      · exact (h3 d).1 h
      · exact absurd e.symm (kS_kC T)
    · intro e; exact .inl ((h3 d).2 e)
  · rintro k d (h | ⟨rfl, _⟩)
    · exact h4 k d h
    · exact .inr (.inr ⟨T, rfl, hT, hT2⟩)
  · obtain ⟨_, cs', _, hc', _⟩ := hu.row
    exact ⟨cs', hc'⟩
  · intro t c
    constructor
    · rintro (h | ⟨e, rfl⟩)
      · exact .inl h
      · exact .inr ⟨kS_inj e, rfl⟩
    · rintro (h | ⟨rfl, rfl⟩)
      · exact .inl h
      · exact .inr ⟨rfl, rfl⟩
  · intro e
    rcases hF' tb e with h | h
    · exact e4 h
    · omega
  · intro x hx1
    rcases hF' x hx1 with h | h
    · exact ⟨.inl (e7 x h).1, (e7 x h).2⟩
    · exact ⟨.inr ⟨by omega, h.2⟩, by omega⟩
  · rintro x (h | h)
    · exact .inl h
    · exact .inr ⟨by omega, h.2⟩
  · rintro (h | h)
    · have := hlt _ h; omega
    · omega
  · simp [World.cell?, hl]

set_option maxRecDepth 100000 in
set_option maxHeartbeats 1000000 in
theorem addStatic_any (hins : InsertLaw) (b : Nat) (r : Option Nat) (Ch : Key → Nat → Prop) (F0 : Nat → Prop) (T : ByteArray) (w : World) (hobj : NodeObj w b r Ch F0) (hlt : ∀ x, F0 x → x < w.heap.size) (hT : Clean T.data.toList) (hT2 : T.size ≤ 256)
    (hno : ∀ c, ¬ Ch (kS T) c) : Calls Yba.prog 34 #[.pointer (some ⟨b, 0, none⟩), .string T] w fun e w' => ∃ d, e = .returned (.pointer (some ⟨d, 0, none⟩)) ∧ Added1 w w' b d r Ch F0 (kS T) := by
  obtain ⟨h0, sp, pp, cp, h1, h2, h3, h4, h5⟩ := hobj
  have HI := hide hins
  have H0 := hide h0
  have HLT := hide hlt
  have H1 := hide h1
  have H2 := hide h2
  have H3 := hide h3
  have H4 := hide h4
  have HT := hide hT
  have HNO := hide hno
  have hb : b < w.heap.size := hlt b h0
  have hb1 : b < w.heap.size + 1 := by omega
  have hb2 : b < w.heap.size + 2 := by omega
  have c1 : w.cell? ⟨b, 1, none⟩ = some (ptrO sp) := by simp [World.cell?, h1]
  have f1 : w.frozen? ⟨b, 1, none⟩ = false := by simp [World.frozen?, h1]
  clear hins h0 hlt h1 h2 h3 h4 hT hno
  rcases h5 with ⟨rfl, h5⟩ | ⟨tb, m, Ft, rfl, ⟨cs, e2⟩, e3, e4, e5, e6, e7⟩
  · have H5 := hide h5
    clear h5
    change w.cell? ⟨b, 1, none⟩ = some (.pointer none) at c1
    go_enter Yba.func34, Yba.ntmps34
    go_wp2_with fail
    go_ret
    have hadd := added_first H0.out HLT.out H1.out H2.out H3.out H4.out H5.out HT.out hT2
    rw [World.setCell_alloc_past _ _ _ _ (by simp; omega), World.setCell_alloc_past _ _ _ _ hb] at hadd
    exact ⟨_, rfl, hadd⟩
  · change w.cell? ⟨b, 1, none⟩ = some (.pointer (some ⟨tb, 0, none⟩)) at c1
    have HE2 := hide e2
    have HE3 := hide e3
    have HE4 := hide e4
    have HE5 := hide e5
    have HE6 := hide e6
    have HE7 := hide e7
    clear e2 e3 e4 e5 e6 e7
    have HC : Hid (∀ wx, Drawn ((w.alloc (.cells #[.pointer none, .pointer none, .pointer none, .pointer none] 54)).alloc (.cells #[.pointer none, .string T, .pointer (some ⟨w.heap.size, 0, none⟩)] 83)) wx →
        Calls Yba.prog 26 #[.pointer (some ⟨tb, 0, none⟩), .agg #[.pointer none, .string T, .pointer (some ⟨w.heap.size, 0, none⟩)]] wx fun e w' => e = .returned (.tuple #[]) ∧ Added1 w w' b w.heap.size r Ch F0 (kS T) ∧ w'.cell? ⟨w.heap.size + 1, 2, none⟩ = some (.pointer (some ⟨w.heap.size, 0, none⟩))) := by
      intro wx hx
      have hxs : wx.heap.size = w.heap.size + 2 := by rw [hx.heap]; simp
      have hold : ∀ x, x < w.heap.size → wx.heap[x]? = w.heap[x]? := fun x hxl => by
        rw [hx.heap]
        exact (Below.heap_alloc _ _ x (by simp; omega)).trans (Below.heap_alloc w _ x hxl)
      refine (HI.out m tb (fun t d => Ch (kS t) d) Ft T w.heap.size wx (Tri.move m HE3.out (fun j _ => cell_block (hold tb (HLT.out tb HE5.out)) _) (fun x hx => hold x (HLT.out x (HE7.out x hx).1)))
        ⟨cs, (hold tb (HLT.out tb HE5.out)).trans HE2.out⟩ HE4.out (fun x hx => by have := HLT.out x (HE7.out x hx).1; omega) ?_ HT.out hT2 HNO.out ?_).mono ?_
      · intro t c ht
        rcases H4.out _ _ ht with e | e | ⟨t', e, h, _⟩
        · exact absurd e (kS_kP t)
        · exact absurd e (kS_kC t)
        · rw [kS_inj e]; exact h
      · intro t c ht
        rcases H4.out _ _ ht with e | e | ⟨t', e, _, h⟩
        · exact absurd e (kS_kP t)
        · exact absurd e (kS_kC t)
        · rw [kS_inj e]; exact h
      · rintro e w' ⟨rfl, hg⟩
        exact ⟨rfl, added_more H0.out HLT.out H1.out H2.out H3.out H4.out HE5.out HE6.out HE7.out HE4.out HT.out hT2 hx hg⟩
    go_enter Yba.func34, Yba.ntmps34
    go_wp2_with fail
    go_region_with (go_at_call 26; refine (HC.out _ ?_).mono ?_; exact ⟨1, rfl⟩; rintro e w' ⟨rfl, hadd, hcc⟩)
    all_goals
      go_wp2_with fail
      go_ret
      exact ⟨_, rfl, hadd⟩

end Go.Proofs.Ybulkavso
