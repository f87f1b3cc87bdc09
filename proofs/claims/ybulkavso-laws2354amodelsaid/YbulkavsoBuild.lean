/-
  zzs2354bbuild: the walk.
-/
import Derived.Test.YbulkavsoSt
import Derived.Test.YbulkavsoWord
import Derived.WalkSpells
namespace Go.Proofs.Ybulkavso
open Go.RowKit

/-- What insert does (YbulkavsoInsert.lean). -/
def InsertLaw : Prop := ∀ (n rb : Nat) (S : ByteArray → Nat → Prop) (F : Nat → Prop) (T : ByteArray) (C : Nat) (w : World), Tri n w rb 0 S F → (∃ cs : Array Value, w.heap[rb]? = some (.cells cs 83)) → ¬ F rb → (∀ x, F x → x < w.heap.size) →
    (∀ t c, S t c → Clean t.data.toList) → Clean T.data.toList → T.size ≤ 256 → (∀ c, ¬ S T c) → (∀ t c, S t c → t.size ≤ 256) →
    Calls Yba.prog 26 #[.pointer (some ⟨rb, 0, none⟩), .agg #[.pointer none, .string T, .pointer (some ⟨C, 0, none⟩)]] w fun e w' => e = .returned (.tuple #[]) ∧ Good (w.alloc (.cells #[.pointer none, .string T, .pointer (some ⟨C, 0, none⟩)] 83)) w' rb S F T C

/-- The state of the builder: vt, vx, vk: the trie, the texts, the children. -/
def Built (w0 w : World) (vt vx vk : Value) (X : List ByteArray) (K : List Nat) : Prop :=
  X.length = K.length ∧ X.Nodup ∧ (∀ x ∈ X, Clean x.data.toList ∧ x.size ≤ 256) ∧
    ((X = [] ∧ vt = .pointer none ∧ vx = .slice none 0 0 ∧ vk = .slice none 0 0 ∧ Below w0.heap.size w0 w) ∨ ∃ rb, vt = .pointer (some ⟨rb, 0, none⟩) ∧ X ≠ [] ∧ Held w0 w rb vx vk (Pairs X K) X K)

theorem Built.later {w0 w w' : World} {vt vx vk : Value} {X : List ByteArray} {K : List Nat} (h : Built w0 w vt vx vk X K) (hb : Below w.heap.size w w') : Built w0 w' vt vx vk X K := by
  obtain ⟨h1, h2, h3, h4⟩ := h
  refine ⟨h1, h2, h3, ?_⟩
  rcases h4 with ⟨e1, e2, e3, e4, e5⟩ | ⟨rb, e1, e2, e3⟩
  · exact .inl ⟨e1, e2, e3, e4, e5.trans (hb.mono e5.size)⟩
  · exact .inr ⟨rb, e1, e2, e3.later hb⟩

theorem Built.below {w0 w : World} {vt vx vk : Value} {X : List ByteArray} {K : List Nat} (h : Built w0 w vt vx vk X K) : Below w0.heap.size w0 w := by
  obtain ⟨h1, h2, h3, h4⟩ := h
  rcases h4 with ⟨e1, e2, e3, e4, e5⟩ | ⟨rb, e1, e2, e3⟩
  · exact e5
  · exact e3.1

/-- The row of texts as a loop reads it. -/
theorem Built.row {w0 w : World} {vt vx vk : Value} {X : List ByteArray} {K : List Nat} (h : Built w0 w vt vx vk X K) :
    ∃ (a : Option Addr) (cap : Nat), vx = .slice a X.length cap ∧ (0 < X.length → ∃ g, a = some ⟨g, 0, none⟩ ∧ ∀ j, (hj : j < X.length) → w.cell? ⟨g, j, none⟩ = some (.string X[j])) := by
  obtain ⟨h1, h2, h3, h4⟩ := h
  rcases h4 with ⟨e1, e2, e3, e4, e5⟩ | ⟨rb, e1, e2, e3⟩
  · subst e1
    exact ⟨none, 0, e3, fun h => by simp at h⟩
  · have hp : 0 < X.length := List.length_pos_iff.2 e2
    obtain ⟨g, cap, rfl, _, _⟩ := e3.2.1.form hp
    refine ⟨_, cap, rfl, fun _ => ⟨g, rfl, fun j hj => ?_⟩⟩
    rw [e3.2.1.cellAt j (by omega)]
    simp [hj]

theorem Built.krow {w0 w : World} {vt vx vk : Value} {X : List ByteArray} {K : List Nat} (h : Built w0 w vt vx vk X K) :
    ∃ (a : Option Addr) (cap : Nat), vk = .slice a K.length cap ∧ (0 < K.length → ∃ g, a = some ⟨g, 0, none⟩ ∧ ∀ j, (hj : j < K.length) → w.cell? ⟨g, j, none⟩ = some (.pointer (some ⟨K[j], 0, none⟩))) := by
  obtain ⟨h1, h2, h3, h4⟩ := h
  rcases h4 with ⟨e1, e2, e3, e4, e5⟩ | ⟨rb, e1, e2, e3⟩
  · subst e1
    have : K = [] := List.length_eq_zero_iff.1 (by simpa using h1.symm)
    subst this
    exact ⟨none, 0, e4, fun h => by simp at h⟩
  · have hp : 0 < X.length := List.length_pos_iff.2 e2
    obtain ⟨g, cap, rfl, _, _⟩ := e3.2.2.1.form (by omega)
    refine ⟨_, cap, rfl, fun _ => ⟨g, rfl, fun j hj => ?_⟩⟩
    rw [e3.2.2.1.cellAt j (by omega)]
    simp [ptrs, hj]

theorem info9 : (Yba.prog.info? 9).map (fun i => (i.zero, i.size, i.bytes)) = some (some (.string ⟨#[]⟩), 1, 16) := by kernel_rfl
theorem info26 : (Yba.prog.info? 26).map (fun i => (i.zero, i.size, i.bytes)) = some (some (.pointer none), 1, 8) := by kernel_rfl

theorem str_eq_t {a b : ByteArray} (h : a = b) : (a.toList == b.toList) = true := by subst h; simp
theorem str_eq_f {a b : ByteArray} (h : a ≠ b) : (a.toList == b.toList) = false := by
  rw [beq_eq_false_iff_ne]
  intro e
  rw [ByteArray.toList_eq, ByteArray.toList_eq] at e
  exact h (Go.WideShapes.bytes_inj e)

/-- The one new cell that append lays for its operand. -/
theorem lone (w : World) (v : Value) (t : TypeId) : ∀ j u, [v][j]? = some u → (w.alloc (.cells #[v] t)).cell? ((⟨w.heap.size, 0, none⟩ : Addr).add j) = some u := by
  intro j u hj
  match j, hj with
  | 0, hj => simp at hj; subst hj; simp [Addr.add]
theorem lone3 (w : World) (v : Value) (t : TypeId) (n : Nat) (hn : w.heap.size = n) : ∀ j u, [v][j]? = some u → (w.alloc (.cells #[v] t)).cell? ((⟨n, 0, none⟩ : Addr).add j) = some u := by
  subst hn
  exact lone w v t
theorem lone1 {v : Value} (h : v.oneCell' = true) : ∀ u ∈ [v], u.oneCell' = true := by
  intro u hu
  simp at hu
  subst hu
  exact h
theorem len_ok {n : Nat} (h : n ≤ 256) : n + 1 ≤ maxLen := by unfold maxLen; omega
theorem len_ok2 {n b : Nat} (h : n ≤ 256) (hb : b ≤ 16) : (n + 1) * b ≤ 140737488355328 :=
  Nat.le_trans (Nat.mul_le_mul (Nat.add_le_add_right h 1) hb) (by decide)

theorem nodup_more {X : List ByteArray} {T : ByteArray} (h : X.Nodup) (hT : T ∉ X) : (X ++ [T]).Nodup := by
  rw [List.nodup_append]
  refine ⟨h, by simp, ?_⟩
  intro a ha b hb e
  simp at hb
  subst hb e
  exact hT ha
theorem all_more {p : ByteArray → Prop} {X : List ByteArray} {T : ByteArray} (h : ∀ x ∈ X, p x) (hT : p T) : ∀ x ∈ X ++ [T], p x := by
  intro x hx
  rcases List.mem_append.1 hx with h' | h'
  · exact h x h'
  · simp at h'
    subst h'
    exact hT

/-- The letters of the texts. -/
theorem tab_clean (T : ByteArray) (h : ∀ x ∈ T.data.toList, x ∈ (⟨#[97, 98, 46, 0, 255, 122]⟩ : ByteArray).data.toList) : Clean T.data.toList := by
  intro x hx
  have := h x hx
  simp at this
  rcases this with rfl | rfl | rfl | rfl | rfl | rfl <;> decide

set_option maxRecDepth 100000 in
set_option maxHeartbeats 2000000 in
theorem build_any (hins : InsertLaw) (a : Option Addr) (len cap : Nat) (A : Nat → Option Addr) (L C : Nat → Nat) (z : Nat → Nat → Nat) (w0 : World) (hs : Short len L) (hm : MatIn w0 a len A L C z) :
    Calls Yba.prog 15 #[.slice a len cap] w0 fun e w' => ∃ vt vx vk X K, e = .returned (.tuple #[vt, vx, vk]) ∧ Built w0 w' vt vx vk X K ∧ X.length ≤ 256 := by
  have HM := hideIt hm
  have HS := hideIt hs
  have HI := hideIt hins
  have hlen := hs.1
  clear hm hs hins
  go_enter Yba.func15, Yba.ntmps15
  go_wp2_with fail
  go_loopw [5, 6, 7, 18] (fun vx vk vt v wr => ∃ (i : Nat) (X : List ByteArray) (K : List Nat), i ≤ len ∧ v = .int .i64 i ∧ X.length ≤ i ∧ Built w0 wr vt vx vk X K) (fun _ _ _ v _ => len - (intOf v).toNat)
  case atStart => exact ⟨0, [], [], Nat.zero_le _, rfl, Nat.le_refl _, rfl, List.nodup_nil, fun _ h => by simp at h, .inl ⟨rfl, rfl, rfl, rfl, Below.refl _ _⟩⟩
  case round =>
    obtain ⟨i, X, K, hi, rfl, hX, hbt⟩ := hrel
    have HBT := hideIt hbt
    clear hbt
    by_cases hlt : i < len
    · obtain ⟨b, off, rfl, hb, hc⟩ := HM.out (by omega)
      obtain ⟨hcell, _, hrow⟩ := hc i hlt
      have hcw : wr.cell? ⟨b, off + i, none⟩ = some (.slice (A i) (L i) (C i)) := (HBT.out.below.cell (by exact hb)).trans hcell
      have HROW : Hid (RowIn wr (A i) (L i) (z i)) := hrow.below HBT.out.below
      have hLi := HS.out.2 i hlt
      clear hc hcell hrow
      generalize A i = Ai at *
      generalize L i = Li at *
      generalize C i = Ci at *
      generalize z i = zi at *
      obtain ⟨ax, cx, rfl, hxr⟩ := HBT.out.row
      have hX256 : X.length ≤ 256 := by omega
      go_wp2_with (go_at_call 17; refine (word_any Ai Li Ci _ zi _ hLi (by decide) (by decide) HROW.out).mono ?_; rintro e w1 ⟨T, rfl, hT, hTt, hbel⟩)
      have HTC := hideIt (tab_clean T hTt)
      have HB1 := hideIt (HBT.out.later hbel)
      have hT256 : T.size ≤ 256 := by omega
      clear hTt hcw hxr HROW
      go_loopw [11, 26] (fun d v wx => ∃ j : Nat, d = .bool false ∧ v = .int .i64 j ∧ j ≤ X.length ∧ (∀ (m : Nat) (hm : m < X.length), m < j → X[m] ≠ T) ∧ wx = w1) (fun _ v _ => X.length - (intOf v).toNat)
      case atStart => exact ⟨0, rfl, rfl, Nat.zero_le _, fun m _ hm => by omega, rfl⟩
      case round =>
        obtain ⟨j, rfl, rfl, hj, hno, rfl⟩ := hrel
        have HNO := hideIt hno
        clear hno
        by_cases hjl : j < X.length
        · obtain ⟨ax', cx', hax, hxr⟩ := HB1.out.row
          simp only [Value.slice.injEq, true_and] at hax
          obtain ⟨rfl, rfl⟩ := hax
          obtain ⟨gx, rfl, hcx⟩ := hxr (by omega)
          have hcj := hcx j hjl
          clear hcx hxr
          by_cases heq : X[j] = T
          · have hq : (X[j].toList == T.toList) = true := str_eq_t heq
            go_wp2_with fail
            go_roundw
            case rel => exact ⟨i + 1, X, K, by omega, by go_num, by omega, HB1.out⟩
            case measure => simp [intOf]; omega
          · have hq : (X[j].toList == T.toList) = false := str_eq_f heq
            go_wp2_with fail
            go_roundw
            case rel =>
              refine ⟨j + 1, rfl, by go_num, by omega, fun m hm hmj => ?_, ?_⟩
              · rcases Nat.lt_or_ge m j with h | h
                · exact HNO.out m hm h
                · obtain rfl : m = j := by omega
                  exact heq
              · trivial
            case measure => simp [intOf]; omega
        · obtain rfl : j = X.length := by omega
          have HNEW : Hid (T ∉ X) := fun hmem => by
            obtain ⟨m, hm, e⟩ := List.mem_iff_getElem.1 hmem
            exact HNO.out m hm hm e
          clear HNO
          obtain ⟨hb1, hb2, hb3, hb4⟩ := HB1.out
          have HB2 := hideIt hb2
          have HB3 := hideIt hb3
          have HBL := hideIt hb1
          clear hb1 hb2 hb3
          rcases hb4 with ⟨rfl, rfl, e3, rfl, hbel0⟩ | ⟨rb, rfl, hne, hheld⟩
          · obtain rfl : K = [] := List.length_eq_zero_iff.1 (by simpa using HBL.out.symm)
            simp only [Value.slice.injEq] at e3
            obtain ⟨rfl, -, rfl⟩ := e3
            have HBE := hideIt hbel0
            clear hbel0
            have hbs := HBE.out.size
            have HH : Hid (Held w0 (((wr.alloc (.cells #[.pointer none, .pointer none, .pointer none, .pointer none] 54)).alloc (.cells #[.pointer none, .string T, .pointer (some ⟨wr.heap.size, 0, none⟩)] 83)).alloc (.cells #[.pointer none, .string T, .pointer (some ⟨wr.heap.size, 0, none⟩)] 83)) (wr.heap.size + 2) (.slice none 0 0) (.slice none 0 0) (fun t c => t = T ∧ c = wr.heap.size) [] []) :=
              Held.first (((HBE.out.alloc hbs _).alloc (by simp; omega) _).alloc (by simp; omega) _) (by omega)
                (by have := heap_alloc_new ((wr.alloc (.cells #[.pointer none, .pointer none, .pointer none, .pointer none] 54)).alloc (.cells #[.pointer none, .string T, .pointer (some ⟨wr.heap.size, 0, none⟩)] 83)) (.cells #[.pointer none, .string T, .pointer (some ⟨wr.heap.size, 0, none⟩)] 83); simpa using this)
            have HLF : Hid ((((wr.alloc (.cells #[.pointer none, .pointer none, .pointer none, .pointer none] 54)).alloc (.cells #[.pointer none, .string T, .pointer (some ⟨wr.heap.size, 0, none⟩)] 83)).alloc (.cells #[.pointer none, .string T, .pointer (some ⟨wr.heap.size, 0, none⟩)] 83)).heap[wr.heap.size + 1]? = some (.cells #[.pointer none, .string T, .pointer (some ⟨wr.heap.size, 0, none⟩)] 83)) :=
              (Below.heap_alloc _ _ _ (by simp)).trans (by have := heap_alloc_new (wr.alloc (.cells #[.pointer none, .pointer none, .pointer none, .pointer none] 54)) (.cells #[.pointer none, .string T, .pointer (some ⟨wr.heap.size, 0, none⟩)] 83); simpa using this)
            obtain ⟨i9, hi9, hz9, hs9, hb9⟩ := info_parts info9
            obtain ⟨i26, hi26, hz26, hs26, hb26⟩ := info_parts info26
            have HH1 := hideIt (HH.out.later (Below.alloc (Below.refl _ _) (Nat.le_refl _) (.cells #[.string T] 9)))
            have HLF1 := hideIt ((Below.heap_alloc _ (.cells #[.string T] 9) _ (Array.getElem?_eq_some_iff.1 HLF.out).1).trans HLF.out)
            go_wp2_with (at_builtin; refine wpList_append_lies _ rfl (.tmp 45) (.tmp 47) 36 rfl w0.heap.size 9 i9 (.string ⟨#[]⟩) 1 16 Yba.underlying36 hi9 hz9 hs9 hb9 rfl (by decide) _ _ _ rfl HH1.out.2.1 ⟨wr.heap.size + 3, 0, none⟩ 1 1 [.string T] rfl rfl (lone3 _ _ _ _ (by simp)) (lone1 rfl) (by decide) (len_ok (by decide)) (len_ok2 (by decide) (by decide)) (by simp; omega) (wr.heap.size + 4) (by simp) ?_)
            intro g1 cap1 w5 hown1 hgrow1 hat1 hlt1
            obtain ⟨hh5, hlf5⟩ := HH1.out.texts hown1 hgrow1 (by simpa using hat1) HLF1.out
            have HH5 := hideIt hh5
            have l2 : w5.cell? ⟨wr.heap.size + 1, 2, none⟩ = some (.pointer (some ⟨wr.heap.size, 0, none⟩)) := by simp [World.cell?, hlf5]
            clear hown1 hgrow1 hat1 hlt1 hh5 hlf5 HH HH1 HLF HLF1
            have HH6 := hideIt (HH5.out.later (Below.alloc (Below.refl _ _) (Nat.le_refl _) (.cells #[.pointer (some ⟨wr.heap.size, 0, none⟩)] 26)))
            have hbs5 := HH5.out.1.size
            go_wp2_with (at_builtin; refine wpList_append_lies _ rfl (.tmp 49) (.tmp 52) 60 rfl w0.heap.size 26 i26 (.pointer none) 1 8 Yba.underlying60 hi26 hz26 hs26 hb26 rfl (by decide) _ _ _ rfl HH6.out.2.2.1 ⟨w5.heap.size, 0, none⟩ 1 1 [.pointer (some ⟨wr.heap.size, 0, none⟩)] rfl rfl (lone w5 _ _) (lone1 rfl) (by decide) (len_ok (by decide)) (len_ok2 (by decide) (by decide)) (by simp; omega) (w5.heap.size + 1) (by simp) ?_)
            intro g2 cap2 w6 hown2 hgrow2 hat2 hlt2
            have HH7 := hideIt (HH6.out.kids hown2 hgrow2 (by simpa using hat2))
            clear hown2 hgrow2 hat2 hlt2 HH5 HH6 l2
            go_wp2_with fail
            go_roundw
            case rel => exact ⟨i + 1, [T], [wr.heap.size], by omega, by go_num, by simp, rfl, by simp, fun x hx => by simp at hx; subst hx; exact ⟨HTC.out, hT256⟩, .inr ⟨_, rfl, by simp, HH7.out.congr (fun t c => pairs_one T wr.heap.size t c)⟩⟩
            case measure => simp [intOf]; omega
          · have HHE := hideIt hheld
            clear hheld
            go_wp2_with fail
            go_at_call 26
            obtain ⟨n3, F3, p1, p2, p3, p4, p5⟩ := HHE.out.pre (w3 := (wr.alloc (.cells #[.pointer none, .pointer none, .pointer none, .pointer none] 54)).alloc (.cells #[.pointer none, .string T, .pointer (some ⟨wr.heap.size, 0, none⟩)] 83))
              ((Below.alloc (Below.refl _ _) (Nat.le_refl _) _).alloc (by simp) _)
            refine (HI.out n3 rb (Pairs X K) F3 T wr.heap.size _ p1 p2 p3 p4 (fun t c ⟨m, hm, _⟩ => (HB3.out t (List.mem_of_getElem? hm)).1) HTC.out hT256 (fun c ⟨m, hm, _⟩ => HNEW.out (List.mem_of_getElem? hm)) (fun t c ⟨m, hm, _⟩ => (HB3.out t (List.mem_of_getElem? hm)).2)).mono ?_
            rintro e Wc ⟨rfl, hgood⟩
            obtain ⟨hh, hlf, hsz⟩ := p5 T wr.heap.size (wr.heap.size + 1) _ Wc hgood (by omega) (by simp)
            have HH := hideIt hh
            have HLF : Hid (Wc.heap[wr.heap.size + 1]? = some (.cells #[.pointer none, .string T, .pointer (some ⟨wr.heap.size, 0, none⟩)] 83)) := hlf.trans (by have := heap_alloc_new (wr.alloc (.cells #[.pointer none, .pointer none, .pointer none, .pointer none] 54)) (.cells #[.pointer none, .string T, .pointer (some ⟨wr.heap.size, 0, none⟩)] 83); simpa using this)
            clear hgood p1 p2 p3 p4 p5 hh hlf
            obtain ⟨i9, hi9, hz9, hs9, hb9⟩ := info_parts info9
            obtain ⟨i26, hi26, hz26, hs26, hb26⟩ := info_parts info26
            have HH1 := hideIt (HH.out.later (Below.alloc (Below.refl _ _) (Nat.le_refl _) (.cells #[.string T] 9)))
            have HLF1 : Hid ((Wc.alloc (.cells #[.string T] 9)).heap[wr.heap.size + 1]? = some (.cells #[.pointer none, .string T, .pointer (some ⟨wr.heap.size, 0, none⟩)] 83)) :=
              (Below.heap_alloc Wc _ _ (Array.getElem?_eq_some_iff.1 HLF.out).1).trans HLF.out
            have hbs := HH.out.1.size
            go_wp2_with (at_builtin; refine wpList_append_lies _ rfl (.tmp 45) (.tmp 47) 36 rfl w0.heap.size 9 i9 (.string ⟨#[]⟩) 1 16 Yba.underlying36 hi9 hz9 hs9 hb9 rfl (by decide) _ _ _ rfl HH1.out.2.1 ⟨Wc.heap.size, 0, none⟩ 1 1 [.string T] rfl rfl (lone Wc _ _) (lone1 rfl) (by decide) (len_ok hX256) (len_ok2 hX256 (by decide)) (by simp; omega) (Wc.heap.size + 1) (by simp) ?_)
            intro g1 cap1 w5 hown1 hgrow1 hat1 hlt1
            obtain ⟨hh5, hlf5⟩ := HH1.out.texts hown1 hgrow1 (by simpa using hat1) HLF1.out
            have HH5 := hideIt hh5
            have l2 : w5.cell? ⟨wr.heap.size + 1, 2, none⟩ = some (.pointer (some ⟨wr.heap.size, 0, none⟩)) := by simp [World.cell?, hlf5]
            clear hown1 hgrow1 hat1 hlt1 hh5 hlf5 HH HH1 HLF HLF1
            have HH6 := hideIt (HH5.out.later (Below.alloc (Below.refl _ _) (Nat.le_refl _) (.cells #[.pointer (some ⟨wr.heap.size, 0, none⟩)] 26)))
            have hbs5 := HH5.out.1.size
            have hK256 : K.length ≤ 256 := by have := HBL.out; omega
            go_wp2_with (at_builtin; refine wpList_append_lies _ rfl (.tmp 49) (.tmp 52) 60 rfl w0.heap.size 26 i26 (.pointer none) 1 8 Yba.underlying60 hi26 hz26 hs26 hb26 rfl (by decide) _ _ _ rfl HH6.out.2.2.1 ⟨w5.heap.size, 0, none⟩ 1 1 [.pointer (some ⟨wr.heap.size, 0, none⟩)] rfl rfl (lone w5 _ _) (lone1 rfl) (by decide) (len_ok hK256) (len_ok2 hK256 (by decide)) (by simp; omega) (w5.heap.size + 1) (by simp) ?_)
            intro g2 cap2 w6 hown2 hgrow2 hat2 hlt2
            have HH7 := hideIt (HH6.out.kids hown2 hgrow2 (by simpa using hat2))
            clear hown2 hgrow2 hat2 hlt2 HH5 HH6 l2
            have HND : Hid ((X ++ [T]).Nodup) := nodup_more HB2.out HNEW.out
            have HCL : Hid (∀ x ∈ X ++ [T], Clean x.data.toList ∧ x.size ≤ 256) := all_more HB3.out ⟨HTC.out, hT256⟩
            have HLL : Hid ((X ++ [T]).length = (K ++ [wr.heap.size]).length) := by have := HBL.out; show (X ++ [T]).length = _; simp; omega
            go_wp2_with fail
            go_roundw
            case rel => exact ⟨i + 1, X ++ [T], K ++ [wr.heap.size], by omega, by go_num, by simp; omega, HLL.out, HND.out, HCL.out, .inr ⟨rb, rfl, by simp, HH7.out.congr (fun t c => pairs_more HBL.out T wr.heap.size t c)⟩⟩
            case measure => simp [intOf]; omega
    · obtain rfl : i = len := by omega
      go_wp2_with fail
      go_ret3
      exact ⟨_, _, _, X, K, rfl, HBT.out, by omega⟩

end Go.Proofs.Ybulkavso
