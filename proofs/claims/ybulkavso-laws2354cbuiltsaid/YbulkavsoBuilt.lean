/-
  LawS2354CBuilt: the walk.
-/
import Derived.Test.YbulkavsoRun
import Derived.Laws.BytesArg
namespace Go.Proofs.Ybulkavso
open Go.RowKit

theorem hid {p : Prop} (h : p) : Hid p := h

/-- The letter that the law's alphabet has at place m, and the byte that its list of others has there. -/
def alphaAt (m : Nat) : Int := (((⟨#[97, 98, 99, 122, 65, 90, 77, 121, 48, 57, 95, 53]⟩ : ByteArray).data.toList.getD m 0).toNat : Int)
def outsAt (m : Nat) : Int := (((⟨#[47, 58, 42, 46, 45, 64, 91, 96, 123, 32, 0, 128, 255]⟩ : ByteArray).data.toList.getD m 0).toNat : Int)

theorem alpha_all : ∀ m : Fin 12, nameB (alphaAt m.val) = true ∧ 0 ≤ alphaAt m.val ∧ alphaAt m.val ≤ 255 := by decide
theorem alpha_name (m : Nat) (h : m < 12) : nameB (alphaAt m) = true ∧ 0 ≤ alphaAt m ∧ alphaAt m ≤ 255 := alpha_all ⟨m, h⟩
theorem outs_all : ∀ m : Fin 13, nameB (outsAt m.val) = false ∧ 0 ≤ outsAt m.val ∧ outsAt m.val ≤ 255 := by decide
theorem outs_name (m : Nat) (h : m < 13) : nameB (outsAt m) = false ∧ 0 ≤ outsAt m ∧ outsAt m ≤ 255 := outs_all ⟨m, h⟩

theorem getD_at (s : ByteArray) (m : Nat) (h : m < s.size) : s.data.toList.getD m 0 = s[m] := by
  rw [List.getD, List.getElem?_eq_getElem (by simpa using h)]; rfl

theorem alpha_spelt (m : Nat) (h' : m < (⟨#[97, 98, 99, 122, 65, 90, 77, 121, 48, 57, 95, 53]⟩ : ByteArray).size) :
    alphaAt m = (((⟨#[97, 98, 99, 122, 65, 90, 77, 121, 48, 57, 95, 53]⟩ : ByteArray)[m]'h').toNat : Int) := by
  unfold alphaAt
  rw [getD_at _ _ h']

theorem outs_spelt (m : Nat) (h' : m < (⟨#[47, 58, 42, 46, 45, 64, 91, 96, 123, 32, 0, 128, 255]⟩ : ByteArray).size) :
    outsAt m = (((⟨#[47, 58, 42, 46, 45, 64, 91, 96, 123, 32, 0, 128, 255]⟩ : ByteArray)[m]'h').toNat : Int) := by
  unfold outsAt
  rw [getD_at _ _ h']

/-- The one new cell that 'append(b, x)' lays for x. -/
theorem one_new (wr : World) (v v' : Value) (t : TypeId) (h : v = v') : ∀ j u, [v][j]? = some u → (wr.alloc (.cells #[v'] t)).cell? ((⟨wr.heap.size, 0, none⟩ : Addr).add j) = some u := by
  subst h
  intro j u hj
  match j, hj with
  | 0, hj => simp at hj; subst hj; simp [Addr.add]

theorem one_cell (k : IntKind) (n : Int) : ∀ u ∈ [Value.int k n], u.oneCell' = true := by
  intro u hu
  simp at hu
  subst hu
  rfl

/-- The cells of an owned row of bytes. -/
theorem row_cells {w : World} {base g n cap : Nat} {xs : List Int} (h : w.ownsRow base 5 1 (.slice (some ⟨g, 0, none⟩) n cap) n (xs.map (Value.int .u8))) :
    xs.length = n ∧ ∀ i, i < n → w.cell? ⟨g, 0 + i, none⟩ = some (.int .u8 (xs.getD i 0)) := by
  have hl : xs.length = n := by have := h.1; simpa using this
  refine ⟨hl, fun i hi => ?_⟩
  rw [Nat.zero_add, h.cellAt i (by omega)]
  have : i < xs.length := by omega
  simp [List.getD, List.getElem?_eq_getElem this]

theorem row_lt {w : World} {base e n g cap : Nat} {xs : List Value} (h : w.ownsRow base e 1 (.slice (some ⟨g, 0, none⟩) n cap) n xs) : g < w.heap.size := by
  rcases h.2 with ⟨h', _⟩ | ⟨g', cap', cur, h', _, hg, _⟩
  · simp at h'
  · simp only [Value.slice.injEq, Option.some.injEq, Addr.mk.injEq, and_true, true_and] at h'
    obtain ⟨rfl, rfl⟩ := h'
    exact (Array.getElem?_eq_some_iff.1 hg).1
theorem row_base {w : World} {base e n g cap : Nat} {xs : List Value} (h : w.ownsRow base e 1 (.slice (some ⟨g, 0, none⟩) n cap) n xs) : base ≤ g := by
  rcases h.2 with ⟨h', _⟩ | ⟨g', cap', cur, h', hb, hg, _⟩
  · simp at h'
  · simp only [Value.slice.injEq, Option.some.injEq, Addr.mk.injEq, and_true, true_and] at h'
    obtain ⟨rfl, rfl⟩ := h'
    exact hb

theorem str_of {w : World} {base g n cap : Nat} {xs : List Int} (h : w.ownsRow base 5 1 (.slice (some ⟨g, 0, none⟩) n cap) n (xs.map (Value.int .u8))) :
    (convert 40 9 (.slice (some ⟨g, 0, none⟩) n cap)).run Yba.prog w = .ok (.string (strOfNums xs)) w :=
  run_convert_bytes_arg w 40 5 Yba.underlying40 Yba.underlying5 g 0 n cap xs (row_cells h).1 (row_cells h).2 9 Yba.underlying9

theorem byte_back (x : Int) (h0 : 0 ≤ x) (h1 : x ≤ 255) : ((UInt8.ofNat x.toNat).toNat : Int) = x := by
  rw [UInt8.toNat_ofNat']
  omega

theorem name_all (xs : List Int) (h : ∀ x ∈ xs, nameB x = true ∧ 0 ≤ x ∧ x ≤ 255) : allName (strOfNums xs).data.toList = !xs.isEmpty := by
  rw [strOfNums_data]
  unfold allName
  have : ((xs.map fun n => UInt8.ofNat n.toNat).all fun c => nameB c.toNat) = true := by
    rw [List.all_eq_true]
    intro c hc
    obtain ⟨x, hx, rfl⟩ := List.mem_map.1 hc
    obtain ⟨hn, h0, h1⟩ := h x hx
    rw [byte_back x h0 h1]
    exact hn
  rw [this]
  simp

theorem name_not (xs : List Int) (x : Int) (hx : x ∈ xs) (hn : nameB x = false) (h0 : 0 ≤ x) (h1 : x ≤ 255) : allName (strOfNums xs).data.toList = false := by
  rw [strOfNums_data]
  unfold allName
  rw [Bool.and_eq_false_iff]
  right
  rw [List.all_eq_false]
  exact ⟨UInt8.ofNat x.toNat, List.mem_map.2 ⟨x, hx, rfl⟩, by rw [byte_back x h0 h1, hn]; simp⟩

/-- The cells of a part of an owned row of bytes. -/
theorem seg_cells {w : World} {base g n cap : Nat} {xs : List Int} (h : w.ownsRow base 5 1 (.slice (some ⟨g, 0, none⟩) n cap) n (xs.map (Value.int .u8))) (i : Nat) (ys : List Int) (hy : ∀ j y, ys[j]? = some y → xs[i + j]? = some y) :
    ∀ j u, (ys.map (Value.int .u8))[j]? = some u → w.cell? ((⟨g, i, none⟩ : Addr).add j) = some u := by
  intro j u hu
  rw [List.getElem?_map, Option.map_eq_some_iff] at hu
  obtain ⟨y, hj, rfl⟩ := hu
  have hx := hy j y hj
  have hl := (row_cells h).1
  have hlt : i + j < n := by
    have := (List.getElem?_eq_some_iff.1 hx).1
    omega
  have e : (⟨g, i, none⟩ : Addr).add j = ⟨g, i + j, none⟩ := by simp [Addr.add]
  rw [e, h.cellAt (i + j) (by omega), List.getElem?_map, hx]
  rfl

theorem info5 : (Yba.prog.info? 5).map (fun i => (i.zero, i.size, i.bytes)) = some (some (.int .u8 0), 1, 1) := by kernel_rfl

theorem str_len (xs : List Int) (n : Nat) (h : xs.length = n) (hn : n ≤ 2048) : (strOfNums xs).size ≤ maxLen := by
  rw [strOfNums_size]; unfold maxLen; omega

set_option maxRecDepth 100000 in
set_option maxHeartbeats 1000000 in
theorem walk_built (a0 : Option Addr) (len cap : Nat) (zs : List Int) (c : Int) (w : World) (hl : len ≤ 1024) (hc0 : 0 ≤ c) (hc1 : c ≤ 255)
    (hA : 0 < len → ∃ b off, a0 = some ⟨b, off, none⟩ ∧ b < w.heap.size ∧ ∀ i, i < len → w.cell? ⟨b, off + i, none⟩ = some (.int .u8 (zs.getD i 0)) ∧ 0 ≤ zs.getD i 0 ∧ zs.getD i 0 ≤ 255) :
    Calls Yba.prog 7 #[.slice a0 len cap, .int .u8 c] w fun e w' => e = .returned (.bool true) ∧ Below w.heap.size w w' := by
  obtain ⟨i0, hi, hz0, hz1, hz2⟩ := info_parts info5
  have HA := hid hA
  clear hA
  have hle : ¬ (1024 : Int) < (len : Int) := by omega
  have hnot : ∀ (x : Bool) (w : World), (Op.unary .not (.bool x)).run Yba.prog w = .ok (.bool (!x)) w := fun _ _ => rfl
  go_enter Yba.func7, Yba.ntmps7
  go_wp2_with (at_make; refine wpList_make_own _ rfl _ _ 40 rfl w.heap.size 5 i0 (.int .u8 0) 1 Yba.underlying40 hi hz0 hz1 _ _ _ (len + 1) rfl rfl (by omega) ?b2 ?b3 (Nat.le_refl _) ?_)
  case b2 => omega
  case b3 => unfold maxLen; omega
  intro w0 hown0 hgrow0
  go_wp2
  go_loopw [5, 6] (fun v i wr => ∃ (k : Nat) (xs : List Int), k ≤ len ∧ i = .int .i64 k ∧ v = .slice (some ⟨w.heap.size, 0, none⟩) k (len + 1) ∧
      wr.ownsRow w.heap.size 5 1 (.slice (some ⟨w.heap.size, 0, none⟩) k (len + 1)) k (xs.map (Value.int .u8)) ∧ (∀ x ∈ xs, nameB x = true ∧ 0 ≤ x ∧ x ≤ 255) ∧ Below w.heap.size w wr)
    (fun _ i _ => len - (intOf i).toNat)
  case atStart => exact ⟨0, [], Nat.zero_le _, rfl, rfl, hown0, by simp, (Below.refl _ _).grown hgrow0 (Nat.le_refl _) (fun k h => by cases h)⟩
  case round =>
    obtain ⟨k, xs, hk, rfl, rfl, hown, hnm, hnx⟩ := hrel
    have HN := hid hnm
    clear hnm
    by_cases hlt : k < len
    · obtain ⟨b, off, rfl, hb, hcell⟩ := HA.out (by omega)
      obtain ⟨z, hz⟩ : ∃ z, z = zs.getD k 0 := ⟨_, rfl⟩
      have hck := hcell k hlt
      rw [← hz] at hck
      obtain ⟨hc, hz0', hz255⟩ := hck
      have hcw : wr.cell? ⟨b, off + k, none⟩ = some (.int .u8 z) := (hnx.cell (by exact hb)).trans hc
      clear hcell hz hc
      have hm : (z % 12).toNat < 12 := by omega
      go_wp2_with (at_builtin; refine wpList_append_fits _ rfl (.tmp 23) (.tmp 31) 40 rfl w.heap.size 5 i0 1 Yba.underlying40 hi hz1 w.heap.size k (len + 1) _ rfl (hown.alloc _) ⟨wr.heap.size, 0, none⟩ 1 1 [.int .u8 (alphaAt (z % 12).toNat)] rfl rfl ?_ (one_cell _ _) (by omega) ?_)
      · exact one_new wr _ _ _ (by rw [alpha_spelt])
      intro w1 hown1 hgrow1
      have hy := alpha_name (z % 12).toNat hm
      have hbel : Below w.heap.size w w1 := (hnx.alloc hnx.size _).grown hgrow1 (by simp; have := hnx.size; omega) (fun k hk => by cases hk; exact Nat.le_refl _)
      clear hgrow1 hown
      go_wp2
      go_roundw
      case rel =>
        refine ⟨k + 1, xs ++ [alphaAt (z % 12).toNat], by omega, by go_num, rfl, by simpa using hown1, ?_, hbel⟩
        intro x hx
        rcases List.mem_append.1 hx with h | h
        · exact HN.out x h
        · simp at h; subst h; exact hy
      case measure => simp [intOf]; omega
    · obtain rfl : k = len := by omega
      have hrow := row_cells hown
      have hstr := str_of hown
      have hnb := name_all xs HN.out
      have hs1 := str_len xs k hrow.1 (by omega)
      have HO : Hid (∀ (pos : Nat) (y : Int), nameB y = false → 0 ≤ y → y ≤ 255 → allName (strOfNums (xs.take pos ++ [y] ++ xs.drop pos)).data.toList = false ∧ (strOfNums (xs.take pos ++ [y] ++ xs.drop pos)).size ≤ maxLen) := by
        intro pos y h h0 h1
        refine ⟨name_not _ y (by simp) h h0 h1, str_len _ (k + 1) ?_ (by omega)⟩
        have := hrow.1
        simp
        omega
      have HR : Hid (xs.length = k) := hrow.1
      have hrc := hrow.2
      clear hrow
      generalize strOfNums xs = S1 at hstr hnb hs1
      clear HA hown0 hgrow0 HN
      have hm : (c % 13).toNat < 13 := by omega
      have hy := outs_name (c % 13).toNat hm
      by_cases h0 : 0 < k
      · have hne : (!xs.isEmpty) = true := by
          cases xs with
          | nil => have := HR.out; simp at this; omega
          | cons x r => rfl
        rw [hne] at hnb
        clear hne
        obtain ⟨p, hp, hpk⟩ : ∃ p : Nat, c % ((k : Int) + 1) = p ∧ p ≤ k := by
          have h1 := Int.emod_nonneg c (b := (k : Int) + 1) (by omega)
          have h2 := Int.emod_lt_of_pos c (b := (k : Int) + 1) (by omega)
          exact ⟨(c % ((k : Int) + 1)).toNat, by omega, by omega⟩
        have hcap : ¬ k + 1 = p := by omega
        go_wp2_with (first
          | (go_at_call 18; refine (isName_any S1 _ hs1).mono ?_; rintro e w' ⟨rfl, rfl⟩)
          | (at_make; refine wpList_make_own _ rfl _ _ 40 rfl w.heap.size 5 i0 (.int .u8 0) 1 Yba.underlying40 hi hz0 hz1 _ _ _ (k + 1) rfl rfl (by omega) ?b2b ?b3b hnx.size ?_))
        case b2b => rw [hz2]; omega
        case b3b => unfold maxLen; omega
        intro w2 hown2 hgrow2
        have hownb := hown.kept hgrow2 (.inr (by simp [Value.ownBlock]))
        have hgne : wr.heap.size ≠ w.heap.size := by have := row_lt hown; omega
        have hbase3 : w.heap.size ≤ wr.heap.size := hnx.size
        have hbel2 : Below w.heap.size w w2 := hnx.grown hgrow2 hnx.size (fun k hk => by cases hk)
        clear hown hgrow2 hnx hstr hrc
        have HB := hid hbel2
        clear hbel2
        go_wp2_with (at_builtin; refine wpList_append_fits _ rfl (.tmp 57) (.tmp 60) 40 rfl w.heap.size 5 i0 1 Yba.underlying40 hi hz1 wr.heap.size 0 (k + 1) _ rfl hown2 ⟨w.heap.size, 0, none⟩ p _ ((xs.take p).map (Value.int .u8)) rfl ?l1p (seg_cells hownb 0 _ ?l2p) (ints_oneCell _ _) (by omega) ?_)
        case l1p => have := HR.out; rw [List.length_map, List.length_take]; omega
        case l2p => intro j y hj; rw [Nat.zero_add]; rw [List.getElem?_take] at hj; split at hj <;> simp_all
        intro w3 hown3 hgrow3
        have hownb3 := hownb.kept hgrow3 (.inr (by simp [Value.ownBlock]; omega))
        have HB3 : Hid (Below w.heap.size w w3) := HB.out.grown hgrow3 HB.out.size (fun k hk => by cases hk; exact hbase3)
        clear hownb hgrow3 HB hown2
        go_wp2_with (at_builtin; refine wpList_append_fits _ rfl (.tmp 62) (.tmp 64) 40 rfl w.heap.size 5 i0 1 Yba.underlying40 hi hz1 wr.heap.size _ (k + 1) _ rfl (hown3.alloc _) ⟨w3.heap.size, 0, none⟩ 1 1 [.int .u8 (outsAt (c % 13).toNat)] rfl rfl ?l3p (one_cell _ _) (by omega) ?_)
        case l3p => exact one_new w3 _ _ _ (by rw [outs_spelt])
        intro w4 hown4 hgrow4
        have hownb4 := (hownb3.alloc _).kept hgrow4 (.inr (by simp [Value.ownBlock]; omega))
        have HB4 : Hid (Below w.heap.size w w4) := (HB3.out.alloc HB3.out.size _).grown hgrow4 (by simp; have := HB3.out.size; omega) (fun k hk => by cases hk; exact hbase3)
        clear hownb3 hgrow4 HB3 hown3
        go_wp2_with (at_builtin; refine wpList_append_fits _ rfl (.tmp 66) (.tmp 69) 40 rfl w.heap.size 5 i0 1 Yba.underlying40 hi hz1 wr.heap.size _ (k + 1) _ rfl hown4 ⟨w.heap.size, p, none⟩ (k - p) _ ((xs.drop p).map (Value.int .u8)) rfl ?l4p (seg_cells hownb4 p _ ?l5p) (ints_oneCell _ _) (by omega) ?_)
        case l4p => have := HR.out; rw [List.length_map, List.length_drop]; omega
        case l5p => intro j y hj; rwa [List.getElem?_drop] at hj
        intro w5 hown5 hgrow5
        have HB5 : Hid (Below w.heap.size w w5) := HB4.out.grown hgrow5 HB4.out.size (fun k hk => by cases hk; exact hbase3)
        clear hownb4 hgrow5 HB4 hown4
        have hlist : (xs.take p).map (Value.int .u8) ++ [.int .u8 (outsAt (c % 13).toNat)] ++ (xs.drop p).map (Value.int .u8) = (xs.take p ++ [outsAt (c % 13).toNat] ++ xs.drop p).map (Value.int .u8) := by simp
        have hstr5 := str_of (by rw [← hlist]; simpa using hown5)
        obtain ⟨hf, hs2⟩ := HO.out p _ hy.1 hy.2.1 hy.2.2
        clear hlist
        generalize strOfNums (xs.take p ++ [outsAt (c % 13).toNat] ++ xs.drop p) = S2 at hstr5 hf hs2
        clear hown5
        go_wp2_with (go_at_call 18; refine (isName_any S2 _ hs2).mono ?_; rintro e w' ⟨rfl, rfl⟩)
        go_ret
        exact ⟨rfl, HB5.out⟩
      · obtain rfl : k = 0 := by omega
        have hne : (!xs.isEmpty) = false := by
          cases xs with
          | nil => rfl
          | cons x r => have := HR.out; simp at this
        rw [hne] at hnb
        clear hne
        go_wp2_with (first
          | (go_at_call 18; refine (isName_any S1 _ hs1).mono ?_; rintro e w' ⟨rfl, rfl⟩)
          | (at_make; refine wpList_make_own _ rfl _ _ 40 rfl w.heap.size 5 i0 (.int .u8 0) 1 Yba.underlying40 hi hz0 hz1 _ _ _ (0 + 1) rfl rfl (by omega) ?b2c ?b3c hnx.size ?_))
        case b2c => rw [hz2]; omega
        case b3c => unfold maxLen; omega
        intro w2 hown2 hgrow2
        have hownb := hown.kept hgrow2 (.inr (by simp [Value.ownBlock]))
        have hgne : wr.heap.size ≠ w.heap.size := by have := row_lt hown; omega
        have hbase3 : w.heap.size ≤ wr.heap.size := hnx.size
        have hbel2 : Below w.heap.size w w2 := hnx.grown hgrow2 hnx.size (fun k hk => by cases hk)
        clear hown hgrow2 hnx hstr hrc
        have HB := hid hbel2
        clear hbel2
        go_wp2_with (at_builtin; refine wpList_append_fits _ rfl (.tmp 57) (.tmp 60) 40 rfl w.heap.size 5 i0 1 Yba.underlying40 hi hz1 wr.heap.size 0 (0 + 1) _ rfl hown2 ⟨w.heap.size, 0, none⟩ 0 _ ((xs.take 0).map (Value.int .u8)) rfl ?l10 (seg_cells hownb 0 _ ?l20) (ints_oneCell _ _) (by omega) ?_)
        case l10 => have := HR.out; rw [List.length_map, List.length_take]; omega
        case l20 => intro j y hj; rw [Nat.zero_add]; rw [List.getElem?_take] at hj; split at hj <;> simp_all
        intro w3 hown3 hgrow3
        have hownb3 := hownb.kept hgrow3 (.inr (by simp [Value.ownBlock]; omega))
        have HB3 : Hid (Below w.heap.size w w3) := HB.out.grown hgrow3 HB.out.size (fun k hk => by cases hk; exact hbase3)
        clear hownb hgrow3 HB hown2
        go_wp2_with (at_builtin; refine wpList_append_fits _ rfl (.tmp 62) (.tmp 64) 40 rfl w.heap.size 5 i0 1 Yba.underlying40 hi hz1 wr.heap.size _ (0 + 1) _ rfl (hown3.alloc _) ⟨w3.heap.size, 0, none⟩ 1 1 [.int .u8 (outsAt (c % 13).toNat)] rfl rfl ?l30 (one_cell _ _) (by omega) ?_)
        case l30 => exact one_new w3 _ _ _ (by rw [outs_spelt])
        intro w4 hown4 hgrow4
        have hownb4 := (hownb3.alloc _).kept hgrow4 (.inr (by simp [Value.ownBlock]; omega))
        have HB4 : Hid (Below w.heap.size w w4) := (HB3.out.alloc HB3.out.size _).grown hgrow4 (by simp; have := HB3.out.size; omega) (fun k hk => by cases hk; exact hbase3)
        clear hownb3 hgrow4 HB3 hown3
        go_wp2_with (at_builtin; refine wpList_append_fits _ rfl (.tmp 66) (.tmp 69) 40 rfl w.heap.size 5 i0 1 Yba.underlying40 hi hz1 wr.heap.size _ (0 + 1) _ rfl hown4 ⟨w.heap.size, 0, none⟩ (0 - 0) _ ((xs.drop 0).map (Value.int .u8)) rfl ?l40 (seg_cells hownb4 0 _ ?l50) (ints_oneCell _ _) (by omega) ?_)
        case l40 => have := HR.out; rw [List.length_map, List.length_drop]; omega
        case l50 => intro j y hj; rwa [List.getElem?_drop] at hj
        intro w5 hown5 hgrow5
        have HB5 : Hid (Below w.heap.size w w5) := HB4.out.grown hgrow5 HB4.out.size (fun k hk => by cases hk; exact hbase3)
        clear hownb4 hgrow5 HB4 hown4
        have hlist : (xs.take 0).map (Value.int .u8) ++ [.int .u8 (outsAt (c % 13).toNat)] ++ (xs.drop 0).map (Value.int .u8) = (xs.take 0 ++ [outsAt (c % 13).toNat] ++ xs.drop 0).map (Value.int .u8) := by simp
        have hstr5 := str_of (by rw [← hlist]; simpa using hown5)
        obtain ⟨hf, hs2⟩ := HO.out 0 _ hy.1 hy.2.1 hy.2.2
        clear hlist
        generalize strOfNums (xs.take 0 ++ [outsAt (c % 13).toNat] ++ xs.drop 0) = S2 at hstr5 hf hs2
        clear hown5
        go_wp2_with (go_at_call 18; refine (isName_any S2 _ hs2).mono ?_; rintro e w' ⟨rfl, rfl⟩)
        go_ret
        exact ⟨rfl, HB5.out⟩

end Go.Proofs.Ybulkavso
