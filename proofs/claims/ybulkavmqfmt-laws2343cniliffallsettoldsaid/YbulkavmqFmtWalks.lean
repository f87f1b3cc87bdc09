/-
  The walks: fmt.Errorf at its one call, (*TLS).check in its four ways, the law.
-/
import Derived.Test.YbulkavmqFmtFacts
import Derived.WalkKit
namespace Go.Proofs.YbulkavmqFmt
open Go.RowKit Go.Extern.Stop Go.Stop Go.Extern
attribute [local go_sem] call7 guardFmt fmt0 fmt0r op9_115w op9_118w ptr35 elem35

theorem errorf_any (F : Interp) (nm : ByteArray) (b : Nat) (w : World) (hF : F.answers w.tape) (hc : w.cell? ⟨b, 0, none⟩ = some (.iface 9 (.string nm))) :
    Calls Ybaf.prog 6 #[.string ⟨#[116, 108, 115, 32, 37, 115, 32, 105, 115, 32, 110, 111, 116, 32, 115, 101, 116]⟩, .slice (some ⟨b, 0, none⟩) 1 1] w fun e w' => (∃ n : Nat, e = .returned (.iface 35 (.pointer (some ⟨n, 0, none⟩)))) ∧ Below w.heap.size w w' := by
  have hF' : ∀ i name reading k range, w.tape i (.extern (word name reading k) range) = F name reading k := hF
  go_enter Ybaf.func6, Ybaf.ntmps6
  go_wp2
  go_ret
  exact ⟨⟨_, rfl⟩, by first | exact ((Below.refl _ _).alloc (Nat.le_refl _) _).drew | exact ((Below.refl _ _).drew).alloc (Nat.le_refl _) _⟩

theorem check_cert (F : Interp) (c k a : ByteArray) (b : Nat) (w : World) (hF : F.answers w.tape) (_hb : b < w.heap.size)
    (c0 : w.cell? ⟨b, 0, none⟩ = some (.string c)) (c1 : w.cell? ⟨b, 1, none⟩ = some (.string k)) (c2 : w.cell? ⟨b, 2, none⟩ = some (.string a))
    (h0 : c.toList.isEmpty = true) :
    Calls Ybaf.prog 5 #[.pointer (some ⟨b, 0, none⟩)] w fun e w' => (∃ n : Nat, e = .returned (.iface 35 (.pointer (some ⟨n, 0, none⟩)))) ∧ Below w.heap.size w w' := by
  go_enter Ybaf.func5, Ybaf.ntmps5
  go_wp2
  go_region
  go_wp2_with fail
  refine wp_loop_rounds 4 ?_
  rw [rounds_succ]
  go_wp2_with fail
  refine (errorf_any F ⟨#[99, 101, 114, 116]⟩ _ _ ?_ ?_).mono ?_
  · exact hF
  · go_simp
  rintro e w' ⟨⟨n, rfl⟩, hbel⟩
  go_wp2_with fail
  go_ret
  refine ⟨⟨_, rfl⟩, ?_⟩
  refine Below.trans ?_ (hbel.mono ?_)
  · exact ((((Below.refl _ _).alloc (Nat.le_refl _) _).alloc (by simp) _).alloc (by simp; omega) _).drew
  · simp; omega

theorem check_key (F : Interp) (c k a : ByteArray) (b : Nat) (w : World) (hF : F.answers w.tape) (_hb : b < w.heap.size)
    (c0 : w.cell? ⟨b, 0, none⟩ = some (.string c)) (c1 : w.cell? ⟨b, 1, none⟩ = some (.string k)) (c2 : w.cell? ⟨b, 2, none⟩ = some (.string a))
    (h0 : c.toList.isEmpty = false) (h1 : k.toList.isEmpty = true) :
    Calls Ybaf.prog 5 #[.pointer (some ⟨b, 0, none⟩)] w fun e w' => (∃ n : Nat, e = .returned (.iface 35 (.pointer (some ⟨n, 0, none⟩)))) ∧ Below w.heap.size w w' := by
  go_enter Ybaf.func5, Ybaf.ntmps5
  go_wp2
  go_region
  go_wp2_with fail
  refine wp_loop_rounds 4 ?_
  rw [rounds_succ]
  go_wp2_with fail
  rw [rounds_succ]
  go_wp2_with fail
  refine (errorf_any F ⟨#[107, 101, 121]⟩ _ _ ?_ ?_).mono ?_
  · exact hF
  · go_simp
  rintro e w' ⟨⟨n, rfl⟩, hbel⟩
  go_wp2_with fail
  go_ret
  refine ⟨⟨_, rfl⟩, ?_⟩
  refine Below.trans ?_ (hbel.mono ?_)
  · exact (((((Below.refl _ _).alloc (Nat.le_refl _) _).alloc (by simp) _).alloc (by simp; omega) _).alloc (by simp; omega) _).drew
  · simp; omega


theorem check_ca (F : Interp) (c k a : ByteArray) (b : Nat) (w : World) (hF : F.answers w.tape) (_hb : b < w.heap.size)
    (c0 : w.cell? ⟨b, 0, none⟩ = some (.string c)) (c1 : w.cell? ⟨b, 1, none⟩ = some (.string k)) (c2 : w.cell? ⟨b, 2, none⟩ = some (.string a))
    (h0 : c.toList.isEmpty = false) (h1 : k.toList.isEmpty = false) (h2 : a.toList.isEmpty = true) :
    Calls Ybaf.prog 5 #[.pointer (some ⟨b, 0, none⟩)] w fun e w' => (∃ n : Nat, e = .returned (.iface 35 (.pointer (some ⟨n, 0, none⟩)))) ∧ Below w.heap.size w w' := by
  go_enter Ybaf.func5, Ybaf.ntmps5
  go_wp2
  go_region
  go_wp2_with fail
  refine wp_loop_rounds 4 ?_
  rw [rounds_succ]
  go_wp2_with fail
  rw [rounds_succ]
  go_wp2_with fail
  rw [rounds_succ]
  go_wp2_with fail
  refine (errorf_any F ⟨#[99, 97]⟩ _ _ ?_ ?_).mono ?_
  · exact hF
  · go_simp
  rintro e w' ⟨⟨n, rfl⟩, hbel⟩
  go_wp2_with fail
  go_ret
  refine ⟨⟨_, rfl⟩, ?_⟩
  refine Below.trans ?_ (hbel.mono ?_)
  · exact ((((((Below.refl _ _).alloc (Nat.le_refl _) _).alloc (by simp) _).alloc (by simp; omega) _).alloc (by simp; omega) _).alloc (by simp; omega) _).drew
  · simp; omega

theorem check_ok (c k a : ByteArray) (b : Nat) (w : World) (_hb : b < w.heap.size)
    (c0 : w.cell? ⟨b, 0, none⟩ = some (.string c)) (c1 : w.cell? ⟨b, 1, none⟩ = some (.string k)) (c2 : w.cell? ⟨b, 2, none⟩ = some (.string a))
    (h0 : c.toList.isEmpty = false) (h1 : k.toList.isEmpty = false) (h2 : a.toList.isEmpty = false) :
    Calls Ybaf.prog 5 #[.pointer (some ⟨b, 0, none⟩)] w fun e w' => e = .returned .nilIface ∧ Below w.heap.size w w' := by
  go_enter Ybaf.func5, Ybaf.ntmps5
  go_wp2
  go_region
  go_wp2_with fail
  refine wp_loop_rounds 4 ?_
  rw [rounds_succ]
  go_wp2_with fail
  rw [rounds_succ]
  go_wp2_with fail
  rw [rounds_succ]
  go_wp2_with fail
  rw [rounds_succ]
  go_wp2_with fail
  go_ret
  refine ⟨rfl, ?_⟩
  exact (((((Below.refl _ _).alloc (Nat.le_refl _) _).alloc (by simp) _).alloc (by simp; omega) _).alloc (by simp; omega) _).drew

theorem walk_any (F : Interp) (c k a : ByteArray) (w : World) (hF : F.answers w.tape) :
    Calls Ybaf.prog 3 #[.string c, .string k, .string a] w fun e w' => e = .returned (.bool true) ∧ Below w.heap.size w w' := by
  cases h0 : c.toList.isEmpty
  · cases h1 : k.toList.isEmpty
    · cases h2 : a.toList.isEmpty
      · go_enter Ybaf.func3, Ybaf.ntmps3
        go_wp2_with fail
        refine (check_ok c k a _ _ ?_ ?_ ?_ ?_ h0 h1 h2).mono ?_
        · simp
        · go_simp
        · go_simp
        · go_simp
        rintro e w' ⟨rfl, hbel⟩
        go_wp2
        go_ret
        exact ⟨rfl, ((Below.refl _ _).alloc (Nat.le_refl _) _).trans (hbel.mono (by simp))⟩
      · go_enter Ybaf.func3, Ybaf.ntmps3
        go_wp2_with fail
        refine (check_ca F c k a _ _ ?_ ?_ ?_ ?_ ?_ h0 h1 h2).mono ?_
        · exact hF
        · simp
        · go_simp
        · go_simp
        · go_simp
        rintro e w' ⟨⟨n, rfl⟩, hbel⟩
        go_wp2
        go_ret
        exact ⟨rfl, ((Below.refl _ _).alloc (Nat.le_refl _) _).trans (hbel.mono (by simp))⟩
    · go_enter Ybaf.func3, Ybaf.ntmps3
      go_wp2_with fail
      refine (check_key F c k a _ _ ?_ ?_ ?_ ?_ ?_ h0 h1).mono ?_
      · exact hF
      · simp
      · go_simp
      · go_simp
      · go_simp
      rintro e w' ⟨⟨n, rfl⟩, hbel⟩
      go_wp2
      go_ret
      exact ⟨rfl, ((Below.refl _ _).alloc (Nat.le_refl _) _).trans (hbel.mono (by simp))⟩
  · go_enter Ybaf.func3, Ybaf.ntmps3
    go_wp2_with fail
    refine (check_cert F c k a _ _ ?_ ?_ ?_ ?_ ?_ h0).mono ?_
    · exact hF
    · simp
    · go_simp
    · go_simp
    · go_simp
    rintro e w' ⟨⟨n, rfl⟩, hbel⟩
    go_wp2
    go_ret
    exact ⟨rfl, ((Below.refl _ _).alloc (Nat.le_refl _) _).trans (hbel.mono (by simp))⟩

end Go.Proofs.YbulkavmqFmt
