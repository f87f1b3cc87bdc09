/-
  (*statics).insert: the walk.
-/
import Derived.Test.YbulkavsoLast
import Derived.Deep.RegionWith
namespace Go.Proofs.Ybulkavso
open Go.RowKit

set_option maxRecDepth 100000 in
set_option maxHeartbeats 8000000 in
theorem insert_any (n rb : Nat) (S : ByteArray → Nat → Prop) (F : Nat → Prop) (T : ByteArray) (C : Nat) (w : World) (hT : Tri n w rb 0 S F) (hroot : ∃ cs : Array Value, w.heap[rb]? = some (.cells cs 83)) (hFb : ¬ F rb) (hFlt : ∀ x, F x → x < w.heap.size)
    (hcl : ∀ t c, S t c → Clean t.data.toList) (hTc : Clean T.data.toList) (hTs : T.size ≤ 256) (hnew : ∀ c, ¬ S T c) (hsz : ∀ t c, S t c → t.size ≤ 256) :
    Calls Yba.prog 26 #[.pointer (some ⟨rb, 0, none⟩), .agg #[.pointer none, .string T, .pointer (some ⟨C, 0, none⟩)]] w fun e w' => e = .returned (.tuple #[]) ∧ Good (w.alloc (.cells #[.pointer none, .string T, .pointer (some ⟨C, 0, none⟩)] 83)) w' rb S F T C := by
  go_enter Yba.func26, Yba.ntmps26
  go_wp2_with fail
  obtain ⟨w1, hw1⟩ : ∃ w1, w1 = w.alloc (.cells #[.pointer none, .string T, .pointer (some ⟨C, 0, none⟩)] 83) := ⟨_, rfl⟩
  rw [← hw1]
  have HT1 : Hid (Tri n w1 rb 0 S F) := by
    obtain ⟨cs, hcs⟩ := hroot
    have hlt : rb < w.heap.size := (Array.getElem?_eq_some_iff.1 hcs).1
    rw [hw1]
    exact Tri.move n hT (fun j _ => cell_block (Below.heap_alloc w _ rb hlt) _) (fun x hx => Below.heap_alloc w _ x (hFlt x hx))
  have HRT : Hid (∃ cs : Array Value, w1.heap[rb]? = some (.cells cs 83)) := by
    obtain ⟨cs, hcs⟩ := hroot
    have hlt : rb < w.heap.size := (Array.getElem?_eq_some_iff.1 hcs).1
    rw [hw1]
    exact ⟨cs, (Below.heap_alloc w _ rb hlt).trans hcs⟩
  have hsz1 : w1.heap.size = w.heap.size + 1 := by rw [hw1]; simp
  have HFLT : Hid (∀ x, F x → x < w1.heap.size) := fun x hx => by have := hFlt x hx; omega
  have HLEAF : Hid (w1.heap[w.heap.size]? = some (.cells #[.pointer none, .string T, .pointer (some ⟨C, 0, none⟩)] 83)) := by rw [hw1]; exact heap_alloc_new w _
  have HFB := hid hFb
  have HCL := hid hcl
  have HTC := hid hTc
  have HNEW := hid hnew
  have HSZ := hid hsz
  have hlw : w.heap.size < w1.heap.size := by omega
  have HW1 := hid hw1
  clear hw1 hT hroot hFb hFlt hcl hTc hnew hsz hsz1
  go_loopg [5] n (fun k v wr => ∃ (b o : Nat) (S' : ByteArray → Nat → Prop) (F' : Nat → Prop), v = .pointer (some ⟨b, o, none⟩) ∧ Tri k wr b o S' F' ∧
    (∀ t c, S' t c → S t c) ∧ (∀ m s, Path m w1 b o T.data.toList s → ∃ m', Path m' w1 rb 0 T.data.toList s) ∧ Drawn w1 wr)
  case atStart => exact ⟨rb, 0, S, F, rfl, HT1.out, fun _ _ h => h, fun m s h => ⟨m, h⟩, Drawn.refl _⟩
  case round =>
    obtain ⟨b, o, S', F', rfl, hT', hsub, hpath, hdr⟩ := hrel
    have HS := hid hsub
    have HP := hid hpath
    have HD := hid hdr
    clear hsub hpath hdr
    obtain ⟨k, rfl⟩ : ∃ k, gk = k + 1 := by
      cases gk with
      | zero => exact hT'.elim
      | succ k => exact ⟨k, rfl⟩
    rcases hT' with ⟨s, c, ⟨l0, l1, l2⟩, hS⟩ | ⟨bb, ab, kk, pos, P, lo, ch, Sf, Ff, ⟨l0, l1, l2⟩, hb, ha, fb, fa, hne, hk2, hp, hPk, hTf, h1, h2, h3, h4, h5⟩
    · have hss : s.size ≤ 256 := HSZ.out s c (HS.out s c ((hS s c).2 ⟨rfl, rfl⟩))
      have HSS : Hid (S s c) := HS.out s c ((hS s c).2 ⟨rfl, rfl⟩)
      have HPATH : Hid (∃ m, Path m w1 rb 0 T.data.toList s) := by
        refine HP.out 1 s (.inl ⟨?_, ?_⟩)
        · rw [← l0]; simp [World.cell?, HD.out.heap]
        · rw [← l1]; simp [World.cell?, HD.out.heap]
      have HL1 : Hid (w1.cell? ⟨b, o + 1, none⟩ = some (.string s)) := ((show w1.cell? ⟨b, o + 1, none⟩ = wr.cell? ⟨b, o + 1, none⟩ by simp [World.cell?, HD.out.heap])).trans l1
      clear HP HS hS
      go_wp2_with fail
      go_loopg [6] T.size (fun k v wx => ∃ p : Nat, v = .int .i64 p ∧ p + k = T.size ∧ (∀ j, j < p → bAt T.data.toList j = bAt s.data.toList j) ∧ Drawn w1 wx)
      case atStart => exact ⟨0, rfl, by omega, fun j hj => by omega, HD.out⟩
      case round =>
        clear l0 l1 l2 HD
        obtain ⟨p, rfl, hpk, hag, hdr⟩ := hrel
        have HAG := hid hag
        have HD := hid hdr
        clear hag hdr
        have l1 : wr.cell? ⟨b, o + 1, none⟩ = some (.string s) := ((show wr.cell? ⟨b, o + 1, none⟩ = w1.cell? ⟨b, o + 1, none⟩ by simp [World.cell?, HD.out.heap])).trans HL1.out
        have HCB : Hid (∀ wx, Calls Yba.prog 27 #[.string s, .int .i64 p] wx fun e w' => e = .returned (.int .u8 (bAt s.data.toList p).toNat) ∧ w' = wx) := fun wx =>
          (byteAt_any s p wx).mono fun e w' h => ⟨h.1, h.2.symm⟩
        by_cases hcont : p < T.size ∧ bAt T.data.toList p = bAt s.data.toList p
        · obtain ⟨hlt, heq⟩ := hcont
          have HAG2 : Hid (∀ j, j < p + 1 → bAt T.data.toList j = bAt s.data.toList j) := fun j hj => by
            rcases Nat.lt_or_ge j p with h | h
            · exact HAG.out j h
            · obtain rfl : j = p := by omega
              exact heq
          have hq : (((T[p].toNat : Nat) : Int) == ((bAt s.data.toList p).toNat : Int)) = true := by
            rw [← heq, bAt_get T p hlt]; simp
          clear heq
          generalize bAt s.data.toList p = bS at HCB hq
          go_wp2_with fail
          go_quiet ((go_at_call 27; exact Calls.quiet_of_same (HCB.out _)))
          go_wp2_with fail
          go_roundg (gk - 1)
          case measure => omega
          case rel => exact ⟨p + 1, by go_num, by omega, HAG2.out, HD.out.more _⟩
        · have HNE : Hid (bAt T.data.toList p ≠ bAt s.data.toList p) := by
            intro heq
            by_cases hlt : p < T.size
            · exact hcont ⟨hlt, heq⟩
            · have hpT : p = T.size := by omega
              have hl : T.data.toList.length = T.size := Array.length_toList
              have e : T.data.toList = s.data.toList := eq_of_agree HTC.out (HCL.out s c HSS.out) (fun i hi => by
                rcases Nat.lt_or_ge i p with h | h
                · exact HAG.out i h
                · obtain rfl : i = p := by omega
                  exact heq)
              have eq2 : T = s := by
                cases T; cases s
                congr 1
                exact Array.toList_inj.1 e
              subst eq2
              exact HNEW.out c HSS.out
          have hpT : p ≤ T.size := by omega
          have hp256 : p ≤ 256 := by omega
          by_cases hlt : p < T.size
          case' pos =>
            have hq : (((T[p].toNat : Nat) : Int) == ((bAt s.data.toList p).toNat : Int)) = false := by
              rw [beq_eq_false_iff_ne, ← bAt_get T p hlt]
              intro e
              exact HNE.out (UInt8.toNat_inj.1 (by omega))
          case' neg =>
            have hd : decide ((p : Int) < (T.size : Int)) = false := by simp; omega
          all_goals
            clear hcont hpk
            go_wp2_with fail
            go_quiet ((go_at_call 27; exact Calls.quiet_of_same (HCB.out _)))
            go_wp2_with (go_at_call 27; refine (HCB.out _).mono ?_; rintro e w' ⟨rfl, rfl⟩)
            go_loopg [8] n (fun k v wx => ∃ (b3 o3 : Nat) (S3 : ByteArray → Nat → Prop) (F3 : Nat → Prop), v = .pointer (some ⟨b3, o3, none⟩) ∧ AtInv w1 rb S F T C s k b3 o3 S3 F3 ∧ Drawn w1 wx)
            case atStart => exact ⟨rb, 0, S, F, rfl, AtInv.start HT1.out HFB.out HFLT.out HRT.out HPATH.out, HD.out.more _⟩
            case round =>
              obtain ⟨b3, o3, S3, F3, rfl, hat, hdr3⟩ := hrel
              have HAT := hid hat
              have HD3 := hid hdr3
              clear hat hdr3 l1 HD
              obtain ⟨k3, rfl⟩ : ∃ k3, gk = k3 + 1 := by
                cases gk with
                | zero => exact HAT.out.1.elim
                | succ k => exact ⟨k, rfl⟩
              have hT3 : Tri (k3 + 1) wr b3 o3 S3 F3 := HAT.out.1.heap HD3.out.heap
              rcases hT3 with ⟨s3, c3, ⟨l0, l1, l2⟩, hS3⟩ | ⟨bb, ab, kk, pos, P, lo, ch, Sf, Ff, ⟨l0, l1, l2⟩, hb, ha, fb, fa, hne, hk2, hp, hPk, hTf, h1, h2, h3, h4, h5⟩
              · have hb3 : b3 < wr.heap.size := by
                  obtain ⟨cs, hcs⟩ := HAT.out.2.2.2.1
                  rw [HD3.out.heap]
                  exact (Array.getElem?_eq_some_iff.1 hcs).1
                have hb3' : b3 < wr.heap.size + 1 := by omega
                have hss3 : s = s3 := by
                  obtain ⟨m, hm⟩ := HAT.out.2.2.2.2.2.1
                  exact (hm.heap m HD3.out.heap).leaf l0 l1
                have HALL : Hid (∀ t c, S3 t c → ∀ j, j ≤ p → bAt t.data.toList j = bAt s.data.toList j) := fun t c ht j _ => by
                  rw [((hS3 t c).1 ht).1, hss3]
                have hap : w.heap.size ≠ b3 := slot_apart (by rw [HD3.out.heap]; exact HLEAF.out) l0 l1 l2 (.inr (fun e => HNEW.out c (by rw [← e, ← hss3]; exact HSS.out)))
                have HCT : Hid (∀ wx, Calls Yba.prog 27 #[.string T, .int .i64 p] wx fun e w' => e = .returned (.int .u8 (bAt T.data.toList p).toNat) ∧ w' = wx) := fun wx =>
                  (byteAt_any T p wx).mono fun e w' h => ⟨h.1, h.2.symm⟩
                clear hss3
                go_wp2_with fail
                go_at_call 36
                refine (add_any wr.heap.size p 0 ⟨#[]⟩ 0 (bAt s.data.toList p) none #[] _ _ _ _ (heap_alloc_new wr _) (.inl ⟨rfl, rfl⟩) rfl (by simp) (by omega) (by decide)).mono ?_
                rintro e w3 ⟨rfl, hadd1⟩
                have HADD1 := hid hadd1
                clear hadd1
                obtain ⟨q0, q1, q2, f0, f1, f2⟩ := slot_after HADD1.out hb3 l0 l1 l2 (by obtain ⟨cs, hcs⟩ := HAT.out.2.2.2.1; rw [HD3.out.heap]; exact ⟨cs, hcs⟩)
                go_wp2_with fail
                obtain ⟨w4, hw4⟩ : ∃ w4, w4 = ((w3.setCell ⟨b3, o3, none⟩ (.pointer (some ⟨wr.heap.size, 0, none⟩))).setCell ⟨b3, o3 + 1, none⟩ (.string ⟨#[]⟩)).setCell ⟨b3, o3 + 2, none⟩ (.pointer none) := ⟨_, rfl⟩
                rw [← hw4]
                have HC36 := hid (fresh_last HAT.out HAG.out HNE.out hp256 HALL.out HD3.out l0 l1 l2 HADD1.out hw4)
                have hlf : w4.heap[w.heap.size]? = some (.cells #[.pointer none, .string T, .pointer (some ⟨C, 0, none⟩)] 83) := by
                  rw [hw4]
                  exact (kept_after HD3.out HADD1.out hlw hap).trans HLEAF.out
                have c0 : w4.cell? ⟨w.heap.size, 0, none⟩ = some (.pointer none) := by simp [World.cell?, hlf]
                have c1 : w4.cell? ⟨w.heap.size, 1, none⟩ = some (.string T) := by simp [World.cell?, hlf]
                have c2 : w4.cell? ⟨w.heap.size, 2, none⟩ = some (.pointer (some ⟨C, 0, none⟩)) := by simp [World.cell?, hlf]
                have k0 : w4.cell? ⟨b3, o3, none⟩ = some (.pointer (some ⟨wr.heap.size, 0, none⟩)) := by rw [hw4]; go_simp
                clear hw4 hlf l0 l1 l2 q0 q1 q2 f0 f1 f2
                generalize wr.heap.size = Bn at *
                clear hap HADD1 HALL HCB HAT HAG HNE
                generalize bAt T.data.toList p = bT at *
                go_region_with (first | (go_at_call 27; refine (HCT.out _).mono ?_; rintro e w' ⟨rfl, rfl⟩) | (go_at_call 36; refine (HC36.out _ ?_).mono ?_; exact ⟨1, rfl⟩; rintro e w' ⟨rfl, hgood⟩))
                all_goals (go_end0; exact ⟨rfl, by rw [← HW1.out]; exact hgood⟩)
              · have p0 : wr.cell? ⟨bb, 0, none⟩ = some (.int .i64 pos) := by simp [World.cell?, show wr.heap[bb]? = _ from hb]
                by_cases hlt3 : pos < p
                · have HCP : Hid (∀ nq, Calls Yba.prog 35 #[.pointer (some ⟨bb, 0, none⟩), .int .u8 (bAt T.data.toList pos).toNat] (wr.drewN nq) fun e w' => e = .returned (.pointer (some ⟨ab, 3 * pickIdx P.data.toList lo (bAt T.data.toList pos), none⟩)) ∧ ∃ m, w' = (wr.drewN nq).drewN m) := fun nq =>
                    pick_any bb pos P lo (bAt T.data.toList pos) ab kk ch (wr.drewN nq) hb hPk hk2
                  have hw1 : w1.heap = wr.heap := HD3.out.heap.symm
                  have HST := hid (HAT.out.step HAG.out (bb := bb) (ab := ab) (kk := kk) (pos := pos) (P := P) (lo := lo) (ch := ch) (Sf := Sf) (Ff := Ff)
                    ⟨by rw [← l0]; simp [World.cell?, hw1], by rw [← l1]; simp [World.cell?, hw1], by rw [← l2]; simp [World.cell?, hw1]⟩ (by unfold BranchObj; rw [hw1]; exact hb) (by unfold ArmsObj; rw [hw1]; exact ha) fb fa hne hk2 hp hPk
                    (fun i hi => (hTf i hi).heap hw1) h1 h2 h3 h4 h5 hlt3)
                  have hposT : pos < T.size := by omega
                  have hposT' : (pos : Int) < (T.size : Int) := by omega
                  have hbb0 : ((T[pos].toNat : Nat) : Int) = ((bAt T.data.toList pos).toNat : Int) := by rw [bAt_get T pos hposT]
                  clear hw1 hTf h1 h2 h3 h4 h5 hPk hb ha
                  generalize bAt T.data.toList pos = by0 at *
                  generalize 3 * pickIdx P.data.toList lo by0 = off1 at *
                  go_wp2_with fail
                  go_quiet ((go_at_call 35; exact Calls.quiet_of (HCP.out _)))
                  go_wp2_with fail
                  go_roundg k3
                  case measure => omega
                  case rel => exact ⟨ab, off1, _, _, rfl, HST.out, HD3.out.more _⟩
                · by_cases heq3 : pos = p
                  · subst heq3
                    have HCT : Hid (∀ wx, Calls Yba.prog 27 #[.string T, .int .i64 pos] wx fun e w' => e = .returned (.int .u8 (bAt T.data.toList pos).toNat) ∧ w' = wx) := fun wx =>
                      (byteAt_any T pos wx).mono fun e w' h => ⟨h.1, h.2.symm⟩
                    have HC36 := hid (grow_last HAT.out HAG.out HNE.out HD3.out ⟨l0, l1, l2⟩ hb ha fb hne hk2 hp hPk hTf h1 h2 h3 h4 h5)
                    have hlf : wr.heap[w.heap.size]? = some (.cells #[.pointer none, .string T, .pointer (some ⟨C, 0, none⟩)] 83) := by
                      rw [HD3.out.heap]; exact HLEAF.out
                    have c0 : wr.cell? ⟨w.heap.size, 0, none⟩ = some (.pointer none) := by simp [World.cell?, hlf]
                    have c1 : wr.cell? ⟨w.heap.size, 1, none⟩ = some (.string T) := by simp [World.cell?, hlf]
                    have c2 : wr.cell? ⟨w.heap.size, 2, none⟩ = some (.pointer (some ⟨C, 0, none⟩)) := by simp [World.cell?, hlf]
                    clear hlf hb ha hPk hTf h1 h2 h3 h4 h5 HCB HAT HAG HNE
                    generalize bAt T.data.toList pos = bT at *
                    go_wp2_with fail
                    go_region_with (first | (go_at_call 27; refine (HCT.out _).mono ?_; rintro e w' ⟨rfl, rfl⟩) | (go_at_call 36; refine (HC36.out _ ?_).mono ?_; exact ⟨1, rfl⟩; rintro e w' ⟨rfl, hgood⟩))
                    all_goals (go_end0; exact ⟨rfl, by rw [← HW1.out]; exact hgood⟩)
                  · have hgt3 : p < pos := by omega
                    have hb3 : b3 < wr.heap.size := by
                      obtain ⟨cs, hcs⟩ := HAT.out.2.2.2.1
                      rw [HD3.out.heap]
                      exact (Array.getElem?_eq_some_iff.1 hcs).1
                    have hb3' : b3 < wr.heap.size + 1 := by omega
                    have HALL : Hid (∀ t c, S3 t c → ∀ j, j ≤ p → bAt t.data.toList j = bAt s.data.toList j) := fun t c ht j hj => by
                      obtain ⟨m, hm⟩ := HAT.out.2.2.2.2.2.1
                      obtain ⟨c0, hc0⟩ := Path.mem _ HAT.out.1 hm
                      exact h4 t c s c0 ht hc0 j (by omega)
                    have hap : w.heap.size ≠ b3 := slot_apart (by rw [HD3.out.heap]; exact HLEAF.out) l0 l1 l2 (.inl (by simp))
                    have HCT : Hid (∀ wx, Calls Yba.prog 27 #[.string T, .int .i64 p] wx fun e w' => e = .returned (.int .u8 (bAt T.data.toList p).toNat) ∧ w' = wx) := fun wx =>
                      (byteAt_any T p wx).mono fun e w' h => ⟨h.1, h.2.symm⟩
                    clear hb ha hPk hTf h1 h2 h3 h4 h5
                    go_wp2_with fail
                    go_at_call 36
                    refine (add_any wr.heap.size p 0 ⟨#[]⟩ 0 (bAt s.data.toList p) none #[] _ _ _ _ (heap_alloc_new wr _) (.inl ⟨rfl, rfl⟩) rfl (by simp) (by omega) (by decide)).mono ?_
                    rintro e w3 ⟨rfl, hadd1⟩
                    have HADD1 := hid hadd1
                    clear hadd1
                    obtain ⟨q0, q1, q2, f0, f1, f2⟩ := slot_after HADD1.out hb3 l0 l1 l2 (by obtain ⟨cs, hcs⟩ := HAT.out.2.2.2.1; rw [HD3.out.heap]; exact ⟨cs, hcs⟩)
                    clear p0
                    go_wp2_with fail
                    obtain ⟨w4, hw4⟩ : ∃ w4, w4 = ((w3.setCell ⟨b3, o3, none⟩ (.pointer (some ⟨wr.heap.size, 0, none⟩))).setCell ⟨b3, o3 + 1, none⟩ (.string ⟨#[]⟩)).setCell ⟨b3, o3 + 2, none⟩ (.pointer none) := ⟨_, rfl⟩
                    rw [← hw4]
                    have HC36 := hid (fresh_last HAT.out HAG.out HNE.out hp256 HALL.out HD3.out l0 l1 l2 HADD1.out hw4)
                    have hlf : w4.heap[w.heap.size]? = some (.cells #[.pointer none, .string T, .pointer (some ⟨C, 0, none⟩)] 83) := by
                      rw [hw4]
                      exact (kept_after HD3.out HADD1.out hlw hap).trans HLEAF.out
                    have c0 : w4.cell? ⟨w.heap.size, 0, none⟩ = some (.pointer none) := by simp [World.cell?, hlf]
                    have c1 : w4.cell? ⟨w.heap.size, 1, none⟩ = some (.string T) := by simp [World.cell?, hlf]
                    have c2 : w4.cell? ⟨w.heap.size, 2, none⟩ = some (.pointer (some ⟨C, 0, none⟩)) := by simp [World.cell?, hlf]
                    have k0 : w4.cell? ⟨b3, o3, none⟩ = some (.pointer (some ⟨wr.heap.size, 0, none⟩)) := by rw [hw4]; go_simp
                    clear hw4 hlf l0 l1 l2 q0 q1 q2 f0 f1 f2
                    generalize wr.heap.size = Bn at *
                    clear hap HADD1 HALL HCB HAT HAG HNE
                    generalize bAt T.data.toList p = bT at *
                    go_region_with (first | (go_at_call 27; refine (HCT.out _).mono ?_; rintro e w' ⟨rfl, rfl⟩) | (go_at_call 36; refine (HC36.out _ ?_).mono ?_; exact ⟨1, rfl⟩; rintro e w' ⟨rfl, hgood⟩))
                    all_goals (go_end0; exact ⟨rfl, by rw [← HW1.out]; exact hgood⟩)
    · have p0 : wr.cell? ⟨bb, 0, none⟩ = some (.int .i64 pos) := by simp [World.cell?, show wr.heap[bb]? = _ from hb]
      have hi := hPk.idx_lt (by omega) (bAt T.data.toList pos)
      have HTF := hid (hTf _ hi)
      have HSUB : Hid (∀ t c, Sf (pickIdx P.data.toList lo (bAt T.data.toList pos)) t c → S t c) := fun t c h => HS.out t c ((h3 t c).2 ⟨_, hi, h⟩)
      have HCB : Hid (∀ wx, Calls Yba.prog 27 #[.string T, .int .i64 pos] wx fun e w' => e = .returned (.int .u8 (bAt T.data.toList pos).toNat) ∧ w' = wx) := fun wx =>
        (byteAt_any T pos wx).mono fun e w' h => ⟨h.1, h.2.symm⟩
      have HCP : Hid (∀ nq, Calls Yba.prog 35 #[.pointer (some ⟨bb, 0, none⟩), .int .u8 (bAt T.data.toList pos).toNat] (wr.drewN nq) fun e w' => e = .returned (.pointer (some ⟨ab, 3 * pickIdx P.data.toList lo (bAt T.data.toList pos), none⟩)) ∧ ∃ m, w' = (wr.drewN nq).drewN m) := fun nq =>
        pick_any bb pos P lo (bAt T.data.toList pos) ab kk ch (wr.drewN nq) hb hPk hk2
      have HSTEP : Hid (∀ m s, Path m w1 ab (3 * pickIdx P.data.toList lo (bAt T.data.toList pos)) T.data.toList s → ∃ m', Path m' w1 rb 0 T.data.toList s) := fun m s hx => by
        have hh := HD.out.heap
        refine HP.out (m + 1) s (.inr ⟨bb, pos, P, lo, ab, kk, ?_, ?_, hx⟩)
        · rw [← l0]; simp [World.cell?, hh]
        · have hb' : wr.heap[bb]? = _ := hb
          rw [hh] at hb'
          exact hb'
      clear hTf h1 h2 h3 h4 h5 hPk hb ha HP HS hi
      generalize bAt T.data.toList pos = by0 at *
      generalize 3 * pickIdx P.data.toList lo by0 = off1 at *
      go_wp2_with fail
      go_quiet (first | (go_at_call 27; exact Calls.quiet_of_same (HCB.out _)) | (go_at_call 35; exact Calls.quiet_of (HCP.out _)))
      go_wp2_with fail
      go_roundg k
      case measure => omega
      case rel => exact ⟨ab, off1, _, _, rfl, HTF.out.drewN _, HSUB.out, HSTEP.out, HD.out.more _⟩

end Go.Proofs.Ybulkavso
