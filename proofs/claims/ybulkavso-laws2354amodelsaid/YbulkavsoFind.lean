/-
  (*statics).find over a trie: it finds the one text that the path begins with, followed by '/' or the end, or none.
-/
import Derived.Test.YbulkavsoByte
import Derived.Deep.LoopGhost
import Derived.Lib.Strings
namespace Go.Proofs.Ybulkavso
open Go.RowKit

theorem hid {p : Prop} (h : p) : Hid p := h

/-- The path q begins with the text t, followed by '/' or by its end. -/
def Match (q t : List UInt8) : Prop := q.take t.length = t ∧ bAt q t.length = 47

theorem Match.agree {q t : List UInt8} (h : Match q t) : ∀ j, j ≤ t.length → bAt q j = bAt t j := by
  intro j hj
  rcases Nat.lt_or_ge j t.length with hl | hl
  · have hlen : t.length ≤ q.length := by
      have := congrArg List.length h.1
      simp at this
      omega
    rw [bAt_lt hl, bAt_lt (by omega)]
    have : (q.take t.length)[j]? = t[j]? := by rw [h.1]
    rw [List.getElem?_take, if_pos hl, List.getElem?_eq_getElem hl, List.getElem?_eq_getElem (by omega)] at this
    exact Option.some.inj this
  · obtain rfl : j = t.length := by omega
    rw [h.2, bAt_ge (Nat.le_refl _)]

theorem head_data (t : ByteArray) (i : Nat) : (t.extract 0 i).data.toList = t.data.toList.take i := by
  simp

theorem match_of {q s : ByteArray} (h2 : (q.extract 0 s.size).toList = s.toList) (h3 : ∀ h : s.size < q.size, (q[s.size].toNat : Int) = 47) : Match q.data.toList s.data.toList := by
  rw [ByteArray.toList_eq, ByteArray.toList_eq, head_data] at h2
  refine ⟨h2, ?_⟩
  show bAt q.data.toList s.size = 47
  rcases Nat.lt_or_ge s.size q.size with h | h
  · rw [bAt_get q s.size h]
    have := h3 h
    exact UInt8.toNat_inj.1 (by simp; omega)
  · exact bAt_ge (by simp; omega)

theorem Match.size {q s : ByteArray} (h : Match q.data.toList s.data.toList) : s.size ≤ q.size := by
  have := congrArg List.length h.1
  simp at this
  omega

theorem Match.head {q s : ByteArray} (h : Match q.data.toList s.data.toList) : (q.extract 0 s.size).toList = s.toList := by
  rw [ByteArray.toList_eq, ByteArray.toList_eq, head_data]
  exact h.1

theorem Match.next {q s : ByteArray} (h : Match q.data.toList s.data.toList) (hl : s.size < q.size) : (q[s.size].toNat : Int) = 47 := by
  have h2 : bAt q.data.toList s.size = 47 := h.2
  rw [bAt_get q s.size hl] at h2
  rw [h2]; rfl

/-- What a find over the texts S answers. -/
def Found (S : ByteArray → Nat → Prop) (q : ByteArray) (e : Ending) : Prop :=
  (∃ t c, S t c ∧ Match q.data.toList t.data.toList ∧ e = .returned (.tuple #[.pointer (some ⟨c, 0, none⟩), .int .i64 t.size])) ∨
  ((∀ t c, S t c → ¬ Match q.data.toList t.data.toList) ∧ e = .returned (.tuple #[.pointer none, .int .i64 0]))

/-- A branch reads no text beyond the byte behind its end. -/
theorem pos_le {k pos : Nat} {ch : Nat → UInt8} {S : ByteArray → Nat → Prop} {Sf : Nat → ByteArray → Nat → Prop} (hk : 2 ≤ k) (hinj : ∀ i j, i < k → j < k → ch i = ch j → i = j)
    (hin : ∀ i, i < k → ∃ t c, Sf i t c) (hcl : ∀ t c, S t c → Clean t.data.toList) (h3 : ∀ t c, S t c ↔ ∃ i, i < k ∧ Sf i t c)
    (h4 : ∀ t c t' c', S t c → S t' c' → ∀ j, j < pos → bAt t.data.toList j = bAt t'.data.toList j) (h5 : ∀ i t c, i < k → Sf i t c → bAt t.data.toList pos = ch i) :
    ∀ t c, S t c → pos ≤ t.size := by
  intro t c ht
  rcases Nat.lt_or_ge t.size pos with hlt | h
  · obtain ⟨i, hi, hti⟩ := (h3 t c).1 ht
    obtain ⟨i', hi', hne⟩ : ∃ i', i' < k ∧ i' ≠ i := by
      by_cases h0 : i = 0
      · exact ⟨1, by omega, by omega⟩
      · exact ⟨0, by omega, by omega⟩
    obtain ⟨t', c', ht'⟩ := hin i' hi'
    have hs' : S t' c' := (h3 t' c').2 ⟨i', hi', ht'⟩
    have hl : t.data.toList.length = t.size := by simp
    have e : t.data.toList = t'.data.toList := eq_of_agree (hcl t c ht) (hcl t' c' hs') (fun j hj => h4 t c t' c' ht hs' j (by omega))
    have e1 := h5 i t c hi hti
    have e2 := h5 i' t' c' hi' ht'
    rw [e] at e1
    exact absurd (hinj i' i hi' hi (e2.symm.trans e1)) hne
  · exact h

theorem Tri.drewN {n : Nat} {w : World} {b o : Nat} {S : ByteArray → Nat → Prop} {F : Nat → Prop} (h : Tri n w b o S F) (m : Nat) : Tri n (w.drewN m) b o S F :=
  Tri.move n h (fun _ _ => by simp) (fun _ _ => by simp)

set_option maxRecDepth 100000 in
set_option maxHeartbeats 1000000 in
theorem find_any (n b0 o0 : Nat) (S : ByteArray → Nat → Prop) (F : Nat → Prop) (q : ByteArray) (w : World) (hT : Tri n w b0 o0 S F) (hcl : ∀ t c, S t c → Clean t.data.toList)
    (hsz : ∀ t c, S t c → t.size ≤ 4096) (_hq : q.size ≤ 4096) :
    Calls Yba.prog 16 #[.pointer (some ⟨b0, o0, none⟩), .string q] w fun e w' => Found S q e ∧ ∃ n, w' = w.drewN n := by
  obtain ⟨v0, hv0⟩ := hT.cell
  go_enter Yba.func16, Yba.ntmps16
  go_wp2
  go_loopg [0, 6] n (fun k t v wr => ∃ (b o : Nat) (S' : ByteArray → Nat → Prop) (F' : Nat → Prop), t = .pointer (some ⟨b, o, none⟩) ∧ wr.cell? ⟨b, o, none⟩ = some v ∧ Tri k wr b o S' F' ∧
    (∀ t c, S' t c → S t c) ∧ (∀ t c, S t c → Match q.data.toList t.data.toList → S' t c) ∧ ∃ m, wr = w.drewN m)
  case atStart => exact ⟨b0, o0, S, F, rfl, hv0, hT, fun _ _ h => h, fun _ _ h _ => h, 0, rfl⟩
  case round =>
    clear hv0 hT
    obtain ⟨b, o, S', F', rfl, hv, hT, hsub, hkeep, hwr⟩ := hrel
    have HW := hid hwr
    clear hwr
    have HS := hid hsub
    have HK := hid hkeep
    have HC := hid hcl
    have HZ := hid hsz
    clear hsub hkeep hcl hsz
    obtain ⟨k, rfl⟩ : ∃ k, gk = k + 1 := by
      cases gk with
      | zero => exact hT.elim
      | succ k => exact ⟨k, rfl⟩
    rcases hT with ⟨s, c, ⟨l0, l1, l2⟩, hS⟩ | ⟨bb, ab, kk, pos, P, lo, ch, Sf, Ff, ⟨l0, l1, l2⟩, hb, ha, fb, fa, hne, hk2, hp, hP, hTf, h1, h2, h3, h4, h5⟩
    · rw [l0] at hv
      cases hv
      have HSS := hid ((hS s c).2 ⟨rfl, rfl⟩)
      have hss : s.size ≤ 4096 := HZ.out s c (HS.out s c HSS.out)
      have HNO : Hid (¬ Match q.data.toList s.data.toList → ∀ t c, S t c → ¬ Match q.data.toList t.data.toList) := fun hn t d ht hm => by
        obtain ⟨rfl, rfl⟩ := (hS t d).1 (HK.out t d ht hm)
        exact hn hm
      clear hS
      by_cases hM : Match q.data.toList s.data.toList
      · have m1 := hM.size
        have m2 := hM.head
        have HF := hid (show Found S q (.returned (.tuple #[.pointer (some ⟨c, 0, none⟩), .int .i64 s.size])) from .inl ⟨s, c, HS.out s c HSS.out, hM, rfl⟩)
        have HM3 := hid (fun h => hM.next h)
        clear hM HNO HSS
        by_cases hlt : s.size < q.size
        · have m3 : (((q[s.size].toNat : Nat) : Int) != 47) = false := by rw [HM3.out hlt]; rfl
          go_wp2
          go_ret2
          exact ⟨HF.out, HW.out⟩
        · go_wp2
          go_ret2
          exact ⟨HF.out, HW.out⟩
      · have HF := hid (show Found S q (.returned (.tuple #[.pointer none, .int .i64 0])) from .inr ⟨HNO.out hM, rfl⟩)
        clear HNO HSS
        by_cases m1 : s.size ≤ q.size
        · by_cases m2 : (q.extract 0 s.size).toList = s.toList
          · by_cases hlt : s.size < q.size
            · have m3 : (((q[s.size].toNat : Nat) : Int) != 47) = true := by
                rw [bne_iff_ne]
                intro e
                exact hM (match_of m2 fun _ => e)
              clear hM
              go_wp2
              go_ret2
              exact ⟨HF.out, HW.out⟩
            · exact absurd (match_of m2 fun h => absurd h hlt) hM
          · clear hM
            go_wp2
            go_ret2
            exact ⟨HF.out, HW.out⟩
        · clear hM
          go_wp2
          go_ret2
          exact ⟨HF.out, HW.out⟩
    · rw [l0] at hv
      cases hv
      have p0 : wr.cell? ⟨bb, 0, none⟩ = some (.int .i64 pos) := by simp [World.cell?, show wr.heap[bb]? = _ from hb]
      have p1 : wr.cell? ⟨bb, 1, none⟩ = some (.string P) := by simp [World.cell?, show wr.heap[bb]? = _ from hb]
      have p2 : wr.cell? ⟨bb, 2, none⟩ = some (.int .u8 lo.toNat) := by simp [World.cell?, show wr.heap[bb]? = _ from hb]
      have p3 : wr.cell? ⟨bb, 3, none⟩ = some (.slice (some ⟨ab, 0, none⟩) kk kk) := by simp [World.cell?, show wr.heap[bb]? = _ from hb]
      have HPOS : Hid (∀ t c, S' t c → pos ≤ t.size) := pos_le hk2 hP.inj (fun i hi => (hTf i hi).inhab) (fun t c ht => HC.out t c (HS.out t c ht)) h3 h4 h5
      have HARM : Hid (∀ t c, S t c → Match q.data.toList t.data.toList → ∃ i, i < kk ∧ Sf i t c ∧ bAt q.data.toList pos = ch i) := fun t c ht hm => by
        have ht' := HK.out t c ht hm
        obtain ⟨i, hi, hx⟩ := (h3 t c).1 ht'
        exact ⟨i, hi, hx, (hm.agree pos (HPOS.out t c ht')).trans (h5 i t c hi hx)⟩
      have HSUB : Hid (∀ i t c, i < kk → Sf i t c → S t c) := fun i t c hi hx => HS.out t c ((h3 t c).2 ⟨i, hi, hx⟩)
      have HP := hid hP
      have HTF := hid hTf
      obtain ⟨d, hd⟩ : ∃ d : Nat, d = (bAt q.data.toList pos - lo).toNat := ⟨_, rfl⟩
      have hb1 := (bAt q.data.toList pos).toNat_lt
      have hb2 := lo.toNat_lt
      have hdd : (((bAt q.data.toList pos).toNat : Int) - lo.toNat) % 256 = d := by rw [hd, sub_nat]; omega
      have HD := hid hd
      have hdl : d < 256 := by omega
      clear hP hTf hd h1 h2 h3 h4 h5 hb ha HK HPOS HS
      generalize hbyte : bAt q.data.toList pos = by0 at *
      have HCB : Hid (∀ wx, Calls Yba.prog 27 #[.string q, .int .i64 pos] wx fun e w' => e = .returned (.int .u8 by0.toNat) ∧ w' = wx) := fun wx =>
        (byteAt_any q pos wx).mono fun e w' h => ⟨by rw [h.1, hbyte], h.2.symm⟩
      clear hbyte
      by_cases hlt : d < P.size
      · have hg : P.data.toList.getD d 0 = P[d] := by rw [List.getD, List.getElem?_eq_getElem (by simpa using hlt)]; rfl
        have hidx : pickIdx P.data.toList lo by0 = P[d].toNat := by unfold pickIdx; rw [← HD.out, hg]
        have hpk : P[d].toNat < kk := by have := HP.out.idx_lt (by omega) by0; rw [hidx] at this; exact this
        have hpk' : ((P[d].toNat : Nat) : Int) < (kk : Int) := by omega
        have HT1 := hid (HTF.out _ hpk)
        obtain ⟨v1, hv1⟩ := HT1.out.cell
        rw [Nat.mul_comm] at hv1
        have HIDX := hid hidx
        clear hg hidx
        go_wp2
        go_quiet ((go_at_call 27; exact Calls.quiet_of_same (HCB.out _)))
        go_wp2
        go_quiet (fail)
        go_wp2
        go_roundg k
        case measure => omega
        case rel =>
          refine ⟨ab, P[d].toNat * 3, Sf P[d].toNat, Ff P[d].toNat, rfl, by simpa using hv1, ?_, fun t c h => HSUB.out _ t c hpk h, fun t c ht hm => ?_, ?_⟩
          · have := HT1.out
            rw [Nat.mul_comm] at this
            exact this.drewN _
          · obtain ⟨i, hi, hx, he⟩ := HARM.out t c ht hm
            have := HP.out.idx_hit hi
            rw [← he, HIDX.out] at this
            rw [this]
            exact hx
          · obtain ⟨m, hm⟩ := HW.out
            exact ⟨_, by rw [hm, World.drewN_drewN]⟩
      · have HF := hid (show Found S q (.returned (.tuple #[.pointer none, .int .i64 0])) from .inr ⟨fun t c ht hm => by
          obtain ⟨i, hi, _, he⟩ := HARM.out t c ht hm
          have := (List.getElem?_eq_some_iff.1 (HP.out.hit i hi)).1
          rw [← he, ← HD.out] at this
          simp at this
          omega, rfl⟩)
        go_wp2
        go_quiet ((go_at_call 27; exact Calls.quiet_of_same (HCB.out _)))
        go_wp2
        go_ret2
        obtain ⟨m, hm⟩ := HW.out
        exact ⟨HF.out, _, by rw [hm, World.drewN_drewN]⟩

theorem find_nil (q : ByteArray) (w : World) :
    Calls Yba.prog 16 #[.pointer none, .string q] w fun e w' => e = .returned (.tuple #[.pointer none, .int .i64 0]) ∧ w = w' := by
  go_enter Yba.func16, Yba.ntmps16
  go_wp2
  go_ret2
  exact ⟨rfl, rfl⟩

end Go.Proofs.Ybulkavso
