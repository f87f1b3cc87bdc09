/-
  The loop of (*Router).store over the trees of all methods.
-/
import Derived.Test.YbulkavsoRing2
import Derived.Maps.OwnIn
namespace Go.Proofs.Ybulkavso
open Go.RowKit Go.Shelf
attribute [local go_sem] Oper.semAt_some

/-- The first range over a function in a code. -/
def firstRange : Code → Option Code
  | .rangeFunc g ps a b => some (.rangeFunc g ps a b)
  | .seq a b => match firstRange a with
    | some c => some c
    | none => firstRange b
  | .block _ c => firstRange c
  | .scope c => firstRange c
  | .cond _ a b => match firstRange a with
    | some c => some c
    | none => firstRange b
  | _ => none
/-- c is the loop of store. -/
def IsLoop (c : Code) : Prop := c = (Yba.f10.body.bind firstRange).getD .skip

theorem KpT.putObj {rt Bt : Nat} {W : World} {n l : Nat} {o o' : Obj} (hrt : rt < n) (hBt : Bt < n) (hl : n ≤ l) (ho : W.heap[l]? = some o) (hw : o.isWalk = false) : KpT rt Bt W (W.putObj l o') := by
  refine ⟨⟨by simp [World.putObj], fun k o2 hk hw2 => ?_⟩, World.putObj_heap_other (by omega), World.putObj_heap_other (by omega)⟩
  rw [World.putObj_heap_other (fun e => by
    subst e
    rw [ho] at hk
    cases hk
    rw [hw] at hw2
    cases hw2)]
  exact hk

theorem all_stops {n Bt rt : Nat} {root : Nat → Option Nat} {ms : Nat → ByteArray} {c0 c1 c2 c3 : Value} {mo : Option Nat} {W2 : World} (hn : 1 ≤ n) (hBt : W2.heap[Bt]? = some (.cells #[.pointer (some ⟨rt, 4, none⟩)] 78)) (hrt : W2.heap[rt]? = some (.cells (rcells c0 c1 c2 c3 ms root mo) 34)) (hmap : MapIs W2 mo (root 4)) :
    SeqStopsK Fence.wide n Yba.prog 32 #[.pointer (some ⟨Bt, 0, none⟩)] (encT ms) (KpT rt Bt) (AllT (root := root)) (fun _ => True) 20 W2 := by
  intro l J Jx W hb hJ _ hY h0
  exact all1_in Fence.wide n trivial rfl hn l Bt rt root ms c0 c1 c2 c3 mo J Jx hY W hJ ((hb.block Bt (Array.getElem?_eq_some_iff.1 hBt).1).trans hBt) ((hb.block rt (Array.getElem?_eq_some_iff.1 hrt).1).trans hrt) (hmap.move (fun x hx _ => hb.block x hx)) h0

set_option maxRecDepth 1000000 in
set_option maxHeartbeats 2000000 in
theorem ring_code (hins : InsertLaw) (W2 : World) (rt Bt B6 B7 g cap r : Nat) (R : Nat → Tell) (F : Nat → Nat → Prop) (root : Nat → Option Nat) (ss : List Seg) (h : Rout W2 rt root R F) (hBt : W2.heap[Bt]? = some (.cells #[.pointer (some ⟨rt, 4, none⟩)] 78)) (nBt : ¬ FR rt F Bt)
    (b6 : W2.heap[B6]? = some (.cells #[.slice (some ⟨g, 0, none⟩) ss.length cap] 38)) (n6 : ¬ FR rt F B6) (b7 : W2.heap[B7]? = some (.cells #[.pointer (some ⟨r, 0, none⟩)] 44)) (n7 : ¬ FR rt F B7) (hrow : SegRow W2 g ss) (hg : ¬ FR rt F g) (hok : ∀ s ∈ ss, SegOk s) (hlen : ss.length ≤ 256)
    (cd : Code) (hcd : IsLoop cd) (Q : Exit → Act → World → Prop) (u0 u1 u2 u3 u4 u5 u8 u9 u10 u11 u12 u13 u14 u15 u16 u17 u18 u19 u20 u21 u22 u23 u24 u25 u26 u27 u28 u29 u30 u31 u32 u33 u34 u35 u37 u38 u39 u40 u41 u42 u43 u44 u45 u46 u47 u48 u49 u50 u51 u52 u53 u54 u55 u56 u57 u58 u59 u60 u61 u62 u63 u64 u65 u66 u67 u68 u69 u70 u71 u72 u73 u74 : Value)
    (hdone : ∀ (D : Nat) (xs : List (TM root)) (W' : World), W2.heap.size ≤ D → AllT xs → Ring W2 rt Bt root R F (keys ss) r xs W' → W'.heap[D]? = some (.deferred (some [])) → Q .normal { tmps := #[u0, u1, u2, u3, u4, u5, .pointer (some ⟨B6, 0, none⟩), .pointer (some ⟨B7, 0, none⟩), u8, u9, u10, u11, u12, u13, u14, u15, u16, u17, u18, u19, u20, u21, u22, u23, u24, u25, u26, u27, u28, u29, u30, u31, u32, u33, u34, u35, .func (.func 32) #[] #[.pointer (some ⟨Bt, 0, none⟩)], u37, u38, u39, u40, u41, u42, u43, u44, u45, u46, u47, u48, u49, u50, u51, u52, u53, u54, u55, u56, u57, u58, u59, u60, u61, u62, u63, u64, u65, u66, u67, u68, u69, u70, u71, u72, u73, u74], defers := [{ target := .collected D, args := #[] }] } W') :
    Code.wp Yba.prog cd Q { tmps := #[u0, u1, u2, u3, u4, u5, .pointer (some ⟨B6, 0, none⟩), .pointer (some ⟨B7, 0, none⟩), u8, u9, u10, u11, u12, u13, u14, u15, u16, u17, u18, u19, u20, u21, u22, u23, u24, u25, u26, u27, u28, u29, u30, u31, u32, u33, u34, u35, .func (.func 32) #[] #[.pointer (some ⟨Bt, 0, none⟩)], u37, u38, u39, u40, u41, u42, u43, u44, u45, u46, u47, u48, u49, u50, u51, u52, u53, u54, u55, u56, u57, u58, u59, u60, u61, u62, u63, u64, u65, u66, u67, u68, u69, u70, u71, u72, u73, u74], defers := [] } W2 := by
  obtain ⟨c0, c1, c2, c3, ms, mo, o1, o2⟩ := h.obj
  have hrt := h.lt
  have hBtl : Bt < W2.heap.size := (Array.getElem?_eq_some_iff.1 hBt).1
  have h6l : B6 < W2.heap.size := (Array.getElem?_eq_some_iff.1 b6).1
  have h7l : B7 < W2.heap.size := (Array.getElem?_eq_some_iff.1 b7).1
  have hst : Ring W2 rt Bt root R F (keys ss) r [] W2 := ⟨KpT.refl _ _ _, Upd.refl _ _, F, h.trees, fun _ _ e => .inl e⟩
  obtain rfl : cd = _ := hcd
  conv => arg 2; whnf
  refine wpIn_wide.1 (wpIn_rangeFunc_ownF (F := Fence.wide) (n := 6) rfl (by omega) (gf := 32) (lb := #[.pointer (some ⟨Bt, 0, none⟩)]) rfl trivial (enters_of Yba.func32 (by kernel_rfl) rfl)
    (all_stops (by omega) hBt o1 o2) KpT.trans (fun W l o o' hl ho _ hw => KpT.putObj hrt hBtl hl ho hw) (Below.refl _ _) (fun _ => rfl) (Ring W2 rt Bt root R F (keys ss) r) (fun _ _ _ => False) (Ring.own hrt hBtl) (fun _ _ _ _ _ h _ _ => h) hst
    (fun x => { tmps := #[u0, u1, u2, u3, u4, u5, .pointer (some ⟨B6, 0, none⟩), .pointer (some ⟨B7, 0, none⟩), u8, .pointer (some ⟨x.1.2, 0, none⟩), u10, u11, u12, u13, u14, u15, u16, u17, u18, u19, u20, u21, u22, u23, u24, u25, u26, u27, u28, u29, u30, u31, u32, u33, u34, u35, .func (.func 32) #[] #[.pointer (some ⟨Bt, 0, none⟩)], .string (nmT ms x.1.1), .pointer (some ⟨x.1.2, 0, none⟩), u39, u40, u41, u42, u43, u44, u45, u46, u47, u48, u49, u50, u51, u52, u53, u54, u55, u56, u57, u58, u59, u60, u61, u62, u63, u64, u65, u66, u67, u68, u69, u70, u71, u72, u73, u74], defers := [] }) ?assign ?body ?done ?stop)
  case assign =>
    intro l x W K hK
    simp only [encT]
    gi_wp2
    exact hK
  case body =>
    rintro l pre x W hI _
    have k6 : W.cell? ⟨B6, 0, none⟩ = some (.slice (some ⟨g, 0, none⟩) ss.length cap) := (cell_at ((hI.2.1.block B6 h6l n6).trans b6) _).trans rfl
    have HC := ring_walk (cap := cap) hins x hrt hBtl (fun m e => nBt (.inr ⟨m, e⟩)) hI hrow hg hok hlen h7l n7
    cases hrho : Rp R (keys ss) r pre x.1.1 (keys ss) with
    | none =>
      have HC2 : Hid (Calls Yba.prog 11 #[.pointer (some ⟨x.1.2, 0, none⟩), .slice (some ⟨g, 0, none⟩) ss.length cap, .bool true] W fun e w4 => ∃ d, e = .returned (.pointer (some ⟨d, 0, none⟩)) ∧ w4.cell? ⟨d, 0, none⟩ = some (.pointer none) ∧ w4.frozen? ⟨d, 0, none⟩ = false ∧ w4.cell? ⟨B7, 0, none⟩ = some (.pointer (some ⟨r, 0, none⟩)) ∧
          Hid (RingPost W2 rt Bt root R F (keys ss) r pre x W (w4.setCell ⟨d, 0, none⟩ (.pointer (some ⟨r, 0, none⟩))))) := by
        refine HC.mono ?_
        rintro e w4 ⟨d, rfl, q1, q2, q3, q4, q5⟩
        rw [hrho] at q1
        exact ⟨d, rfl, q1, q2, (cell_at (q3.trans b7) _).trans rfl, q5.out hrho⟩
      clear HC hrho hI b6 n6 b7 n7 hrow hg hok hBt nBt h o1 o2 hst hins hdone
      gi_wp2_with (refine ⟨trivial, ?_⟩; gi_at_call 11; refine (CallsIn.inRound l (callsIn_wide.2 HC2.out)).mono ?_; rintro e w4 ⟨d, rfl, q1, q2, q3, HN⟩)
      exact HN.out
    | some v =>
      have HC2 : Hid (Calls Yba.prog 11 #[.pointer (some ⟨x.1.2, 0, none⟩), .slice (some ⟨g, 0, none⟩) ss.length cap, .bool true] W fun e w4 => ∃ d, e = .returned (.pointer (some ⟨d, 0, none⟩)) ∧ w4.cell? ⟨d, 0, none⟩ = some (.pointer (some ⟨v, 0, none⟩)) ∧
          Hid (RingPost W2 rt Bt root R F (keys ss) r pre x W w4)) := by
        refine HC.mono ?_
        rintro e w4 ⟨d, rfl, q1, q2, q3, q4, q5⟩
        rw [hrho] at q1
        exact ⟨d, rfl, q1, q4.out (by rw [hrho]; simp)⟩
      clear HC hrho hI b6 n6 b7 n7 hrow hg hok hBt nBt h o1 o2 hst hins hdone
      gi_wp2_with (refine ⟨trivial, ?_⟩; gi_at_call 11; refine (CallsIn.inRound l (callsIn_wide.2 HC2.out)).mono ?_; rintro e w4 ⟨d, rfl, q1, HN⟩)
      exact HN.out
  case done =>
    intro D xs W' hD hA hI hK
    exact hdone D xs W' hD hA hI hK
  case stop =>
    rintro D c pre W _ _ h _
    exact h.elim

end Go.Proofs.Ybulkavso
