/-
codepoint.Check: what it hands back for every string.
-/
import Derived.Test.YtdbjhobkhjneeaaGreatDoorShelf
import Derived.Lib.RuneCountTail
set_option linter.all false
namespace Go.Proofs
open Go Go.RowKit Go.Lib
def vy (s : ByteArray) : Nat -> Nat -> Option Nat
  |0, _ => none
  |n+1, pos => if pos < s.size then (if (Utf8.decode s pos).1 = 65533 /\ (Utf8.decode s pos).2 = 1 then some pos else vy s n (pos+(Utf8.decode s pos).2)) else none
def aeO (o : Option Nat) : Int := match o with|some i => i|none => -1
def XM (o : Option Nat) : Int := match o with|some _ => 11|none => 0
def EY s pos (h : pos < s.size) : 1 <= (Utf8.decode s pos).2 :=by
  by_cases ha : (s[pos]'h).toNat < 128
  · rw[decode_ascii s pos h ha]
    exact Nat.le_refl _
  · exact (decode_high s pos h (by omega)).2
def RR s : ∀n m pos , s.size-pos < n -> s.size-pos < m -> vy s n pos = vy s m pos
  |0, _, _, h, _ => by omega
  |_+1, 0, _, _, h => by omega
  |n+1, m+1, pos, h1, h2 =>by
    simp[vy];split
    · rename_i hp
      split
      · rfl
      · have := EY s pos hp
        exact RR s n m _ (by omega) (by omega)
    · rfl
def N9 s pos (h : pos < s.size) : Lib.decodeGo (s.extract pos s.size) = Utf8.decode s pos :=by
  have hz : (s.extract pos s.size).size ≠ 0 := by simp; omega
  have := Lib.tail_decode s pos 0;unfold Lib.decodeGo;rw[if_neg hz, this]; rfl
def Qd {w w'} {k} {s} {pos} (h : Below w.heap.size w w') (hk : w.heap.size <= k) : Below w.heap.size w (w'.iterAt k s pos) :=by
  refine⟨h.os, h.tape, h.output, by simpa[World.iterAt] using h.size, λi hi => ?_⟩;simp[World.iterAt];rw[Array.getElem?_setIfInBounds_ne (by omega)];exact h.block i hi
def CK {w w'} (h : Below w.heap.size w w') {a} {v} (hv : w.cell? a = some v) : w'.cell? a = some v :=by
  unfold World.cell? at hv⊢;split at hv
  · rename_i hh
    rw[h.block _ (Array.getElem?_eq_some_iff.1 hh).1, hh]; exact hv
  · cases hv
def Qe {w w'} {g1 g2} (h : Below w.heap.size w w') (hT : Lib.Utf8Tabs g1 g2 w) : Lib.Utf8Tabs g1 g2 w':=
  ⟨λc hc => CK h (hT.1 c hc), λi hi => ⟨CK h (hT.2 i hi).1, CK h (hT.2 i hi).2⟩⟩
def agF {s} {pos} (hp : pos < s.size) (h1 : (Utf8.decode s pos).1 = 65533) (h2 : (Utf8.decode s pos).2 = 1) : vy s (s.size+1) pos = some pos :=by
  simp[vy, hp, h1, h2]
def RT {s} {pos} (hp : pos < s.size) (h : ¬((Utf8.decode s pos).1 = 65533 /\ (Utf8.decode s pos).2 = 1)) : vy s (s.size+1) pos = vy s (s.size+1) (pos+(Utf8.decode s pos).2) :=by
  have hw := EY s pos hp;rw[vy, if_pos hp, if_neg h];exact RR s _ _ _ (by omega) (by omega)
set_option maxRecDepth 1000000 in
def Oa (s : ByteArray) (w : World) (hT : Lib.Utf8Tabs 1 2 w) :
    Calls Tryz.prog 59 #[.string s] w λe w' => e = .returned (.tuple #[.int .i64 (aeO (vy s (s.size+1) 0)), .int .i64 (XM (vy s (s.size+1) 0))]) /\ Below w.heap.size w w' :=by
  go_enter Tryz.func59, Tryz.ntmps59
  go_wp2
  go_loopw [] (λw' => ∃pos : Nat, w'.heap[w.heap.size]? = some (.stringIter s pos) /\ Below w.heap.size w w' /\ vy s (s.size+1) 0 = vy s (s.size+1) pos) (λw' => s.size-w'.iterPos w.heap.size)
  case atStart => exact⟨0, World.iter_heap w s 0, (Below.refl _ _).alloc (Nat.le_refl _) _, rfl⟩
  case round=>
    obtain⟨pos, hk, hb, hc⟩ := hrel;have hlt : w.heap.size < wr.heap.size := (Array.getElem?_eq_some_iff.1 hk).1;by_cases hp : pos < s.size
    · have hnx : ∀ty, (Instr.next (.pointer (some ⟨w.heap.size, 0, none⟩)) true ty).run Tryz.prog wr = _ := λty => run_next_any_at wr _ s pos ty hk hp
      have hw := EY s pos hp;have hk2 := iterAt_heap wr w.heap.size s pos (pos+(Utf8.decode s pos).2) hk;have hb2 := Qd (s := s) (pos := pos+(Utf8.decode s pos).2) hb (Nat.le_refl _);have hz2 : (wr.iterAt w.heap.size s (pos+(Utf8.decode s pos).2)).heap.size = wr.heap.size := iterAt_size _ _ _ _;have hT2 := Qe hb2 hT;have hmeas : ∀W2 : World, W2.heap[w.heap.size]? = some (.stringIter s (pos+(Utf8.decode s pos).2)) -> s.size-W2.iterPos w.heap.size < s.size-wr.iterPos w.heap.size :=by
        intro W2 h;simp[World.iterPos, h, hk]; omega
      by_cases hr : (((Utf8.decode s pos).1 : Int)==65533) = true
      · have hdec := N9 s pos hp
        have hr1 : (Utf8.decode s pos).1 = 65533 := (by have := of_decide_eq_true hr; omega);by_cases hn : (((Utf8.decode s pos).2 : Int)==1) = true
        · have hn1 : (Utf8.decode s pos).2 = 1 := by have := of_decide_eq_true hn; omega
          have HF : Hid (vy s (s.size+1) 0 = some pos) := Lib.hid (hc.trans (agF hp hr1 hn1));clear hc hr1 hn1
          go_wp2_with (go_at_call 71; refine (Tryz.utf8_DecodeRuneInString _ _ hT2).mono ?_; rintro e w2 ⟨rfl, hb3⟩)
          go_ret2
          rw[HF.out];exact⟨rfl, hb2.trans (hb3.mono (by rw[hz2]; omega))⟩
        · have hn1 : ¬(Utf8.decode s pos).2 = 1 := λe => hn (decide_eq_true (by omega))
          have HF : Hid (vy s (s.size+1) 0 = vy s (s.size+1) (pos+(Utf8.decode s pos).2)) := Lib.hid (hc.trans (RT hp (λe => hn1 e.2)));clear hc
          go_wp2_with (go_at_call 71; refine (Tryz.utf8_DecodeRuneInString _ _ hT2).mono ?_; rintro e w2 ⟨rfl, hb3⟩)
          have hk3 : w2.heap[w.heap.size]? = some (.stringIter s (pos+(Utf8.decode s pos).2)) := by rw[hb3.block _ (by rw[hz2]; exact hlt)]; exact hk2
          go_roundw
          case rel => exact⟨_, hk3, hb2.trans (hb3.mono (by rw[hz2]; omega)), HF.out⟩
          case measure => exact hmeas _ hk3
      · have hr1 : ¬(Utf8.decode s pos).1 = 65533 := λe => hr (decide_eq_true (by omega))
        have HF : Hid (vy s (s.size+1) 0 = vy s (s.size+1) (pos+(Utf8.decode s pos).2)) := Lib.hid (hc.trans (RT hp (λe => hr1 e.1)));clear hc
        go_wp2
        go_roundw
        case rel => exact⟨_, hk2, hb2, HF.out⟩
        case measure => exact hmeas _ hk2
    · have hnx : ∀ty, (Instr.next (.pointer (some ⟨w.heap.size, 0, none⟩)) true ty).run Tryz.prog wr = _ := λty => run_next_end_at wr _ s pos ty hk hp
      have HF : Hid (vy s (s.size+1) 0 = none) := Lib.hid (hc.trans (by simp[vy, hp]));clear hc
      go_wp2
      go_ret2
      rw[HF.out];exact⟨rfl, hb⟩
end Go.Proofs
