/-
codepoint.Check: what it hands back for every string.
-/
import Derived.Test.YtdbjhobkhjneeaaGreatDoorShelf
import Derived.Lib.RuneCountTail
set_option linter.all false
namespace Go.Proofs
open Go Go.RowKit Go.Lib
def vC (s : ByteArray) : Nat -> Nat -> Option Nat
  |0, _ => none
  |n+1, pos => if pos < s.size then (if (Utf8.decode s pos).1 = 65533 /\ (Utf8.decode s pos).2 = 1 then some pos else vC s n (pos+(Utf8.decode s pos).2)) else none
def ae1 (o : Option Nat) : Int := match o with|some i => i|none => -1
def Yc (o : Option Nat) : Int := match o with|some _ => 11|none => 0
def E8 s pos (h : pos < s.size) : 1 <= (Utf8.decode s pos).2 :=by
  by_cases ha : (s[pos]'h).toNat < 128
  · rw[decode_ascii s pos h ha]
    exact Nat.le_refl _
  · exact (decode_high s pos h (by omega)).2
def Sn s : ∀n m pos , s.size-pos < n -> s.size-pos < m -> vC s n pos = vC s m pos
  |0, _, _, h, _ => by omega
  |_+1, 0, _, _, h => by omega
  |n+1, m+1, pos, h1, h2 =>by
    simp[vC];split
    · rename_i hp
      split
      · rfl
      · have := E8 s pos hp
        exact Sn s n m _ (by omega) (by omega)
    · rfl
def Oo s pos (h : pos < s.size) : Lib.decodeGo (s.extract pos s.size) = Utf8.decode s pos :=by
  have hz : (s.extract pos s.size).size ≠ 0 := by simp; omega
  have := Lib.tail_decode s pos 0;unfold Lib.decodeGo;rw[if_neg hz, this]; rfl
def Qy {w w'} {k} {s} {pos} (h : Below w.heap.size w w') (hk : w.heap.size <= k) : Below w.heap.size w (w'.iterAt k s pos) :=by
  refine⟨h.os, h.tape, h.output, by simpa[World.iterAt] using h.size, λi hi => ?_⟩;simp[World.iterAt];rw[Array.getElem?_setIfInBounds_ne (by omega)];exact h.block i hi
def CR {w w'} (h : Below w.heap.size w w') {a} {v} (hv : w.cell? a = some v) : w'.cell? a = some v :=by
  unfold World.cell? at hv⊢;split at hv
  · rename_i hh
    rw[h.block _ (Array.getElem?_eq_some_iff.1 hh).1, hh]; exact hv
  · cases hv
def Qz {w w'} {g1 g2} (h : Below w.heap.size w w') (hT : Lib.Utf8Tabs g1 g2 w) : Lib.Utf8Tabs g1 g2 w':=
  ⟨λc hc => CR h (hT.1 c hc), λi hi => ⟨CR h (hT.2 i hi).1, CR h (hT.2 i hi).2⟩⟩
def agT {s} {pos} (hp : pos < s.size) (h1 : (Utf8.decode s pos).1 = 65533) (h2 : (Utf8.decode s pos).2 = 1) : vC s (s.size+1) pos = some pos :=by
  simp[vC, hp, h1, h2]
def So {s} {pos} (hp : pos < s.size) (h : ¬((Utf8.decode s pos).1 = 65533 /\ (Utf8.decode s pos).2 = 1)) : vC s (s.size+1) pos = vC s (s.size+1) (pos+(Utf8.decode s pos).2) :=by
  have hw := E8 s pos hp;rw[vC, if_pos hp, if_neg h];exact Sn s _ _ _ (by omega) (by omega)
set_option maxRecDepth 1000000 in
def Oq (s : ByteArray) (w : World) (hT : Lib.Utf8Tabs 1 2 w) :
    Calls Tryz.prog 59 #[.string s] w λe w' => e = .returned (.tuple #[.int .i64 (ae1 (vC s (s.size+1) 0)), .int .i64 (Yc (vC s (s.size+1) 0))]) /\ Below w.heap.size w w' :=by
  go_enter Tryz.func59, Tryz.ntmps59
  go_wp2
  go_loopw [] (λw' => ∃pos : Nat, w'.heap[w.heap.size]? = some (.stringIter s pos) /\ Below w.heap.size w w' /\ vC s (s.size+1) 0 = vC s (s.size+1) pos) (λw' => s.size-w'.iterPos w.heap.size)
  case atStart => exact⟨0, World.iter_heap w s 0, (Below.refl _ _).alloc (Nat.le_refl _) _, rfl⟩
  case round=>
    obtain⟨pos, hk, hb, hc⟩ := hrel;have hlt : w.heap.size < wr.heap.size := (Array.getElem?_eq_some_iff.1 hk).1;by_cases hp : pos < s.size
    · have hnx : ∀ty, (Instr.next (.pointer (some ⟨w.heap.size, 0, none⟩)) true ty).run Tryz.prog wr = _ := λty => run_next_any_at wr _ s pos ty hk hp
      have hw := E8 s pos hp;have hk2 := iterAt_heap wr w.heap.size s pos (pos+(Utf8.decode s pos).2) hk;have hb2 := Qy (s := s) (pos := pos+(Utf8.decode s pos).2) hb (Nat.le_refl _);have hz2 : (wr.iterAt w.heap.size s (pos+(Utf8.decode s pos).2)).heap.size = wr.heap.size := iterAt_size _ _ _ _;have hT2 := Qz hb2 hT;have hmeas : ∀W2 : World, W2.heap[w.heap.size]? = some (.stringIter s (pos+(Utf8.decode s pos).2)) -> s.size-W2.iterPos w.heap.size < s.size-wr.iterPos w.heap.size :=by
        intro W2 h;simp[World.iterPos, h, hk]; omega
      by_cases hr : (((Utf8.decode s pos).1 : Int)==65533) = true
      · have hdec := Oo s pos hp
        have hr1 : (Utf8.decode s pos).1 = 65533 := (by have := of_decide_eq_true hr; omega);by_cases hn : (((Utf8.decode s pos).2 : Int)==1) = true
        · have hn1 : (Utf8.decode s pos).2 = 1 := by have := of_decide_eq_true hn; omega
          have HF : Hid (vC s (s.size+1) 0 = some pos) := Lib.hid (hc.trans (agT hp hr1 hn1));clear hc hr1 hn1
          go_wp2_with (go_at_call 71; refine (Tryz.utf8_DecodeRuneInString _ _ hT2).mono ?_; rintro e w2 ⟨rfl, hb3⟩)
          go_ret2
          rw[HF.out];exact⟨rfl, hb2.trans (hb3.mono (by rw[hz2]; omega))⟩
        · have hn1 : ¬(Utf8.decode s pos).2 = 1 := λe => hn (decide_eq_true (by omega))
          have HF : Hid (vC s (s.size+1) 0 = vC s (s.size+1) (pos+(Utf8.decode s pos).2)) := Lib.hid (hc.trans (So hp (λe => hn1 e.2)));clear hc
          go_wp2_with (go_at_call 71; refine (Tryz.utf8_DecodeRuneInString _ _ hT2).mono ?_; rintro e w2 ⟨rfl, hb3⟩)
          have hk3 : w2.heap[w.heap.size]? = some (.stringIter s (pos+(Utf8.decode s pos).2)) := by rw[hb3.block _ (by rw[hz2]; exact hlt)]; exact hk2
          go_roundw
          case rel => exact⟨_, hk3, hb2.trans (hb3.mono (by rw[hz2]; omega)), HF.out⟩
          case measure => exact hmeas _ hk3
      · have hr1 : ¬(Utf8.decode s pos).1 = 65533 := λe => hr (decide_eq_true (by omega))
        have HF : Hid (vC s (s.size+1) 0 = vC s (s.size+1) (pos+(Utf8.decode s pos).2)) := Lib.hid (hc.trans (So hp (λe => hr1 e.1)));clear hc
        go_wp2
        go_roundw
        case rel => exact⟨_, hk2, hb2, HF.out⟩
        case measure => exact hmeas _ hk2
    · have hnx : ∀ty, (Instr.next (.pointer (some ⟨w.heap.size, 0, none⟩)) true ty).run Tryz.prog wr = _ := λty => run_next_end_at wr _ s pos ty hk hp
      have HF : Hid (vC s (s.size+1) 0 = none) := Lib.hid (hc.trans (by simp[vC, hp]));clear hc
      go_wp2
      go_ret2
      rw[HF.out];exact⟨rfl, hb⟩
end Go.Proofs
