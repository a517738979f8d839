/-
codepoint.Check: what it hands back for every string.
-/
import Derived.Test.YthcljaholofonaaGreatDoorShelf
import Derived.Lib.RuneCountTail
set_option linter.all false
namespace Go.Proofs
open Go Go.RowKit Go.Lib
def rY (s : ByteArray) : Nat -> Nat -> Option Nat
  |0, _ => none
  |n+1, pos => if pos < s.size then (if (Utf8.decode s pos).1 = 65533 /\ (Utf8.decode s pos).2 = 1 then some pos else rY s n (pos+(Utf8.decode s pos).2)) else none
def ahu (o : Option Nat) : Int := match o with|some i => i|none => -1
def Uv (o : Option Nat) : Int := match o with|some _ => 11|none => 0
def width_pos s pos (h : pos < s.size) : 1 <= (Utf8.decode s pos).2 :=by
  by_cases ha : (s[pos]'h).toNat < 128
  · rw[decode_ascii s pos h ha]
    exact Nat.le_refl _
  · exact (decode_high s pos h (by omega)).2
theorem NK s : ∀n m pos , s.size-pos < n -> s.size-pos < m -> rY s n pos = rY s m pos
  |0, _, _, h, _ => by omega
  |_+1, 0, _, _, h => by omega
  |n+1, m+1, pos, h1, h2 =>by
    simp[rY];split
    · rename_i hp
      split
      · rfl
      · have := width_pos s pos hp
        exact NK s n m _ (by omega) (by omega)
    · rfl
def Qj s pos (h : pos < s.size) : Lib.decodeGo (s.extract pos s.size) = Utf8.decode s pos :=by
  have hz : (s.extract pos s.size).size ≠ 0 := by simp; omega
  have := Lib.tail_decode s pos 0;unfold Lib.decodeGo;rw[if_neg hz, this]; rfl
def R7 {w w'} {k} {s} {pos} (h : Below w.heap.size w w') (hk : w.heap.size <= k) : Below w.heap.size w (w'.iterAt k s pos) :=by
  refine⟨h.os, h.tape, h.output, by simpa[World.iterAt] using h.size, λi hi => ?_⟩;simp[World.iterAt];rw[Array.getElem?_setIfInBounds_ne (by omega)];exact h.block i hi
def Fg {w w'} (h : Below w.heap.size w w') {a} {v} (hv : w.cell? a = some v) : w'.cell? a = some v :=by
  unfold World.cell? at hv⊢;split at hv
  · rename_i hh
    rw[h.block _ (Array.getElem?_eq_some_iff.1 hh).1, hh]; exact hv
  · cases hv
def R8 {w w'} {g1 g2} (h : Below w.heap.size w w') (hT : Lib.Utf8Tabs g1 g2 w) : Lib.Utf8Tabs g1 g2 w':=
  ⟨λc hc => Fg h (hT.1 c hc), λi hi => ⟨Fg h (hT.2 i hi).1, Fg h (hT.2 i hi).2⟩⟩
theorem Z4 {s} {pos} (hp : pos < s.size) (h1 : (Utf8.decode s pos).1 = 65533) (h2 : (Utf8.decode s pos).2 = 1) : rY s (s.size+1) pos = some pos :=by
  simp[rY, hp, h1, h2]
def NM {s} {pos} (hp : pos < s.size) (h : ¬((Utf8.decode s pos).1 = 65533 /\ (Utf8.decode s pos).2 = 1)) : rY s (s.size+1) pos = rY s (s.size+1) (pos+(Utf8.decode s pos).2) :=by
  have hw := width_pos s pos hp;rw[rY, if_pos hp, if_neg h];exact NK s _ _ _ (by omega) (by omega)
set_option maxRecDepth 1000000 in
def Qk (s : ByteArray) (w : World) (hT : Lib.Utf8Tabs 0 1 w) :
    Calls Tryz.prog 76 #[.string s] w λe w' => e = .returned (.tuple #[.int .i64 (ahu (rY s (s.size+1) 0)), .int .i64 (Uv (rY s (s.size+1) 0))]) /\ Below w.heap.size w w' :=by
  go_enter Tryz.func76, Tryz.ntmps76
  go_wp2
  go_loopw [] (λw' => ∃pos : Nat, w'.heap[w.heap.size]? = some (.stringIter s pos) /\ Below w.heap.size w w' /\ rY s (s.size+1) 0 = rY s (s.size+1) pos) (λw' => s.size-w'.iterPos w.heap.size)
  case atStart => exact⟨0, World.iter_heap w s 0, (Below.refl _ _).alloc (Nat.le_refl _) _, rfl⟩
  case round=>
    obtain⟨pos, hk, hb, hc⟩ := hrel;have hlt : w.heap.size < wr.heap.size := (Array.getElem?_eq_some_iff.1 hk).1;by_cases hp : pos < s.size
    · have hnx : ∀ty, (Instr.next (.pointer (some ⟨w.heap.size, 0, none⟩)) true ty).run Tryz.prog wr = _ := λty => run_next_any_at wr _ s pos ty hk hp
      have hw := width_pos s pos hp;have hk2 := iterAt_heap wr w.heap.size s pos (pos+(Utf8.decode s pos).2) hk;have hb2 := R7 (s := s) (pos := pos+(Utf8.decode s pos).2) hb (Nat.le_refl _);have hz2 : (wr.iterAt w.heap.size s (pos+(Utf8.decode s pos).2)).heap.size = wr.heap.size := iterAt_size _ _ _ _;have hT2 := R8 hb2 hT;have hmeas : ∀W2 : World, W2.heap[w.heap.size]? = some (.stringIter s (pos+(Utf8.decode s pos).2)) -> s.size-W2.iterPos w.heap.size < s.size-wr.iterPos w.heap.size :=by
        intro W2 h;simp[World.iterPos, h, hk]; omega
      by_cases hr : (((Utf8.decode s pos).1 : Int)==65533) = true
      · have hdec := Qj s pos hp
        have hr1 : (Utf8.decode s pos).1 = 65533 := (by have := of_decide_eq_true hr; omega);by_cases hn : (((Utf8.decode s pos).2 : Int)==1) = true
        · have hn1 : (Utf8.decode s pos).2 = 1 := by have := of_decide_eq_true hn; omega
          have HF : Hid (rY s (s.size+1) 0 = some pos) := Lib.hid (hc.trans (Z4 hp hr1 hn1));clear hc hr1 hn1
          go_wp2_with (go_at_call 107; refine (Tryz.utf8_DecodeRuneInString _ _ hT2).mono ?_; rintro e w2 ⟨rfl, hb3⟩)
          go_ret2
          rw[HF.out];exact⟨rfl, hb2.trans (hb3.mono (by rw[hz2]; omega))⟩
        · have hn1 : ¬(Utf8.decode s pos).2 = 1 := λe => hn (decide_eq_true (by omega))
          have HF : Hid (rY s (s.size+1) 0 = rY s (s.size+1) (pos+(Utf8.decode s pos).2)) := Lib.hid (hc.trans (NM hp (λe => hn1 e.2)));clear hc
          go_wp2_with (go_at_call 107; refine (Tryz.utf8_DecodeRuneInString _ _ hT2).mono ?_; rintro e w2 ⟨rfl, hb3⟩)
          have hk3 : w2.heap[w.heap.size]? = some (.stringIter s (pos+(Utf8.decode s pos).2)) := by rw[hb3.block _ (by rw[hz2]; exact hlt)]; exact hk2
          go_roundw
          case rel => exact⟨_, hk3, hb2.trans (hb3.mono (by rw[hz2]; omega)), HF.out⟩
          case measure => exact hmeas _ hk3
      · have hr1 : ¬(Utf8.decode s pos).1 = 65533 := λe => hr (decide_eq_true (by omega))
        have HF : Hid (rY s (s.size+1) 0 = rY s (s.size+1) (pos+(Utf8.decode s pos).2)) := Lib.hid (hc.trans (NM hp (λe => hr1 e.1)));clear hc
        go_wp2
        go_roundw
        case rel => exact⟨_, hk2, hb2, HF.out⟩
        case measure => exact hmeas _ hk2
    · have hnx : ∀ty, (Instr.next (.pointer (some ⟨w.heap.size, 0, none⟩)) true ty).run Tryz.prog wr = _ := λty => run_next_end_at wr _ s pos ty hk hp
      have HF : Hid (rY s (s.size+1) 0 = none) := Lib.hid (hc.trans (by simp[rY, hp]));clear hc
      go_wp2
      go_ret2
      rw[HF.out];exact⟨rfl, hb⟩
end Go.Proofs
