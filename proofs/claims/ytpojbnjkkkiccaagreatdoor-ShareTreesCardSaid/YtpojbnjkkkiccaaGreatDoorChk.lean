/-
codepoint.Check: what it hands back for every string.
-/
import Derived.Test.YtpojbnjkkkiccaaGreatDoorShelf
import Derived.Lib.RuneCountTail
set_option linter.all false
namespace Go.Proofs
open Go Go.RowKit Go.Lib
def wE (s : ByteArray) : Nat -> Nat -> Option Nat
  |0, _ => none
  |n+1, pos => if pos < s.size then (if (Utf8.decode s pos).1 = 65533 /\ (Utf8.decode s pos).2 = 1 then some pos else wE s n (pos+(Utf8.decode s pos).2)) else none
def agu (o : Option Nat) : Int := match o with|some i => i|none => -1
def Zs (o : Option Nat) : Int := match o with|some _ => 11|none => 0
def G4 s pos (h : pos < s.size) : 1 <= (Utf8.decode s pos).2 :=by
  by_cases ha : (s[pos]'h).toNat < 128
  · rw[decode_ascii s pos h ha]
    exact Nat.le_refl _
  · exact (decode_high s pos h (by omega)).2
def Uf s : ∀n m pos , s.size-pos < n -> s.size-pos < m -> wE s n pos = wE s m pos
  |0, _, _, h, _ => by omega
  |_+1, 0, _, _, h => by omega
  |n+1, m+1, pos, h1, h2 =>by
    simp[wE];split
    · rename_i hp
      split
      · rfl
      · have := G4 s pos hp
        exact Uf s n m _ (by omega) (by omega)
    · rfl
def PW s pos (h : pos < s.size) : Lib.decodeGo (s.extract pos s.size) = Utf8.decode s pos :=by
  have hz : (s.extract pos s.size).size ≠ 0 := by simp; omega
  have := Lib.tail_decode s pos 0;unfold Lib.decodeGo;rw[if_neg hz, this]; rfl
def RL {w w'} {k} {s} {pos} (h : Below w.heap.size w w') (hk : w.heap.size <= k) : Below w.heap.size w (w'.iterAt k s pos) :=by
  refine⟨h.os, h.tape, h.output, by simpa[World.iterAt] using h.size, λi hi => ?_⟩;simp[World.iterAt];rw[Array.getElem?_setIfInBounds_ne (by omega)];exact h.block i hi
def Es {w w'} (h : Below w.heap.size w w') {a} {v} (hv : w.cell? a = some v) : w'.cell? a = some v :=by
  unfold World.cell? at hv⊢;split at hv
  · rename_i hh
    rw[h.block _ (Array.getElem?_eq_some_iff.1 hh).1, hh]; exact hv
  · cases hv
def RM {w w'} {g1 g2} (h : Below w.heap.size w w') (hT : Lib.Utf8Tabs g1 g2 w) : Lib.Utf8Tabs g1 g2 w':=
  ⟨λc hc => Es h (hT.1 c hc), λi hi => ⟨Es h (hT.2 i hi).1, Es h (hT.2 i hi).2⟩⟩
def ait {s} {pos} (hp : pos < s.size) (h1 : (Utf8.decode s pos).1 = 65533) (h2 : (Utf8.decode s pos).2 = 1) : wE s (s.size+1) pos = some pos :=by
  simp[wE, hp, h1, h2]
def Ug {s} {pos} (hp : pos < s.size) (h : ¬((Utf8.decode s pos).1 = 65533 /\ (Utf8.decode s pos).2 = 1)) : wE s (s.size+1) pos = wE s (s.size+1) (pos+(Utf8.decode s pos).2) :=by
  have hw := G4 s pos hp;rw[wE, if_pos hp, if_neg h];exact Uf s _ _ _ (by omega) (by omega)
set_option maxRecDepth 1000000 in
def PX (s : ByteArray) (w : World) (hT : Lib.Utf8Tabs 1 2 w) :
    Calls Tryz.prog 53 #[.string s] w λe w' => e = .returned (.tuple #[.int .i64 (agu (wE s (s.size+1) 0)), .int .i64 (Zs (wE s (s.size+1) 0))]) /\ Below w.heap.size w w' :=by
  go_enter Tryz.func53, Tryz.ntmps53
  go_wp2
  go_loopw [] (λw' => ∃pos : Nat, w'.heap[w.heap.size]? = some (.stringIter s pos) /\ Below w.heap.size w w' /\ wE s (s.size+1) 0 = wE s (s.size+1) pos) (λw' => s.size-w'.iterPos w.heap.size)
  case atStart => exact⟨0, World.iter_heap w s 0, (Below.refl _ _).alloc (Nat.le_refl _) _, rfl⟩
  case round=>
    obtain⟨pos, hk, hb, hc⟩ := hrel;have hlt : w.heap.size < wr.heap.size := (Array.getElem?_eq_some_iff.1 hk).1;by_cases hp : pos < s.size
    · have hnx : ∀ty, (Instr.next (.pointer (some ⟨w.heap.size, 0, none⟩)) true ty).run Tryz.prog wr = _ := λty => run_next_any_at wr _ s pos ty hk hp
      have hw := G4 s pos hp;have hk2 := iterAt_heap wr w.heap.size s pos (pos+(Utf8.decode s pos).2) hk;have hb2 := RL (s := s) (pos := pos+(Utf8.decode s pos).2) hb (Nat.le_refl _);have hz2 : (wr.iterAt w.heap.size s (pos+(Utf8.decode s pos).2)).heap.size = wr.heap.size := iterAt_size _ _ _ _;have hT2 := RM hb2 hT;have hmeas : ∀W2 : World, W2.heap[w.heap.size]? = some (.stringIter s (pos+(Utf8.decode s pos).2)) -> s.size-W2.iterPos w.heap.size < s.size-wr.iterPos w.heap.size :=by
        intro W2 h;simp[World.iterPos, h, hk]; omega
      by_cases hr : (((Utf8.decode s pos).1 : Int)==65533) = true
      · have hdec := PW s pos hp
        have hr1 : (Utf8.decode s pos).1 = 65533 := (by have := of_decide_eq_true hr; omega);by_cases hn : (((Utf8.decode s pos).2 : Int)==1) = true
        · have hn1 : (Utf8.decode s pos).2 = 1 := by have := of_decide_eq_true hn; omega
          have HF : Hid (wE s (s.size+1) 0 = some pos) := Lib.hid (hc.trans (ait hp hr1 hn1));clear hc hr1 hn1
          go_wp2_with (go_at_call 69; refine (Tryz.utf8_DecodeRuneInString _ _ hT2).mono ?_; rintro e w2 ⟨rfl, hb3⟩)
          go_ret2
          rw[HF.out];exact⟨rfl, hb2.trans (hb3.mono (by rw[hz2]; omega))⟩
        · have hn1 : ¬(Utf8.decode s pos).2 = 1 := λe => hn (decide_eq_true (by omega))
          have HF : Hid (wE s (s.size+1) 0 = wE s (s.size+1) (pos+(Utf8.decode s pos).2)) := Lib.hid (hc.trans (Ug hp (λe => hn1 e.2)));clear hc
          go_wp2_with (go_at_call 69; refine (Tryz.utf8_DecodeRuneInString _ _ hT2).mono ?_; rintro e w2 ⟨rfl, hb3⟩)
          have hk3 : w2.heap[w.heap.size]? = some (.stringIter s (pos+(Utf8.decode s pos).2)) := by rw[hb3.block _ (by rw[hz2]; exact hlt)]; exact hk2
          go_roundw
          case rel => exact⟨_, hk3, hb2.trans (hb3.mono (by rw[hz2]; omega)), HF.out⟩
          case measure => exact hmeas _ hk3
      · have hr1 : ¬(Utf8.decode s pos).1 = 65533 := λe => hr (decide_eq_true (by omega))
        have HF : Hid (wE s (s.size+1) 0 = wE s (s.size+1) (pos+(Utf8.decode s pos).2)) := Lib.hid (hc.trans (Ug hp (λe => hr1 e.1)));clear hc
        go_wp2
        go_roundw
        case rel => exact⟨_, hk2, hb2, HF.out⟩
        case measure => exact hmeas _ hk2
    · have hnx : ∀ty, (Instr.next (.pointer (some ⟨w.heap.size, 0, none⟩)) true ty).run Tryz.prog wr = _ := λty => run_next_end_at wr _ s pos ty hk hp
      have HF : Hid (wE s (s.size+1) 0 = none) := Lib.hid (hc.trans (by simp[wE, hp]));clear hc
      go_wp2
      go_ret2
      rw[HF.out];exact⟨rfl, hb⟩
end Go.Proofs
