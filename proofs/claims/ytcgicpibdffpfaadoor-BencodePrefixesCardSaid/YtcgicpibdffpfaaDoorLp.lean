/-
The law on beginnings and continuations of sources: it answers true for every pair of strings.
-/
import Derived.Test.YtcgicpibdffpfaaDoorAw
import Derived.Test.YtcgicpibdffpfaaDoorPre
set_option linter.all false
namespace Go.Sh
open Go Go.Ago Go.Proofs
variable {h h' : AHeap}
theorem noF {X : Nat → Prop} {h : AHeap} : ∀ g : Nat, (fun _ : Nat => False) g → X g ∨ h.next < g := fun _ h => h.elim
theorem prefix_loop {s u : ByteArray} {p : PV} {m : Nat} (hs : s.size ≤ 200) (hp : spParse s m = some (.ok p)) : ∀ (n i : Nat) (h : AHeap), WF h → 3 * m + 203 + (s.size - i) < n → i ≤ s.size →
    Wp (rosettalaw34_BencodePrefixes_L0 n s u s.size i) h fun x h' => x = .inl () ∧ Fr (fun _ => False) h h'
  | 0, _, _, _, hn, _ => by omega
  | n + 1, i, h, hw, hn, hi => by
    rw [rosettalaw34_BencodePrefixes_L0_succ]
    unfold rosettalaw34_BencodePrefixes_L0_B
    simp only [Wp_bind, Wp_nn', Wp_ldI, Wp_ldS, Wp_ldV, Wp_ldB, Wp_idxS, Wp_sliceS, Wp_pure, plus_eq, Nat.zero_add, Nat.reduceAdd, Option.some.injEq, exists_eq_left', decide_eq_true_eq]
    split
    · rename_i h1
      have hlt : i < s.size := by omega
      rw [Wp_bind, Wp_sliceS]
      refine ⟨by omega, by omega, by omega, ?_⟩
      have hd := spParse_down (by omega) hp hlt
      have hz : (s.extract 0 i).size ≤ 200 := by
        rw [ByteArray.size_extract]; omega
      have e0 : s.extract (0 : Int).toNat (i : Int).toNat = s.extract 0 i := rfl
      rw [e0, Wp_bind]
      refine (bencode_Parse_wp hw (by omega) hd).mono fun x h1 hx => ?_
      obtain ⟨f1, rfl, _⟩ := hx
      refine keep_doc f1.wf fun b h2 f2 _ _ _ => ?_
      simp only [decide_true, Bool.not_true, Bool.false_eq_true, if_false]
      have e1 : IntKind.i64.wrap ((i : Int) + 1) = (i + 1 : Nat) := by rw [w64 (by omega) (by omega)]; simp
      rw [e1]
      refine (prefix_loop hs hp n (i + 1) h2 f2.wf (by omega) hlt).mono fun x h3 hx => ?_
      exact ⟨hx.1, (f1.fresh hw f2 noF).fresh hw hx.2 noF⟩
    · rw [Wp_pure]; exact ⟨rfl, Fr.refl hw⟩
theorem prefixes_wp (s u : ByteArray) (h : AHeap) (hw : WF h) : Wp (rosettalaw34_BencodePrefixes 3000 s u) h fun x _ => x = true := by
  have aw : ∀ {h1 : AHeap}, WF h1 → Wp (M.bind (rosettalaw34_awake 3000) fun x => M.pure x) h1 fun x _ => x = true := fun hw1 => by
    rw [Wp_bind]
    refine (awake_wp hw1 (by omega)).mono fun x h2 hx => ?_
    rw [Wp_pure]; exact hx.1
  unfold rosettalaw34_BencodePrefixes
  simp only [decide_eq_true_eq]
  refine Wp_ite.2 ⟨fun _ => aw hw, fun h1 => Wp_ite.2 ⟨fun _ => aw hw, fun h2 => ?_⟩⟩
  have hs : s.size ≤ 200 := by omega
  have hu : u.size ≤ 50 := by omega
  unfold rosettalaw34_BencodePrefixes_J0
  obtain ⟨r, hr⟩ := spParse_some s 600 (by omega)
  rw [Wp_bind]
  refine (bencode_Parse_wp hw (by omega) hr).mono fun x h1 hx => ?_
  obtain ⟨f1, hx⟩ := hx
  refine keep_doc f1.wf fun b h2 f2 _ _ _ => ?_
  cases r with
  | error e =>
    obtain ⟨rfl, he⟩ := hx
    simp only [he, decide_false, Bool.not_false, if_true]
    exact aw f2.wf
  | ok p =>
    obtain ⟨S, st, _, rfl, _, _⟩ := hx
    simp only [decide_true, Bool.not_true, Bool.false_eq_true, if_false]
    rw [Wp_bind]
    refine (prefix_loop hs hr 3000 0 h2 f2.wf (by omega) (by omega)).mono fun x h3 hx => ?_
    obtain ⟨rfl, f3⟩ := hx
    simp only [sumElim]
    rw [Wp_bind, Wp_catS]
    refine ⟨by unfold bigN; omega, ?_⟩
    have hz : (s ++ u).size = s.size + u.size := ByteArray.size_append
    by_cases hu0 : u.size = 0
    · have hun : u.data.toList = [] := List.eq_nil_of_length_eq_zero hu0
      obtain ⟨r2, hr2⟩ := spParse_some (s ++ u) 600 (by omega)
      rw [Wp_bind]
      refine (bencode_Parse_wp f3.wf (by omega) hr2).mono fun x h4 hx => ?_
      refine keep_doc hx.1.wf fun b h5 f5 _ _ _ => ?_
      refine ite_yes ?_ (aw f5.wf)
      rw [eqS_iff, hun]; rfl
    · have hup := spParse_up (by omega) (by omega) hr hu0
      rw [Wp_bind]
      refine (bencode_Parse_wp f3.wf (by omega) hup).mono fun x h4 hx => ?_
      obtain ⟨f4, rfl, _⟩ := hx
      refine keep_doc f4.wf fun b h5 f5 _ _ _ => ?_
      refine Wp_ite.2 ⟨fun _ => aw f5.wf, fun _ => ?_⟩
      refine ite_yes (by simp) (ite_yes (by simp) (aw f5.wf))
end Go.Sh
