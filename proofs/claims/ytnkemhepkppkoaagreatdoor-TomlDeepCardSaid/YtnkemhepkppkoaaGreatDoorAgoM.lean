/-
Maps and copies of the abstract semantics are sound. No theorem about the program stands here.
-/
import Derived.Test.YtnkemhepkppkoaaGreatDoorAgoD
import Derived.MapKept
import Derived.ChangeKeysEq
set_option linter.all false
namespace Go.Ago
open Go
variable {P : Program} {W0 : Fz} {ι ι' : IMap} {h h' h1 : AHeap} {w w' : World}

/-! Keys. -/
theorem leafIs_flat {l : Leaf} {v : Value} (h : leafIs l v = true) : flat1 v = true := by
  cases l <;> cases v <;> simp_all [leafIs, flat1]
theorem keyLeaf_spec {t : TypeId} {l : Leaf} (h : keyLeaf P t = some l) : sizeOfT P t = some 1 ∧
    ((∃ k, P.underlying t = some (.int k) ∧ l = .int k) ∨ (P.underlying t = some .bool ∧ l = .bool) ∨ (P.underlying t = some .string ∧ l = .str)) := by
  unfold keyLeaf at h
  grind
theorem leafIs_int {k : IntKind} {v : Value} (h : leafIs (.int k) v = true) : ∃ n, v = .int k n := by
  cases v <;> simp only [leafIs] at h <;> try cases h
  rename_i k' n
  exact ⟨n, by rw [eqK_eq h]⟩
theorem leafIs_bool {v : Value} (h : leafIs .bool v = true) : ∃ n, v = .bool n := by
  cases v <;> simp only [leafIs] at h <;> try cases h
  exact ⟨_, rfl⟩
theorem leafIs_str {v : Value} (h : leafIs .str v = true) : ∃ n, v = .string n := by
  cases v <;> simp only [leafIs] at h <;> try cases h
  exact ⟨_, rfl⟩
theorem eqK_self (k : IntKind) : eqK k k = true := by cases k <;> rfl
theorem keyLeaf_eq {t : TypeId} {l : Leaf} (h : keyLeaf P t = some l) {v u : Value} (hv : leafIs l v = true) (hu : leafIs l u = true) (d : Nat) (w : World) :
    (Op.equalIn (d + 1) t v u).run P w = .ok (veq1 v u) w := by
  obtain ⟨_, ⟨k, h1, rfl⟩ | ⟨h1, rfl⟩ | ⟨h1, rfl⟩⟩ := keyLeaf_spec h
  · obtain ⟨a, rfl⟩ := leafIs_int hv
    obtain ⟨b, rfl⟩ := leafIs_int hu
    rw [run_equalIn_int w d t _ _ _ _ h1]
    simp only [veq1, eqK_self, Bool.true_and]; rfl
  · obtain ⟨a, rfl⟩ := leafIs_bool hv
    obtain ⟨b, rfl⟩ := leafIs_bool hu
    exact run_equalIn_bool w d t _ _ h1
  · obtain ⟨a, rfl⟩ := leafIs_str hv
    obtain ⟨b, rfl⟩ := leafIs_str hu
    rw [run_equalIn_string w d t _ _ h1, ← eqS_def]; rfl
theorem keyLeaf_check {t : TypeId} {l : Leaf} (h : keyLeaf P t = some l) {v : Value} (hv : leafIs l v = true) (em : Bool) (n : Nat) (w : World) :
    (Instr.checkKey em (n + 1) t v).run P w = .ok () w := by
  obtain ⟨_, ⟨k, h1, rfl⟩ | ⟨h1, rfl⟩ | ⟨h1, rfl⟩⟩ := keyLeaf_spec h
  · obtain ⟨a, rfl⟩ := leafIs_int hv; simp [Instr.checkKey, run_und h1]
  · obtain ⟨a, rfl⟩ := leafIs_bool hv; simp [Instr.checkKey, run_und h1]
  · obtain ⟨a, rfl⟩ := leafIs_str hv; simp [Instr.checkKey, run_und h1]
theorem keyLeaf_part {t : TypeId} {l : Leaf} (h : keyLeaf P t = some l) {xs : Array Value} {o : Nat} {v : Value} (hx : xs[o]? = some v) (w : World) : (part t xs o).run P w = .ok v w := by
  obtain ⟨_, ⟨k, h1, rfl⟩ | ⟨h1, rfl⟩ | ⟨h1, rfl⟩⟩ := keyLeaf_spec h <;> exact part_run h1 rfl hx w
theorem veq1_eq {v u : Value} (h : veq1 v u = true) : v = u := by
  cases v <;> cases u <;> simp only [veq1, Bool.and_eq_true, decide_eq_true_eq] at h <;> try cases h
  · rename_i a b; simp at h; rw [h]
  · rename_i h1 h2; rw [eqK_eq h1, h2]
  · rename_i a b
    rw [eqS_def] at h
    have h := beq_iff_eq.1 h
    rw [ByteArray.toList_eq, ByteArray.toList_eq] at h
    cases a; cases b
    simp at h
    rw [h]
theorem veqs_eq : ∀ {xs ys : List Value}, veqs xs ys = true → xs = ys
  | [], [], _ => rfl
  | [], _ :: _, h => by cases h
  | _ :: _, [], h => by cases h
  | x :: xs, y :: ys, h => by
    simp only [veqs, Bool.and_eq_true] at h
    rw [veq1_eq h.1, veqs_eq h.2]
theorem veq_eq {x y : Value} (h : veq x y = true) : x = y := by
  unfold veq at h
  grind [veqs_eq, Array.toList_inj, veq1_eq]
theorem keyFs_eq {xs ys : Array Value} : ∀ (fs : List Field) (o : Nat) (ls : List Leaf) (d : Nat) (w : World), keyFs P fs o = some ls → leavesAre ls (xs.toList.drop o) = true → leavesAre ls (ys.toList.drop o) = true →
    (Op.eqFields (d + 1) xs ys fs).run P w = .ok (veqs (xs.toList.drop o) (ys.toList.drop o)) w
  | [], o, ls, d, w, h, hx, hy => by
    simp only [keyFs, Option.some.injEq] at h
    subst h
    cases h1 : xs.toList.drop o with
    | cons => rw [h1] at hx; simp [leavesAre] at hx
    | nil =>
      cases h2 : ys.toList.drop o with
      | cons => rw [h2] at hy; simp [leavesAre] at hy
      | nil => simp [Op.eqFields, veqs]
  | f :: fs, o, ls, d, w, h, hx, hy => by
    simp only [keyFs] at h
    split at h
    · rename_i l ls' hn ho hl hr
      cases h
      have ho := Nat.eq_of_beq_eq_true ho
      have hn : f.name ≠ "_" := by intro e; rw [e] at hn; exact absurd hn (by decide)
      cases h1 : xs.toList.drop o with
      | nil => rw [h1] at hx; simp [leavesAre] at hx
      | cons x xs' =>
        cases h2 : ys.toList.drop o with
        | nil => rw [h2] at hy; simp [leavesAre] at hy
        | cons y ys' =>
          rw [h1] at hx; rw [h2] at hy
          simp only [leavesAre, Bool.and_eq_true] at hx hy
          have hx0 : xs[o]? = some x := by
            rw [← Array.getElem?_toList, ← Nat.add_zero o, ← List.getElem?_drop, h1]; rfl
          have hy0 : ys[o]? = some y := by
            rw [← Array.getElem?_toList, ← Nat.add_zero o, ← List.getElem?_drop, h2]; rfl
          have hxt : xs.toList.drop (o + 1) = xs' := by rw [← List.drop_drop, h1]; rfl
          have hyt : ys.toList.drop (o + 1) = ys' := by rw [← List.drop_drop, h2]; rfl
          have ih := keyFs_eq (xs := xs) (ys := ys) fs (o + 1) ls' d w hr (by rw [hxt]; exact hx.2) (by rw [hyt]; exact hy.2)
          rw [hxt, hyt] at ih
          unfold Op.eqFields
          rw [if_pos hn, ho]
          simp only [Sem.run_bind, keyLeaf_part hl hx0, keyLeaf_part hl hy0, Result.andThen_ok, keyLeaf_eq hl hx.1 hy.1 d w, veqs]
          cases veq1 x y
          · simp
          · simp [ih]
    · cases h
theorem keyFs_check {xs : Array Value} (em : Bool) (n : Nat) : ∀ (fs : List Field) (o : Nat) (ls : List Leaf), keyFs P fs o = some ls → leavesAre ls (xs.toList.drop o) = true →
    ∀ w, (forIn fs PUnit.unit (fun f (_ : PUnit) => (do
        if f.name ≠ "_" then Instr.checkKey em (n + 1) f.type (← part f.type xs f.offset)
        pure (ForInStep.yield PUnit.unit) : Sem (ForInStep PUnit)))).run P w = .ok PUnit.unit w
  | [], o, ls, h, hx, w => by simp
  | f :: fs, o, ls, h, hx, w => by
    simp only [keyFs] at h
    split at h
    · rename_i l ls' hn ho hl hr
      cases h
      have ho := Nat.eq_of_beq_eq_true ho
      have hn : f.name ≠ "_" := by intro e; rw [e] at hn; exact absurd hn (by decide)
      cases h1 : xs.toList.drop o with
      | nil => rw [h1] at hx; simp [leavesAre] at hx
      | cons x xs' =>
        rw [h1] at hx
        simp only [leavesAre, Bool.and_eq_true] at hx
        have hx0 : xs[o]? = some x := by
          rw [← Array.getElem?_toList, ← Nat.add_zero o, ← List.getElem?_drop, h1]; rfl
        have hxt : xs.toList.drop (o + 1) = xs' := by rw [← List.drop_drop, h1]; rfl
        have ih := keyFs_check (xs := xs) em n fs (o + 1) ls' hr (by rw [hxt]; exact hx.2) w
        rw [List.forIn_cons]
        simp only [hn, ne_eq, not_false_eq_true, if_true, Sem.run_bind, ho, keyLeaf_part hl hx0, Result.andThen_ok, keyLeaf_check hl hx.1, Sem.run_pure]
        simpa using ih
    · cases h
theorem leavesAre_rep {l : Leaf} : ∀ {n : Nat} {xs : List Value}, leavesAre (List.replicate n l) xs = true → xs.length = n ∧ ∀ v ∈ xs, leafIs l v = true
  | 0, [], _ => ⟨rfl, by simp⟩
  | 0, _ :: _, h => by cases h
  | n + 1, [], h => by cases h
  | n + 1, x :: xs, h => by
    rw [List.replicate_succ] at h
    simp only [leavesAre, Bool.and_eq_true] at h
    obtain ⟨h1, h2⟩ := leavesAre_rep h.2
    grind
theorem keyArr_eq {e : TypeId} {l : Leaf} (hl : keyLeaf P e = some l) {xs ys : Array Value} (hx : ∀ v ∈ xs.toList, leafIs l v = true) (hy : ∀ v ∈ ys.toList, leafIs l v = true) (d : Nat) (w : World) :
    ∀ (k o : Nat), xs.size = o + k → ys.size = o + k → (Op.eqItems (d + 1) e 1 xs ys (List.range' o k)).run P w = .ok (veqs (xs.toList.drop o) (ys.toList.drop o)) w
  | 0, o, h1, h2 => by
    have e1 : xs.toList.drop o = [] := List.drop_eq_nil_of_le (by simp; omega)
    have e2 : ys.toList.drop o = [] := List.drop_eq_nil_of_le (by simp; omega)
    simp [Op.eqItems, e1, e2, veqs]
  | k + 1, o, h1, h2 => by
    have ih := keyArr_eq hl hx hy d w k (o + 1) (by omega) (by omega)
    have l1 : o < xs.toList.length := by simp; omega
    have l2 : o < ys.toList.length := by simp; omega
    rw [List.drop_eq_getElem_cons l1, List.drop_eq_getElem_cons l2, List.range'_succ, Op.eqItems]
    have p1 : xs[o * 1]? = some xs.toList[o] := by grind
    have p2 : ys[o * 1]? = some ys.toList[o] := by grind
    simp only [Sem.run_bind, keyLeaf_part hl p1, keyLeaf_part hl p2, Result.andThen_ok, keyLeaf_eq hl (hx _ (List.getElem_mem l1)) (hy _ (List.getElem_mem l2)) d w, veqs]
    cases veq1 xs.toList[o] ys.toList[o]
    · simp
    grind
theorem tyIs_one {l : Leaf} {v : Value} (h : tyIs (.one l) v = true) : leafIs l v = true := by
  unfold tyIs at h; exact h
theorem tyIs_agg {ls : List Leaf} {v : Value} (h : tyIs (.agg ls) v = true) : ∃ cs, v = .agg cs ∧ leavesAre ls cs.toList = true := by
  cases v <;> simp only [tyIs] at h <;> try cases h
  exact ⟨_, rfl, h⟩
theorem veq_one {l : Leaf} {v u : Value} (h : leafIs l v = true) : veq v u = veq1 v u := by
  cases v <;> first | rfl | (cases l <;> simp [leafIs] at h)
/-- What a map asks of its keys. -/
structure KeyRun (P : Program) (t : TypeId) (x : Value) : Prop where
  eq : ∀ y, keyOk P t y = true → ∀ w, (Op.equal t x y).run P w = .ok (veq x y) w
  chk : ∀ em w, (Instr.checkKey em 10000 t x).run P w = .ok () w
  same : Instr.sameBits 10000 x x = true
  now : ∀ y, keyOk P t y = true → ∀ kd, Instr.sameNow kd x y = none ∨ Instr.sameNow kd x y = some (veq x y)
  flat : ∀ ι v', VRel P ι x v' → v' = x
theorem leafIs_same {l : Leaf} {v : Value} (h : leafIs l v = true) (n : Nat) : Instr.sameBits n v v = true := by
  cases l <;> cases v <;> simp_all [leafIs, Instr.sameBits, beq_toListBytes]
theorem leaf_now {l : Leaf} {v u : Value} (h : leafIs l v = true) (hu : leafIs l u = true) (kd : TypeDesc) : Instr.sameNow kd v u = none ∨ Instr.sameNow kd v u = some (veq1 v u) := by
  cases l with
  | int k =>
    obtain ⟨a, rfl⟩ := leafIs_int h
    obtain ⟨b, rfl⟩ := leafIs_int hu
    cases kd <;> first | exact .inl rfl | skip
    right; simp only [Instr.sameNow, if_true, veq1, eqK_self, Bool.true_and]; rfl
  | bool =>
    obtain ⟨a, rfl⟩ := leafIs_bool h
    obtain ⟨b, rfl⟩ := leafIs_bool hu
    cases kd <;> first | exact .inl rfl | exact .inr rfl
  | str =>
    obtain ⟨a, rfl⟩ := leafIs_str h
    obtain ⟨b, rfl⟩ := leafIs_str hu
    cases kd <;> first | exact .inl rfl | skip
    right; simp only [Instr.sameNow]; rw [beq_toListBytes, ← eqS_def]; rfl
  | _ => cases v <;> simp [leafIs] at h
theorem leavesAre_flat : ∀ {ls : List Leaf} {vs : List Value}, leavesAre ls vs = true → ∀ v ∈ vs, flat1 v = true ∧ ∃ l, leafIs l v = true
  | [], [], _ => by simp
  | [], _ :: _, h => by cases h
  | _ :: _, [], h => by cases h
  | l :: ls, v :: vs, h => by
    simp only [leavesAre, Bool.and_eq_true] at h
    intro u hu
    rcases List.mem_cons.1 hu with rfl | hu
    · exact ⟨leafIs_flat h.1, l, h.1⟩
    · exact leavesAre_flat h.2 u hu
theorem agg_same {ls : List Leaf} {cs : Array Value} (h : leavesAre ls cs.toList = true) (n : Nat) : Instr.sameBits (n + 1) (.agg cs) (.agg cs) = true := by
  simp only [Instr.sameBits, Bool.and_eq_true, beq_self_eq_true, true_and, List.all_eq_true]
  intro p hp
  have hz : ∀ (l : List Value) (p : Value × Value), p ∈ l.zip l → p.1 = p.2 ∧ p.1 ∈ l := by
    intro l
    induction l with
    | nil => intro p hp; simp at hp
    | cons a l ih =>
      intro p hp
      rw [List.zip_cons_cons] at hp
      grind
  obtain ⟨e, hm⟩ := hz _ p hp
  obtain ⟨_, l, hl⟩ := leavesAre_flat h _ hm
  grind [leafIs_same]
theorem keyRun {t : TypeId} {x : Value} (hx : keyOk P t x = true) : KeyRun P t x := by
  have hx0 := hx
  unfold keyOk at hx
  split at hx
  · rename_i K hK
    have hy0 : ∀ y, keyOk P t y = true → tyIs K y = true := fun y hy => by unfold keyOk at hy; rw [hK] at hy; exact hy
    unfold keyTy at hK
    split at hK
    · -- struct
      rename_i fs hu
      split at hK
      · rename_i ls hst hfs
        cases hK
        obtain ⟨cs, rfl, hc⟩ := tyIs_agg hx
        refine ⟨fun y hy w => ?_, fun em w => ?_, agg_same hc _, fun y hy kd => ?_, fun ι v' hr => hr.aggEq fun v hv => (leavesAre_flat hc v hv).1⟩
        · obtain ⟨ds, rfl, hd⟩ := tyIs_agg (hy0 y hy)
          have hff : P.fieldsOf t = fs := by unfold Program.fieldsOf; rw [hu]
          have := run_equalIn_struct (P := P) w 9999 t cs ds (by rw [hff]; exact hu) hst
          unfold Op.equal Op.maxDepth
          rw [this, hff]
          have := keyFs_eq (xs := cs) (ys := ds) fs.toList 0 ls 9998 w hfs hc hd
          simpa [veq] using this
        · show (Instr.checkKey em (9999 + 1) t (.agg cs)).run P w = _
          rw [Instr.checkKey]
          simp only [Sem.run_bind, run_und hu, Result.andThen_ok]
          rw [← Array.forIn_toList]
          have := keyFs_check (P := P) (xs := cs) em 9998 fs.toList 0 ls hfs hc w
          simp at this
          simp [this]
        · obtain ⟨ds, rfl, hd⟩ := tyIs_agg (hy0 y hy)
          cases kd <;> exact .inl rfl
      · cases hK
    · -- array
      rename_i n e hu
      split at hK
      · rename_i l hl
        cases hK
        obtain ⟨cs, rfl, hc⟩ := tyIs_agg hx
        obtain ⟨hs1, _⟩ := keyLeaf_spec hl
        obtain ⟨i, hi, hsz⟩ : ∃ i, P.info? e = some i ∧ i.size = 1 := by
          grind [sizeOfT, Option.some.inj]
        have hco : P.cellsOf e = 1 := by simp [Program.cellsOf, hi, hsz]
        obtain ⟨hn, hall⟩ := leavesAre_rep hc
        refine ⟨fun y hy w => ?_, fun em w => ?_, agg_same hc _, fun y hy kd => ?_, fun ι v' hr => hr.aggEq fun v hv => (leavesAre_flat hc v hv).1⟩
        · obtain ⟨ds, rfl, hd⟩ := tyIs_agg (hy0 y hy)
          obtain ⟨hn2, hall2⟩ := leavesAre_rep hd
          unfold Op.equal Op.maxDepth
          rw [run_equalIn_array w 9999 cs ds hu hi, hco, List.range_eq_range']
          grind [keyArr_eq, veq]
        · show (Instr.checkKey em (9999 + 1) t (.agg cs)).run P w = _
          rw [Instr.checkKey]
          simp only [Sem.run_bind, run_und hu, Result.andThen_ok]
          simp only [Std.Legacy.Range.forIn_eq_forIn_range', Std.Legacy.Range.size, Nat.sub_zero, Nat.add_one_sub_one, Nat.div_one]
          have key : ∀ (k o : Nat), o + k ≤ cs.size → (forIn (List.range' o k) PUnit.unit (fun i (_ : PUnit) => (do
              Instr.checkKey em 9999 e (← part e cs (i * (← sizeOf e)))
              pure (ForInStep.yield PUnit.unit) : Sem (ForInStep PUnit)))).run P w = .ok PUnit.unit w := by
            intro k
            induction k with
            | zero => intro o _; simp
            | succ k ih =>
              intro o ho
              have lt : o < cs.toList.length := by simp; omega
              have p1 : cs[o * 1]? = some cs.toList[o] := by grind
              rw [List.range'_succ, List.forIn_cons]
              simp only [Sem.run_bind, szT_of hs1, Result.andThen_ok, keyLeaf_part hl p1, keyLeaf_check hl (hall _ (List.getElem_mem lt)), Sem.run_pure]
              exact ih (o + 1) (by omega)
          simp_all
        · obtain ⟨ds, rfl, hd⟩ := tyIs_agg (hy0 y hy)
          cases kd <;> exact .inl rfl
      · cases hK
    · split at hK
      · rename_i l hl
        cases hK
        have hx := tyIs_one hx
        refine ⟨fun y hy w => ?_, fun em w => ?_, leafIs_same hx _, fun y hy kd => ?_, fun ι v' hr => hr.flatEq (leafIs_flat hx)⟩
        · rw [veq_one hx]; exact keyLeaf_eq hl hx (tyIs_one (hy0 y hy)) 9999 w
        · exact keyLeaf_check hl hx em 9999 w
        grind [veq_one, leaf_now, tyIs_one]
      · cases hK
  · cases hx
/-- The first entry whose key is this. -/
def findI (k : Value) : List MapEntry → Nat → Option (Nat × Value)
  | [], _ => none
  | e :: r, i => match veq k e.key with
    | true => some (i, e.val)
    | false => findI k r (i + 1)
theorem findNow_spec {t : TypeId} {k : Value} (hk : KeyRun P t k) (kd : TypeDesc) : ∀ (es : List MapEntry) (i : Nat), (∀ e ∈ es, keyOk P t e.key = true) →
    Instr.findNow kd k es i = none ∨ Instr.findNow kd k es i = some (findI k es i)
  | [], i, _ => .inr rfl
  | e :: es, i, h => by
    simp only [Instr.findNow, findI]
    rcases hk.now e.key (h e (List.mem_cons_self ..)) kd with h1 | h1
    · rw [h1]; exact .inl rfl
    · rw [h1]
      cases veq k e.key
      · exact findNow_spec hk kd es (i + 1) fun e he => h e (List.mem_cons_of_mem _ he)
      · exact .inr rfl
theorem findAsking_run {t : TypeId} {k : Value} (hk : KeyRun P t k) (w : World) : ∀ (es : List MapEntry) (i : Nat), (∀ e ∈ es, keyOk P t e.key = true) →
    (Instr.findAsking t k es i).run P w = .ok (findI k es i) w
  | [], i, _ => by simp [Instr.findAsking, findI]
  | e :: es, i, h => by
    have ih := findAsking_run hk w es (i + 1) fun e he => h e (List.mem_cons_of_mem _ he)
    simp only [Instr.findAsking, findI, Sem.run_bind, hk.eq e.key (h e (List.mem_cons_self ..)) w, Result.andThen_ok]
    cases veq k e.key
    · simpa using ih
    · simp
theorem findKey_run {t : TypeId} {k : Value} {d : TypeDesc} (hd : P.underlying t = some d) (hk : KeyRun P t k) (w : World) {es : List MapEntry} (h : ∀ e ∈ es, keyOk P t e.key = true) :
    (Instr.findKey t k es).run P w = .ok (findI k es 0) w := by
  simp only [Instr.findKey, Sem.run_bind, run_und hd, Result.andThen_ok]
  rcases findNow_spec hk d es 0 h with h1 | h1
  · rw [h1]; exact findAsking_run hk w es 0 h
  · rw [h1]; simp
theorem MEs.keys {t : TypeId} : ∀ {es : List AEnt} {es' : List MapEntry}, MEs P ι t es es' → ∀ e ∈ es', keyOk P t e.key = true
  | [], [], _ => by simp
  | [], _ :: _, h => h.elim
  | _ :: _, [], h => h.elim
  | e :: r, e' :: r', h => fun x hx => by
    rcases List.mem_cons.1 hx with rfl | hx
    · rw [h.1]; exact h.2.1
    · exact MEs.keys h.2.2.2.2 x hx
theorem MEs.length {t : TypeId} : ∀ {es : List AEnt} {es' : List MapEntry}, MEs P ι t es es' → es.length = es'.length
  | [], [], _ => rfl
  | [], _ :: _, h => h.elim
  | _ :: _, [], h => h.elim
  | e :: r, e' :: r', h => by simp [MEs.length h.2.2.2.2]
theorem MEs.find {t : TypeId} (k : Value) : ∀ {es : List AEnt} {es' : List MapEntry} (i : Nat), MEs P ι t es es' →
    (mfindE k es = none ∧ findI k es' i = none) ∨ ∃ e v' j, mfindE k es = some e ∧ findI k es' i = some (i + j, v') ∧ VRel P ι e.val v' ∧ e.key = k ∧ ∃ e', es'[j]? = some e' ∧ e'.key = k ∧ e'.born = e.born ∧ e'.val = v'
  | [], [], i, _ => .inl ⟨rfl, rfl⟩
  | [], _ :: _, _, h => h.elim
  | _ :: _, [], _, h => h.elim
  | e :: r, e' :: r', i, h => by
    simp only [mfindE, findI, h.1]
    cases hv : veq k e.key
    · rcases MEs.find k (i + 1) h.2.2.2.2 with ⟨h1, h2⟩ | ⟨v, v', j, h1, h2, h3, h3b, e2, h4, h5⟩
      · exact .inl ⟨h1, h2⟩
      · exact .inr ⟨v, v', j + 1, h1, by rw [show i + (j + 1) = i + 1 + j by omega]; exact h2, h3, h3b, e2, by simpa using h4, h5⟩
    · exact .inr ⟨_, _, 0, rfl, rfl, h.2.2.1, (veq_eq hv).symm, e', rfl, by rw [h.1, veq_eq hv], h.2.2.2.1, rfl⟩
theorem MEs.put_new {t : TypeId} {k v v' : Value} {c : Nat} (hk : keyOk P t k = true) (hv : VRel P ι v v') : ∀ {es : List AEnt} {es' : List MapEntry} (i : Nat), MEs P ι t es es' → findI k es' i = none →
    MEs P ι t (mput k v c es) (es' ++ [{ key := k, val := v', born := c }])
  | [], [], i, _, _ => ⟨rfl, hk, hv, rfl, trivial⟩
  | [], _ :: _, _, h, _ => h.elim
  | _ :: _, [], _, h, _ => h.elim
  | e :: r, e' :: r', i, h, hf => by
    simp only [findI, h.1] at hf
    simp only [mput]
    cases hq : veq k e.key
    · rw [hq] at hf
      exact ⟨h.1, h.2.1, h.2.2.1, h.2.2.2.1, MEs.put_new hk hv (i + 1) h.2.2.2.2 hf⟩
    · rw [hq] at hf; cases hf
theorem findI_ge {k : Value} : ∀ (l : List MapEntry) (a b : Nat) (u : Value), findI k l a = some (b, u) → a ≤ b
  | [], a, b, u, h => by cases h
  | x :: l, a, b, u, h => by
    simp only [findI] at h
    split at h
    · cases h; omega
    · have := findI_ge l _ _ _ h; omega
theorem MEs.put_old {t : TypeId} {k v v' u : Value} {c : Nat} (hk : keyOk P t k = true) (hv : VRel P ι v v') : ∀ {es : List AEnt} {es' : List MapEntry} (i j : Nat), MEs P ι t es es' → findI k es' i = some (i + j, u) →
    MEs P ι t (mput k v c es) (es'.modify j fun e => { e with key := k, val := v' })
  | [], [], i, j, _, hf => by cases hf
  | [], _ :: _, _, _, h, _ => h.elim
  | _ :: _, [], _, _, h, _ => h.elim
  | e :: r, e' :: r', i, j, h, hf => by
    simp only [findI, h.1] at hf
    simp only [mput]
    cases hq : veq k e.key
    · rw [hq] at hf
      simp only at hf
      have := findI_ge _ _ _ _ hf
      obtain ⟨j, rfl⟩ : ∃ q, j = q + 1 := ⟨j - 1, by omega⟩
      have := MEs.put_old (u := u) (c := c) hk hv (i + 1) j h.2.2.2.2 (by rw [hf]; congr 2; omega)
      simpa using ⟨h.1, h.2.1, h.2.2.1, h.2.2.2.1, this⟩
    · rw [hq] at hf
      simp only [Option.some.injEq, Prod.mk.injEq] at hf
      obtain rfl : j = 0 := by omega
      rw [List.modify_zero_cons]
      exact ⟨rfl, hk, hv, h.2.2.2.1, h.2.2.2.2⟩
theorem MEs.same_key {t : TypeId} {k u : Value} : ∀ {es : List AEnt} {es' : List MapEntry} (i j : Nat), MEs P ι t es es' → findI k es' i = some (i + j, u) →
    es'.modify j (fun e => { e with key := k }) = es'
  | [], [], i, j, _, hf => by cases hf
  | [], _ :: _, _, _, h, _ => h.elim
  | _ :: _, [], _, _, h, _ => h.elim
  | e :: r, e' :: r', i, j, h, hf => by
    simp only [findI, h.1] at hf
    cases hq : veq k e.key
    · rw [hq] at hf
      simp only at hf
      have := findI_ge _ _ _ _ hf
      obtain ⟨j, rfl⟩ : ∃ q, j = q + 1 := ⟨j - 1, by omega⟩
      have := MEs.same_key (u := u) (i + 1) j h.2.2.2.2 (by rw [hf]; congr 2; omega)
      simpa using this
    · rw [hq] at hf
      simp only [Option.some.injEq, Prod.mk.injEq] at hf
      obtain rfl : j = 0 := by omega
      rw [List.modify_zero_cons, veq_eq hq, ← h.1]
theorem MEs.putB {t : TypeId} {v v' : Value} {b : Nat} (hv : VRel P ι v v') : ∀ {es es2 : List AEnt} {es' : List MapEntry}, MEs P ι t es es' → mputB b v es = some es2 →
    ∃ j, es'.findIdx? (fun e => (e.born : Int) == (b : Int)) = some j ∧ MEs P ι t es2 (es'.modify j fun e => { e with val := v' })
  | [], _, [], _, hf => by cases hf
  | [], _, _ :: _, h, _ => h.elim
  | _ :: _, _, [], h, _ => h.elim
  | e :: r, es2, e' :: r', h, hf => by
    simp only [mputB] at hf
    have hb : ((e'.born : Int) == (b : Int)) = Nat.beq e.born b := by
      rw [h.2.2.2.1, Bool.eq_iff_iff, beq_iff_eq]
      constructor
      · intro e1
        have : e.born = b := by omega
        rw [this]; exact Nat.beq_refl b
      · intro e1
        rw [Nat.eq_of_beq_eq_true e1]
    rw [List.findIdx?_cons, hb]
    cases hq : Nat.beq e.born b
    · rw [hq] at hf
      simp only at hf
      split at hf
      · rename_i l hl
        cases hf
        obtain ⟨j, h1, h2⟩ := MEs.putB hv h.2.2.2.2 hl
        refine ⟨j + 1, by simp [h1], ?_⟩
        simpa using ⟨h.1, h.2.1, h.2.2.1, h.2.2.2.1, h2⟩
      · cases hf
    · rw [hq] at hf
      cases hf
      exact ⟨0, by simp, by simpa using ⟨h.1, h.2.1, hv, h.2.2.2.1, h.2.2.2.2⟩⟩
theorem MEs.del_none {t : TypeId} {k : Value} : ∀ {es : List AEnt} {es' : List MapEntry} (i : Nat), MEs P ι t es es' → findI k es' i = none → mdel k es = es
  | [], [], i, _, _ => rfl
  | [], _ :: _, _, h, _ => h.elim
  | _ :: _, [], _, h, _ => h.elim
  | e :: r, e' :: r', i, h, hf => by
    simp only [findI, h.1] at hf
    simp only [mdel]
    cases hq : veq k e.key
    · rw [hq] at hf; simp only; rw [MEs.del_none (i + 1) h.2.2.2.2 hf]
    · rw [hq] at hf; cases hf
theorem MEs.del_some {t : TypeId} {k u : Value} : ∀ {es : List AEnt} {es' : List MapEntry} (i j : Nat), MEs P ι t es es' → findI k es' i = some (i + j, u) → MEs P ι t (mdel k es) (es'.eraseIdx j)
  | [], [], i, j, _, hf => by cases hf
  | [], _ :: _, _, _, h, _ => h.elim
  | _ :: _, [], _, _, h, _ => h.elim
  | e :: r, e' :: r', i, j, h, hf => by
    simp only [findI, h.1] at hf
    simp only [mdel]
    cases hq : veq k e.key
    · rw [hq] at hf
      simp only at hf
      have := findI_ge _ _ _ _ hf
      obtain ⟨j, rfl⟩ : ∃ q, j = q + 1 := ⟨j - 1, by omega⟩
      have := MEs.del_some (u := u) (i + 1) j h.2.2.2.2 (by rw [hf]; congr 2; omega)
      simpa using ⟨h.1, h.2.1, h.2.2.1, h.2.2.2.1, this⟩
    · rw [hq] at hf
      simp only [Option.some.injEq, Prod.mk.injEq] at hf
      obtain rfl : j = 0 := by omega
      simpa using h.2.2.2.2

/-! The heap. -/
theorem Rel.mset (R : Rel P W0 ι h w) {m r : Nat} {t : TypeId} {es : List AEnt} {es0 es' : Array MapEntry} {c0 c : Nat} (hm : ι.mp m = some r) (hb : w.heap[r]? = some (.map es0 c0))
    (hes : MEs P ι t es es'.toList) : Rel P W0 ι (h.mset m ⟨t, c, es⟩) { w with heap := w.heap.setIfInBounds r (.map es' c) } := by
  have hr := (Array.getElem?_eq_some_iff.1 hb).1
  have hget : ∀ i : Nat, (w.heap.setIfInBounds r (.map es' c))[i]? = if i = r then some (.map es' c) else w.heap[i]? := fun i => by
    grind
  have hcells : ∀ (i : Nat) cc e fz, w.heap[i]? = some (.cells cc e fz) → (w.heap.setIfInBounds r (.map es' c))[i]? = some (.cells cc e fz) := fun i cc e fz hi => by
    grind
  have hcell : ∀ a v, w.cell? a = some v → World.cell? { w with heap := w.heap.setIfInBounds r (.map es' c) } a = some v := by
    grind [World.cell?]
  have hmg : ∀ j, (h.mset m ⟨t, c, es⟩).mget j = if j = m then some ⟨t, c, es⟩ else h.mget j := fun j => cond_beq _ _ _ _
  refine ⟨fun i o hi => ?_, R.dom, R.nx, fun b l hl => ?_, fun b c1 g base e hb1 => ?_, R.grp, R.tip, R.os, R.lib, ⟨fun m' hm' => ?_, fun m' r' hm' => ?_, R.mp.inj, fun m' x1 hm' => ?_⟩⟩
  · simp only [hget]
    rw [if_neg (fun x => by subst x; rw [(R.mp.loc m i hm).1] at hi; cases hi)]
    exact R.old i o hi
  · obtain ⟨cc, fz, q1, q2⟩ := R.loc b l hl
    exact ⟨cc, fz, hcells _ _ _ _ q1, q2⟩
  · obtain ⟨l, q1, q2, q3, q4, q5⟩ := R.live b c1 g base e hb1
    grind
  · have q := R.mp.dom m' hm'
    grind
  · refine ⟨(R.mp.loc m' r' hm').1, ?_⟩
    simp only [hget]
    by_cases e : r' = r
    · exact ⟨es', c, by rw [if_pos e]⟩
    · rw [if_neg e]; exact (R.mp.loc m' r' hm').2
  · rw [hmg] at hm'
    by_cases e : m' = m
    · grind
    · rw [if_neg e] at hm'
      obtain ⟨r', es2, q1, q2, q3⟩ := R.mp.live m' x1 hm'
      have hne : r' ≠ r := fun x => by subst x; exact e (R.mp.inj m' m _ q1 hm)
      grind
theorem mpNew_sound (R : Rel P W0 ι h w) {kt : TypeId} {m : Nat} (hx : mpNew kt h = some (m, h1)) :
    ∃ ι', ι.le ι' ∧ ι'.mp m = some w.heap.size ∧ Rel P W0 ι' h1 { w with heap := w.heap.push (.map #[] 0) } := by
  unfold mpNew at hx
  cases hx
  have hd := R.mp.dom h.next R.unused
  have hle : ι.le ⟨ι.f, fun j => if j = h.next then some w.heap.size else ι.mp j⟩ := by
    refine ⟨fun _ _ x => x, fun m r hm => ?_⟩
    grind
  have hused : ∀ b, ({ h.mset h.next ⟨kt, 0, []⟩ with next := h.next + 1, used := fun j => cond (Nat.beq j h.next) true (h.used j) } : AHeap).used b = if b = h.next then true else h.used b := fun b => cond_beq _ _ _ _
  have hus : ∀ b, ({ h.mset h.next ⟨kt, 0, []⟩ with next := h.next + 1, used := fun j => cond (Nat.beq j h.next) true (h.used j) } : AHeap).used b = false → b ≠ h.next ∧ h.used b = false := fun b hb => by
    grind
  refine ⟨_, hle, by simp, ?_⟩
  have hnone : W0 w.heap.size = none := by
    cases hq : W0 w.heap.size with
    | none => rfl
    | some o => have := (Array.getElem?_eq_some_iff.1 (R.old _ o hq)).1; omega
  have hlt : ∀ (i : Nat) o, w.heap[i]? = some o → (w.heap.push (.map #[] 0))[i]? = some o := fun i o hi => by
    grind
  have hmg : ∀ j, (h.mset h.next ⟨kt, 0, []⟩).mget j = if j = h.next then some ⟨kt, 0, []⟩ else h.mget j := fun j => cond_beq _ _ _ _
  refine ⟨fun i o hi => hlt _ _ (R.old i o hi), fun b hb => R.dom b (hus b hb).2, fun b hb => ?_, fun b l hl => ?_, fun b c1 g base e hb1 => ?_, R.grp, fun b c1 g base e hb1 hg => ?_, R.os, R.lib, ⟨fun m' hm' => ?_, fun m' r' hm' => ?_, fun m1 m2 r h1 h2 => ?_, fun m' x1 hm' => ?_⟩⟩
  · have hb : h.next + 1 ≤ b := hb
    refine (hused b).trans ?_
    rw [if_neg (by omega)]; exact R.nx b (by omega)
  · obtain ⟨cc, fz, q1, q2⟩ := R.loc b l hl
    exact ⟨cc, fz, hlt _ _ q1, q2⟩
  · obtain ⟨l, q1, q2, q3, q4, q5⟩ := R.live b c1 g base e hb1
    exact ⟨l, q1, q2, q3, q4, fun i v hv => let ⟨v', a, b, d⟩ := q5 i v hv; ⟨v', cell_push _ _ a, b, d.mono hle⟩⟩
  · obtain ⟨q1, q2⟩ := R.tip b c1 g base e hb1 hg
    refine ⟨q1, (hused _).trans ?_⟩
    split
    · rfl
    · exact q2
  · obtain ⟨hne, hu⟩ := hus m' hm'
    refine ⟨?_, ?_⟩
    · refine (hmg m').trans ?_
      rw [if_neg hne]; exact (R.mp.dom m' hu).1
    · simp only [if_neg hne]; exact (R.mp.dom m' hu).2
  · by_cases e : m' = h.next
    · grind
    · simp only [if_neg e] at hm'
      obtain ⟨q1, es, c, q2⟩ := R.mp.loc m' r' hm'
      exact ⟨q1, es, c, hlt _ _ q2⟩
  · have old : ∀ m r, ι.mp m = some r → r < w.heap.size := fun m r hm => by
      obtain ⟨_, es, c, q⟩ := R.mp.loc m r hm
      exact (Array.getElem?_eq_some_iff.1 q).1
    by_cases e1 : m1 = h.next <;> by_cases e2 : m2 = h.next
    · rw [e1, e2]
    · grind
    · grind
    · simp only [if_neg e1] at h1; simp only [if_neg e2] at h2
      exact R.mp.inj _ _ _ h1 h2
  · replace hm' := (hmg m').symm.trans hm'
    by_cases e : m' = h.next
    · rw [if_pos e] at hm'; cases hm'
      exact ⟨w.heap.size, #[], by simp [e], by simp, trivial⟩
    · rw [if_neg e] at hm'
      obtain ⟨r', es2, q1, q2, q3⟩ := R.mp.live m' x1 hm'
      exact ⟨r', es2, by simp [e, q1], hlt _ _ q2, q3.mono hle⟩
theorem mpNewAt_sound (R : Rel P W0 ι h w) {k : Nat} {kt : TypeId} {m : Nat} (hx : mpNewAt k kt h = some (m, h1)) :
    ∃ ι', ι.le ι' ∧ ι'.mp m = some w.heap.size ∧ Rel P W0 ι' h1 { w with heap := w.heap.push (.map #[] 0) } := by
  unfold mpNewAt at hx
  split at hx
  case isFalse => cases hx
  rename_i hk
  simp only [Option.some.injEq, Prod.mk.injEq] at hx
  obtain ⟨hkm, rfl⟩ := hx
  subst hkm
  have hd := R.mp.dom k hk.1
  have hle : ι.le ⟨ι.f, fun j => if j = k then some w.heap.size else ι.mp j⟩ := by
    refine ⟨fun _ _ x => x, fun m' r hm => ?_⟩
    grind
  have hused : ∀ b, (h.mkm k kt).used b = if b = k then true else h.used b := fun b => cond_beq _ _ _ _
  have hus : ∀ b, (h.mkm k kt).used b = false → b ≠ k ∧ h.used b = false := fun b hb => by
    grind
  refine ⟨_, hle, by simp, ?_⟩
  have hnone : W0 w.heap.size = none := by
    cases hq : W0 w.heap.size with
    | none => rfl
    | some o => have := (Array.getElem?_eq_some_iff.1 (R.old _ o hq)).1; omega
  have hlt : ∀ (i : Nat) o, w.heap[i]? = some o → (w.heap.push (.map #[] 0))[i]? = some o := fun i o hi => by
    grind
  have hmg : ∀ j, (h.mset k ⟨kt, 0, []⟩).mget j = if j = k then some ⟨kt, 0, []⟩ else h.mget j := fun j => cond_beq _ _ _ _
  refine ⟨fun i o hi => hlt _ _ (R.old i o hi), fun b hb => R.dom b (hus b hb).2, fun b hb => ?_, fun b l hl => ?_, fun b c1 g base e hb1 => ?_, R.grp, fun b c1 g base e hb1 hg => ?_, R.os, R.lib, ⟨fun m' hm' => ?_, fun m' r' hm' => ?_, fun m1 m2 r h1 h2 => ?_, fun m' x1 hm' => ?_⟩⟩
  · have hb : h.next ≤ b := hb
    refine (hused b).trans ?_
    rw [if_neg (by have := hk.2.1; omega)]; exact R.nx b hb
  · obtain ⟨cc, fz, q1, q2⟩ := R.loc b l hl
    exact ⟨cc, fz, hlt _ _ q1, q2⟩
  · obtain ⟨l, q1, q2, q3, q4, q5⟩ := R.live b c1 g base e hb1
    exact ⟨l, q1, q2, q3, q4, fun i v hv => let ⟨v', a, b, d⟩ := q5 i v hv; ⟨v', cell_push _ _ a, b, d.mono hle⟩⟩
  · obtain ⟨q1, q2⟩ := R.tip b c1 g base e hb1 hg
    refine ⟨q1, (hused _).trans ?_⟩
    split
    · rfl
    · exact q2
  · obtain ⟨hne, hu⟩ := hus m' hm'
    refine ⟨?_, ?_⟩
    · refine (hmg m').trans ?_
      rw [if_neg hne]; exact (R.mp.dom m' hu).1
    · simp only [if_neg hne]; exact (R.mp.dom m' hu).2
  · by_cases e : m' = k
    · grind
    · simp only [if_neg e] at hm'
      obtain ⟨q1, es, c, q2⟩ := R.mp.loc m' r' hm'
      exact ⟨q1, es, c, hlt _ _ q2⟩
  · have old : ∀ k r, ι.mp k = some r → r < w.heap.size := fun k r hm => by
      obtain ⟨_, es, c, q⟩ := R.mp.loc k r hm
      exact (Array.getElem?_eq_some_iff.1 q).1
    by_cases e1 : m1 = k <;> by_cases e2 : m2 = k
    · rw [e1, e2]
    · grind
    · grind
    · simp only [if_neg e1] at h1; simp only [if_neg e2] at h2
      exact R.mp.inj _ _ _ h1 h2
  · replace hm' := (hmg m').symm.trans hm'
    by_cases e : m' = k
    · rw [if_pos e] at hm'; cases hm'
      exact ⟨w.heap.size, #[], by simp [e], by simp, trivial⟩
    · rw [if_neg e] at hm'
      obtain ⟨r', es2, q1, q2, q3⟩ := R.mp.live m' x1 hm'
      exact ⟨r', es2, by simp [e, q1], hlt _ _ q2, q3.mono hle⟩
theorem VRel.mapO {m : Option Nat} {v' : Value} (hr : VRel P ι (.map m) v') : (m = none ∧ v' = .map none) ∨ ∃ a r, m = some a ∧ v' = .map (some r) ∧ ι.mp a = some r := by
  cases hr with
  | flat _ hf => cases m with
    | none => exact .inl ⟨rfl, rfl⟩
    | some a => simp [flat1] at hf
  | map a r hr => exact .inr ⟨a, r, rfl, rfl, hr⟩
theorem ments_spec {kt : TypeId} {m : Nat} {c : Nat} {es : List AEnt} (hx : h.ments kt m = some (c, es)) : h.mget m = some ⟨kt, c, es⟩ := by
  unfold AHeap.ments at hx
  split at hx
  · rename_i x hg
    split at hx
    · rename_i hb; cases hx; rw [hg, ← Nat.eq_of_beq_eq_true hb]
    · cases hx
  · cases hx
theorem unT_sp {t : Ty} {v : Value} {x : t.den} (hx : unT t v = some x) : v = pkT t x := by
  cases t with
  | one l => exact unL_spec hx
  | agg ls =>
    cases v <;> simp only [unT] at hx <;> try cases hx
    rename_i cs
    rw [pkT, ← unLs_spec hx]
theorem keyOk_und {kt : TypeId} {k : Value} (h : keyOk P kt k = true) : ∃ d, P.underlying kt = some d := by
  unfold keyOk at h
  split at h
  · rename_i K hK
    unfold keyTy at hK
    split at hK
    · exact ⟨_, by assumption⟩
    · exact ⟨_, by assumption⟩
    · split at hK
      · rename_i l hl
        obtain ⟨_, ⟨k, h1, _⟩ | ⟨h1, _⟩ | ⟨h1, _⟩⟩ := keyLeaf_spec hl <;> exact ⟨_, h1⟩
      · cases hK
  · cases h
theorem lookup_sound (R : Rel P W0 ι h w) {t k e : TypeId} (ht : P.underlying t = some (.map k e)) {m : Option Nat} {x' kv kv' : Value} (hm : VRel P ι (.map m) x') (hk : keyOk P k kv = true) (hkr : VRel P ι kv kv')
    {T : Ty} {zv : Value} (hz : zeroOf P e = some zv) {z : T.den} (huz : unT T zv = some z) {ok : Bool} {r : Bool × T.den} (hx : mpGet k T z m kv h = some (r, h1)) :
    VSim P W0 ι w (Instr.lookup t x' kv' ok) (match ok with | true => .tuple #[pkT T r.2, .bool r.1] | false => pkT T r.2) h1 := by
  have K := keyRun hk
  obtain rfl := (K.flat _ _ hkr).symm
  obtain ⟨d, hd⟩ := keyOk_und hk
  obtain ⟨_, hz1, _⟩ := zeroOf_spec hz
  have hzz := unT_sp huz
  have hzf : VRel P ι zv zv := by
    obtain ⟨q, _⟩ := zeroOf_spec hz
    cases zv with
    | agg cs =>
      refine .agg _ _ rfl ?_
      intro i u u' a b
      rw [a] at b; cases b
      exact .flat _ (List.all_eq_true.1 q u (by simpa [Value.cells] using Array.mem_of_getElem? a))
    | _ => exact .flat _ (by simpa [Value.cells] using q)
  have fin : ∀ (b : Bool) (x : T.den) (v' : Value), VRel P ι (pkT T x) v' →
      VRel P ι (match ok with | true => .tuple #[pkT T x, .bool b] | false => pkT T x) (if ok then .tuple #[v', .bool b] else v') := by
    intro b x v' hv
    cases ok
    · exact hv
    · refine .tuple _ _ rfl fun i u u' a c => ?_
      match i with
      | 0 => simp at a c; subst a; subst c; exact hv
      | 1 => simp at a c; subst a; subst c; exact .ofBool
      | i + 2 => simp at a
  unfold mpGet at hx
  split at hx
  · cases hx
    rcases hm.mapO with ⟨_, rfl⟩ | ⟨a, r, h2, _⟩
    · have hfk : (Instr.findKey k kv #[].toList).run P w = .ok none w := findKey_run (es := []) hd K w (by simp)
      refine .ret (v' := if ok then .tuple #[zv, .bool false] else zv) ?_ (fin false z zv (by rw [← hzz]; exact hzf)) R
      simp at hfk
      cases ok <;> simp [Instr.lookup, run_und ht, K.chk, hfk, hz1]
    · cases h2
  · rename_i m0
    rcases hm.mapO with ⟨h2, _⟩ | ⟨a, r0, h2, rfl, hr0⟩
    · cases h2
    · cases h2
      split at hx
      · rename_i c es hes
        obtain ⟨r1, es', q1, q2, q3⟩ := R.mp.live _ _ (ments_spec hes)
        rw [hr0] at q1; cases q1
        have hfk := findKey_run (es := es'.toList) hd K w q3.keys
        have hgo := MapKept.run_getObj_map (P := P) q2
        split at hx
        · rename_i v hv
          split at hx
          · rename_i x hux
            cases hx
            unfold mfind at hv
            rcases MEs.find kv 0 q3 with ⟨h3, _⟩ | ⟨v1, v', j, h3, h4, h5, _⟩
            · rw [h3] at hv; cases hv
            · rw [h3] at hv; cases hv
              rw [h4] at hfk
              refine .ret (v' := if ok then .tuple #[v', .bool true] else v') ?_ (fin true x v' (by rw [← unT_sp hux]; exact h5)) R
              cases ok <;> simp [Instr.lookup, run_und ht, K.chk, hgo, hfk]
          · cases hx
        · rename_i hv
          cases hx
          unfold mfind at hv
          rcases MEs.find kv 0 q3 with ⟨h3, h4⟩ | ⟨v1, v', j, h3, h4, h5, _⟩
          · rw [h4] at hfk
            refine .ret (v' := if ok then .tuple #[zv, .bool false] else zv) ?_ (fin false z zv (by rw [← hzz]; exact hzf)) R
            cases ok <;> simp [Instr.lookup, run_und ht, K.chk, hgo, hfk, hz1]
          · rw [h3] at hv; cases hv
      · cases hx
theorem mapUpdate_sound (R : Rel P W0 ι h w) {t k e : TypeId} (ht : P.underlying t = some (.map k e)) {m : Option Nat} {x' kv kv' v v' : Value} (hm : VRel P ι (.map m) x') (hk : keyOk P k kv = true) (hkr : VRel P ι kv kv') (hv : VRel P ι v v')
    {u : Unit} (hx : mpSet k m kv v h = some (u, h1)) : ∃ w', (Instr.mapUpdate t x' kv' v').run P w = .ok () w' ∧ Rel P W0 ι h1 w' := by
  have K := keyRun hk
  obtain rfl := (K.flat _ _ hkr).symm
  obtain ⟨d, hd⟩ := keyOk_und hk
  unfold mpSet at hx
  split at hx
  · cases hx
  · rename_i m0
    rcases hm.mapO with ⟨h2, _⟩ | ⟨a, r0, h2, rfl, hr0⟩
    · cases h2
    · cases h2
      split at hx
      · rename_i c es hes
        cases hx
        obtain ⟨r1, es', q1, q2, q3⟩ := R.mp.live _ _ (ments_spec hes)
        rw [hr0] at q1; cases q1
        have hfk := findKey_run (es := es'.toList) hd K w q3.keys
        have hgo := MapKept.run_getObj_map (P := P) q2
        have hst : (Instr.keyThatStays kv kv).run P w = .ok kv w := by simp [Instr.keyThatStays, K.same]
        rcases MEs.find kv 0 q3 with ⟨h3, h4⟩ | ⟨v1, v2, j, h3, h4, h5, h5b, e', h6, h7, h8, h9⟩
        · rw [h4] at hfk
          have hes2 : MEs P ι k (mput kv v c es) (es'.push { key := kv, val := v', born := c }).toList := by simpa using MEs.put_new hk hv 0 q3 h4
          simp only at h3
          simp only [h3]
          refine ⟨{ w with heap := w.heap.setIfInBounds r0 (.map (es'.push { key := kv, val := v', born := c }) (c + 1)) }, ?_, R.mset hr0 q2 hes2⟩
          · simp [Instr.mapUpdate, run_und ht, hgo, K.chk, hfk, MapKept.run_setObj_map _ q2]
        · rw [h4] at hfk
          have h6' : es'[j]? = some e' := by simpa using h6
          have hes2 : MEs P ι k (mput kv v c es) (es'.modify j fun e => { e with key := kv, val := v' }).toList := by
            have := MEs.put_old (c := c) hk hv 0 j q3 h4
            simpa using this
          simp only at h3
          simp only [h3]
          refine ⟨{ w with heap := w.heap.setIfInBounds r0 (.map (es'.modify j fun e => { e with key := kv, val := v' }) c) }, ?_, R.mset hr0 q2 hes2⟩
          · simp [Instr.mapUpdate, run_und ht, hgo, K.chk, hfk, MapKept.run_setObj_map _ q2, h6', h7, hst]
      · cases hx
theorem mapEntry_sound (R : Rel P W0 ι h w) {t k e : TypeId} (ht : P.underlying t = some (.map k e)) {m : Option Nat} {x' kv kv' : Value} (hm : VRel P ι (.map m) x') (hk : keyOk P k kv = true) (hkr : VRel P ι kv kv')
    {T : Ty} {zv : Value} (hz : zeroOf P e = some zv) {z : T.den} (huz : unT T zv = some z) {r : T.den × Nat} (hx : mpEntry k T z m kv h = some (r, h1)) :
    VSim P W0 ι w (Instr.mapEntry t x' kv') (.tuple #[pkT T r.1, .int .i64 r.2]) h1 := by
  have K := keyRun hk
  obtain rfl := (K.flat _ _ hkr).symm
  obtain ⟨d, hd⟩ := keyOk_und hk
  obtain ⟨_, hz1, _⟩ := zeroOf_spec hz
  have hzz := unT_sp huz
  have hzf : VRel P ι zv zv := by
    obtain ⟨q, _⟩ := zeroOf_spec hz
    cases zv with
    | agg cs =>
      refine .agg _ _ rfl ?_
      intro i u u' a b
      rw [a] at b; cases b
      exact .flat _ (List.all_eq_true.1 q u (by simpa [Value.cells] using Array.mem_of_getElem? a))
    | _ => exact .flat _ (by simpa [Value.cells] using q)
  have fin : ∀ (b : Nat) (x : T.den) (v' : Value), VRel P ι (pkT T x) v' → VRel P ι (.tuple #[pkT T x, .int .i64 b]) (.tuple #[v', .int .i64 b]) := by
    intro b x v' hv
    refine .tuple _ _ rfl fun i u u' a c => ?_
    match i with
    | 0 => simp at a c; subst a; subst c; exact hv
    | 1 => simp at a c; subst a; subst c; exact .ofInt
    | i + 2 => simp at a
  unfold mpEntry at hx
  split at hx
  · cases hx
  · rename_i m0
    rcases hm.mapO with ⟨h2, _⟩ | ⟨a, r0, h2, rfl, hr0⟩
    · cases h2
    · cases h2
      split at hx
      · rename_i c es hes
        obtain ⟨r1, es', q1, q2, q3⟩ := R.mp.live _ _ (ments_spec hes)
        rw [hr0] at q1; cases q1
        have hfk := findKey_run (es := es'.toList) hd K w q3.keys
        have hgo := MapKept.run_getObj_map (P := P) q2
        have hst : (Instr.keyThatStays kv kv).run P w = .ok kv w := by simp [Instr.keyThatStays, K.same]
        split at hx
        · rename_i e0 hv
          split at hx
          · rename_i x hux
            cases hx
            rcases MEs.find kv 0 q3 with ⟨h3, h4⟩ | ⟨v1, v2, j, h3, h4, h5, h5b, e', h6, h7, h8, h9⟩
            · rw [h3] at hv; cases hv
            · rw [h3] at hv; cases hv
              rw [h4] at hfk
              have h6' : es'[j]? = some e' := by simpa using h6
              have hsame : es'.modify j (fun e => { e with key := kv }) = es' := by
                apply Array.ext'
                simpa using MEs.same_key 0 j q3 h4
              refine ⟨.tuple #[v2, .int .i64 e0.born], { w with heap := w.heap.setIfInBounds r0 (.map es' c) }, ι, ?_, fin _ _ _ (by rw [← unT_sp hux]; exact h5), ?_, .refl _⟩
              · simp [Instr.mapEntry, run_und ht, hgo, K.chk, hfk, MapKept.run_setObj_map _ q2, h6', h7, h8, hst, hsame, goInt]
              · have hid : w.heap.setIfInBounds r0 (.map es' c) = w.heap := by
                  apply Array.ext_getElem?
                  intro i
                  rw [Array.getElem?_setIfInBounds]
                  by_cases hi : r0 = i
                  · grind
                  · rw [if_neg hi]
                rw [hid]; exact R
          · cases hx
        · rename_i hv
          cases hx
          rcases MEs.find kv 0 q3 with ⟨h3, h4⟩ | ⟨v1, v2, j, h3, h4, h5, h5b, e', h6, h7, h8, h9⟩
          · rw [h4] at hfk
            refine ⟨.tuple #[zv, .int .i64 c], { w with heap := w.heap.setIfInBounds r0 (.map (es'.push { key := kv, val := zv, born := c }) (c + 1)) }, ι, ?_, fin c z zv (by rw [← hzz]; exact hzf), R.mset hr0 q2 ?_, .refl _⟩
            · simp [Instr.mapEntry, run_und ht, hgo, K.chk, hfk, MapKept.run_setObj_map _ q2, hz1, goInt]
            · rw [← hzz]; simpa using MEs.put_new hk hzf 0 q3 h4
          · rw [h3] at hv; cases hv
      · cases hx
theorem entryStore_sound (R : Rel P W0 ι h w) {t : TypeId} {m : Option Nat} {x' v v' : Value} {kk : IntKind} {st : Int} (hm : VRel P ι (.map m) x') (hv : VRel P ι v v')
    {u : Unit} (hx : mpStore m st v h = some (u, h1)) : ∃ w', (Instr.entryStore t x' (.int kk st) v').run P w = .ok () w' ∧ Rel P W0 ι h1 w' := by
  unfold mpStore at hx
  split at hx
  · cases hx
  · rename_i m0
    rcases hm.mapO with ⟨h2, _⟩ | ⟨a, r0, h2, rfl, hr0⟩
    · cases h2
    · cases h2
      split at hx
      · rename_i x hes
        split at hx
        · rename_i es hd hp
          cases hx
          obtain ⟨r1, es', q1, q2, q3⟩ := R.mp.live _ _ hes
          rw [hr0] at q1; cases q1
          have hgo := MapKept.run_getObj_map (P := P) q2
          obtain ⟨j, h3, h4⟩ := MEs.putB hv q3 hp
          have hst : ((st.toNat : Nat) : Int) = st := Int.toNat_of_nonneg (of_decide_eq_true hd)
          rw [hst] at h3
          have h3' : es'.findIdx? (fun e => (e.born : Int) == st) = some j := by
            rw [← Array.toArray_toList (xs := es'), List.findIdx?_toArray]; exact h3
          refine ⟨{ w with heap := w.heap.setIfInBounds r0 (.map (es'.modify j fun e => { e with val := v' }) x.clock) }, ?_, R.mset hr0 q2 ?_⟩
          · simp [Instr.entryStore, hgo, asInt, asIntOf, h3', MapKept.run_setObj_map _ q2]
          · simpa using h4
        · cases hx
      · cases hx
theorem delete_sound (R : Rel P W0 ι h w) {t k e ty : TypeId} {ts : Array TypeId} (hts : ts[0]? = some t) (ht : P.underlying t = some (.map k e)) {m : Option Nat} {x' kv kv' : Value} (hm : VRel P ι (.map m) x') (hk : keyOk P k kv = true) (hkr : VRel P ι kv kv')
    {u : Unit} (hx : mpDel k m kv h = some (u, h1)) : VSim P W0 ι w (Builtin.delete_ ts ty #[x', kv']) (.tuple #[]) h1 := by
  have K := keyRun hk
  obtain rfl := (K.flat _ _ hkr).symm
  obtain ⟨d, hd⟩ := keyOk_und hk
  unfold mpDel at hx
  split at hx
  · cases hx
    rcases hm.mapO with ⟨_, rfl⟩ | ⟨a, r, h2, _⟩
    · refine .ret (v' := .tuple #[]) ?_ (.tuple _ _ rfl (by simp)) R
      simp [Builtin.delete_, hts, run_und ht, K.chk]
    · cases h2
  · rename_i m0
    rcases hm.mapO with ⟨h2, _⟩ | ⟨a, r0, h2, rfl, hr0⟩
    · cases h2
    · cases h2
      split at hx
      · rename_i c es hes
        cases hx
        obtain ⟨r1, es', q1, q2, q3⟩ := R.mp.live _ _ (ments_spec hes)
        rw [hr0] at q1; cases q1
        have hfk := findKey_run (es := es'.toList) hd K w q3.keys
        have hgo := MapKept.run_getObj_map (P := P) q2
        rcases MEs.find kv 0 q3 with ⟨h3, h4⟩ | ⟨v1, v2, j, h3, h4, h5, h5b, e', h6, h7, h8, h9⟩
        · rw [h4] at hfk
          refine ⟨.tuple #[], { w with heap := w.heap.setIfInBounds r0 (.map es' c) }, ι, ?_, .tuple _ _ rfl (by simp), R.mset hr0 q2 ?_, .refl _⟩
          · simp [Builtin.delete_, hts, run_und ht, hgo, K.chk, hfk, MapKept.run_setObj_map _ q2]
          · rw [MEs.del_none 0 q3 h4]; exact q3
        · rw [h4] at hfk
          refine ⟨.tuple #[], { w with heap := w.heap.setIfInBounds r0 (.map (es'.eraseIdxIfInBounds j) c) }, ι, ?_, .tuple _ _ rfl (by simp), R.mset hr0 q2 ?_, .refl _⟩
          · simp [Builtin.delete_, hts, run_und ht, hgo, K.chk, hfk, MapKept.run_setObj_map _ q2]
          · have := MEs.del_some 0 j q3 h4
            simp_all
      · cases hx
theorem mpLen_sound (R : Rel P W0 ι h w) {t k e ty : TypeId} {ts : Array TypeId} (hts : ts[0]? = some t) (ht : P.underlying t = some (.map k e)) {m : Option Nat} {x' : Value} (hm : VRel P ι (.map m) x')
    {n : Nat} (hx : mpLen m h = some (n, h1)) : VSim P W0 ι w (Builtin.len_ ts ty #[x']) (.int .i64 n) h1 := by
  unfold mpLen at hx
  split at hx
  · cases hx
    rcases hm.mapO with ⟨_, rfl⟩ | ⟨a, r, h2, _⟩
    · exact .ret (v' := .int .i64 0) (by simp [Builtin.len_, hts, run_und ht, goInt]) .ofInt R
    · cases h2
  · rename_i m0
    rcases hm.mapO with ⟨h2, _⟩ | ⟨a, r0, h2, rfl, hr0⟩
    · cases h2
    · cases h2
      split at hx
      · rename_i x hes
        cases hx
        obtain ⟨r1, es', q1, q2, q3⟩ := R.mp.live _ _ hes
        rw [hr0] at q1; cases q1
        have hl := q3.length
        refine .ret (v' := .int .i64 x.es.length) ?_ .ofInt R
        have hgo := MapKept.run_getObj_map (P := P) q2
        simp at hl
        simp [Builtin.len_, hts, run_und ht, goInt, hgo, hl]
      · cases hx
theorem copyS_sound (R : Rel P W0 ι h w) {t e ty : TypeId} {ts : Array TypeId} (hts : ts[0]? = some t) (ht : P.underlying t = some (.slice e)) {z : Nat} (hz : sizeOfT P e = some z) {a : Option Addr} {n c : Nat} {a2 : Option Addr} {n2 c2 : Nat} {x' y' : Value}
    (hd : VRel P ι (.slice a n c) x') (hs : VRel P ι (.slice a2 n2 c2) y') {k : Nat} (hx : copyS ⟨a, n, c⟩ ⟨a2, n2, c2⟩ z h = some (k, h1)) :
    VSim P W0 ι w (Builtin.copy_ ts ty #[x', y']) (.int .i64 k) h1 := by
  have src : ∀ cs, cellsAt h a2 (Nat.min n2 n * z) = some cs → ∃ cs', LRel P ι cs cs' ∧ (Builtin.firstCells z (Nat.min n2 n) y').run P w = .ok cs'.toArray w ∧ (∀ v ∈ cs, scal v = true) := by
    intro cs hc
    cases hs with
    | flat _ hf =>
      cases a2 with
      | some a => simp [flat1] at hf
      | none =>
        simp [cellsAt] at hc
        obtain ⟨h0, rfl⟩ := hc
        exact ⟨[], .nil, by simp [Builtin.firstCells], by simp⟩
    | slice b b' n c c' l e1 e2 e3 e4 e5 e6 e7 e8 =>
      obtain ⟨cs', q1, q2, q3, q4, q5⟩ := cellsAt_sound R ⟨e1, e2, l, e3, e4, e5⟩ hc
      grind [Builtin.firstCells]
    | sliceE b b' c hce =>
      have : cs = [] := by
        simp [cellsAt] at hc
        grind
      subst this
      exact ⟨[], .nil, by simp [Builtin.firstCells, loadCells, loadCellsFrom], by simp⟩
  obtain ⟨y2, c3, hy2, _⟩ := hs.slO
  obtain ⟨x2, c4, hx2, hxn⟩ := hd.slO
  have hlen : (Builtin.lenOf y').run P w = .ok n2 w := by rw [hy2]; simp [Builtin.lenOf]
  unfold copyS at hx
  split at hx
  · rename_i hc
    cases hx
    obtain ⟨cs', q1, q2, _⟩ := src _ hc
    have : cs' = [] := by have := q1.1; simp at this; exact List.eq_nil_of_length_eq_zero this.symm
    subst this
    refine .ret (v' := .int .i64 (Nat.min n2 n)) ?_ .ofInt R
    subst hx2
    cases x2 <;> simp [Builtin.copy_, hts, run_und ht, hlen, szT_of hz, q2, storeCells, goInt]
  · rename_i cs hne hc
    split at hx
    · cases hx
    · rename_i b hb
      split at hx
      · rename_i u h2 hst
        cases hx
        obtain ⟨cs', q1, q2, _⟩ := src _ hc
        have hb : a = some b := hb
        subst hb
        cases hd with
        | flat _ hf => simp [flat1] at hf
        | slice _ b' n c c' l e1 e2 e3 e4 e5 e6 e7 e8 =>
          obtain ⟨w', hr, R'⟩ := stN_sound R ⟨e1, e2, l, e3, e4, e5⟩ q1 hst
          refine ⟨.int .i64 (Nat.min n2 n), w', ι, ?_, .ofInt, R', .refl _⟩
          simp [Builtin.copy_, hts, run_und ht, hlen, szT_of hz, q2, goInt, hr]
        | sliceE _ b' c hce =>
          exfalso
          have : cs = [] := by
            have : Nat.min n2 0 * z = 0 := by simp
            rw [this] at hc
            unfold cellsAt at hc
            grind
          exact hne this
      · cases hx
  · cases hx
end Go.Ago
