import PyProof.Rows.All
import Wide.All
import OpenK.AllK
import Wide.FinOn
import PySem.Challenge.RW_eu0027_01
section
open PySem PySem.W PyProof.Rows
set_option Elab.async false
set_option maxRecDepth 100000
namespace Mine
set_option maxHeartbeats 8000000 in
open_top hd for PySem.Challenge.rw_eu0027_01
end Mine
end

section
open PySem PySem.W PySem.Calls PyProof.Rows
set_option Elab.async false
set_option maxRecDepth 100000
namespace Mine

/-- the five keys: 0, 'a', (1,), -1, 'new' -/
def kpd : Nat → PyData
  | 0 => .int 0
  | 1 => .str (Str.ofString "a")
  | 2 => .tuple [.int 1]
  | 3 => .int (-1)
  | 4 => .str (Str.ofString "new")
  | _ => .none

def KeyAt (h : Heap) (k : Nat) (v : Value) : Prop := match k with
  | 0 => ∃ t, v = .int 0 t
  | 1 => ∃ t, v = .str (Str.ofString "a") t
  | 2 => ∃ x o n t, v = .ref x ∧ h.get? x = some o ∧ o.cls = .type "tuple" ∧ o.data = .seq #[.int 1 t] n
  | 3 => ∃ t, v = .int (-1) t
  | 4 => ∃ t, v = .str (Str.ofString "new") t
  | _ => False

def hashK (w : World) : Nat → Int
  | 0 => hashInt 0
  | 1 => hashStr w (Str.ofString "a")
  | 2 => reduceHash (Builtin.Tuple.tupleHashOf [hashInt 1])
  | 3 => hashInt (-1)
  | 4 => hashStr w (Str.ofString "new")
  | _ => 0

theorem KeyAt.lt {h : Heap} {v : Value} : ∀ {k : Nat}, KeyAt h k v → k < 5
  | 0, _ | 1, _ | 2, _ | 3, _ | 4, _ => by omega
  | _ + 5, x => x.elim

theorem KeyAt.reads {h : Heap} {v : Value} : ∀ {k : Nat}, KeyAt h k v → ∃ as, Reads h v (kpd k) as
  | 0, ⟨t, e⟩ => ⟨_, by subst e; exact Reads.int _ _⟩
  | 1, ⟨t, e⟩ => ⟨_, by subst e; exact Reads.str _ _⟩
  | 2, ⟨x, o, n, t, e, ho, hc, hd⟩ => ⟨_, by subst e; exact Reads.tuple ho hc hd (ReadsAll.cons (Reads.int _ _) ReadsAll.nil)⟩
  | 3, ⟨t, e⟩ => ⟨_, by subst e; exact Reads.int _ _⟩
  | 4, ⟨t, e⟩ => ⟨_, by subst e; exact Reads.str _ _⟩
  | _ + 5, x => x.elim

theorem kpd_eqv : ∀ (i : Fin 5) (j : Fin 5), PyData.eqv (kpd i.1) (kpd j.1) = decide (i.1 = j.1) := by decide +kernel
theorem kpd_lay : ∀ (i : Fin 5), (kpd i.1).canLay0 = true ∧ (kpd i.1).depth ≤ 2 := by decide +kernel

section
variable {prog : Program} {w : World} {A : Around} {E : Value → Shared → Prop} {s : Shared}


theorem eqK {k k' : Nat} {u v : Value} {Q : Bool → Shared → Prop} (hu : A.units + 2 < cLine) (h1 : KeyAt s.heap k u) (h2 : KeyAt s.heap k' v) (h : Q (decide (k = k')) s) :
    wpAny (model prog w) A (eqBool u v) Q E s := by
  obtain ⟨as, r1⟩ := h1.reads
  obtain ⟨bs, r2⟩ := h2.reads
  have l1 := kpd_lay ⟨k, h1.lt⟩
  have l2 := kpd_lay ⟨k', h2.lt⟩
  refine SeqAt.eqAt_reads _ _ A s u v as bs r1 r2 l1.1 l2.1 ?_ prog w E Q ?_
  · have := Nat.min_le_left (kpd k).depth (kpd k').depth
    have := l1.2
    dsimp only at *
    omega
  · rw [kpd_eqv ⟨k, h1.lt⟩ ⟨k', h2.lt⟩]; exact h

theorem KeyAt.tuple {h : Heap} {v : Value} (x : KeyAt h 2 v) : ∃ a, v = .ref a ∧ IsTupleKey (intKind prog w) h [1] a := by
  obtain ⟨a, o, n, t, e, ho, hc, hd⟩ := x
  exact ⟨a, e, o, _, n, ho, hc, hd, .cons (by simp [intKind, Value.isInt]) .nil⟩

theorem hashP {k : Nat} {v : Value} {Q : Int → Shared → Prop} (hu : A.units < cLine) (hk : KeyAt s.heap k v) (h : ∀ tk, Q (hashK w k) { s with toks := tk }) :
    wpAny (model prog w) A (pyHash v) Q E s := by
  match k, hk with
  | 0, ⟨t, e⟩ => subst e; exact wpAny_pyHash_int (h _)
  | 1, ⟨t, e⟩ => subst e; exact wpAny_pyHash_str (h _)
  | 2, hk =>
    obtain ⟨a, rfl, x⟩ := hk.tuple (prog := prog) (w := w)
    exact wpAny_pyHash_tuple hu x (h _)
  | 3, ⟨t, e⟩ => subst e; exact wpAny_pyHash_int (h _)
  | 4, ⟨t, e⟩ => subst e; exact wpAny_pyHash_str (h _)
  | _ + 5, x => exact x.elim

theorem quietK {k : Nat} {v : Value} {Q : Bool → Shared → Prop} (hk : KeyAt s.heap k v) (h : Q true s) : wpAny (model prog w) A (eqIsQuiet 8 v) Q E s := by
  match k, hk with
  | 0, ⟨t, e⟩ => subst e; rw [eqIsQuiet_byValue 8 rfl]; exact wpAny_pure h
  | 1, ⟨t, e⟩ => subst e; rw [eqIsQuiet_byValue 8 rfl]; exact wpAny_pure h
  | 2, hk =>
    obtain ⟨a, rfl, x⟩ := hk.tuple (prog := prog) (w := w)
    exact wpAny_eqIsQuiet_tuple x h
  | 3, ⟨t, e⟩ => subst e; rw [eqIsQuiet_byValue 8 rfl]; exact wpAny_pure h
  | 4, ⟨t, e⟩ => subst e; rw [eqIsQuiet_byValue 8 rfl]; exact wpAny_pure h
  | _ + 5, x => exact x.elim
end

/-- the entries of a dict, key by key -/
structure Ents (w : World) (h : Heap) (es : Array DictEntry) (ks : List Nat) : Prop where
  len : es.size = ks.length
  each : ∀ (i : Nat) (e : DictEntry) (k : Nat), es[i]? = some e → ks[i]? = some k → e.hash = hashK w k ∧ KeyAt h k e.key
  nodup : ks.Nodup

theorem Ents.at {w : World} {h : Heap} {es : Array DictEntry} {ks : List Nat} (x : Ents w h es ks) {i : Nat} {e : DictEntry} (he : es[i]? = some e) : ∃ k, ks[i]? = some k ∧ e.hash = hashK w k ∧ KeyAt h k e.key := by
  have hi : i < es.size := (Array.getElem?_eq_some_iff.mp he).1
  have hk : ks[i]? = some (ks[i]'(by rw [← x.len]; exact hi)) := List.getElem?_eq_getElem _
  exact ⟨_, hk, x.each i e _ he hk⟩
theorem Ents.back {w : World} {h : Heap} {es : Array DictEntry} {ks : List Nat} (x : Ents w h es ks) {i k : Nat} (hk : ks[i]? = some k) : ∃ e, es[i]? = some e ∧ e.hash = hashK w k ∧ KeyAt h k e.key := by
  have hi : i < ks.length := (List.getElem?_eq_some_iff.mp hk).1
  have he : es[i]? = some (es[i]'(by rw [x.len]; exact hi)) := Array.getElem?_eq_getElem _
  exact ⟨_, he, x.each i _ k he hk⟩
theorem idx_unique {ks : List Nat} (hn : ks.Nodup) {i j k : Nat} (hi : ks[i]? = some k) (hj : ks[j]? = some k) : i = j :=
  (List.getElem?_inj (List.getElem?_eq_some_iff.mp hi).1 hn).mp (hi.trans hj.symm)
theorem findIdx_some {ks : List Nat} (hn : ks.Nodup) {i k : Nat} (hi : ks[i]? = some k) : ks.findIdx? (fun y => decide (y = k)) = some i := by
  obtain ⟨hl, he⟩ := List.getElem?_eq_some_iff.mp hi
  rw [List.findIdx?_eq_some_iff_getElem]
  refine ⟨hl, by simp [he], fun j hj => ?_⟩
  simp only [decide_eq_true_eq]
  intro e
  have hj' : ks[j]? = some k := by rw [List.getElem?_eq_getElem (by omega), e]
  exact absurd (idx_unique hn hi hj') (by omega)
theorem findIdx_none {ks : List Nat} {k : Nat} (h : ∀ i : Nat, ks[i]? ≠ some k) : ks.findIdx? (fun y => decide (y = k)) = none := by
  rw [List.findIdx?_eq_none_iff]
  intro y hy
  obtain ⟨i, hi⟩ := List.getElem?_of_mem hy
  simp only [decide_eq_false_iff_not]
  rintro rfl
  exact h i hi

section
variable {prog : Program} {w : World} {A : Around} {E : Value → Shared → Prop} {s : Shared}
theorem mem_places {n i : Nat} {f : Nat → Option Int} {x : Int} : i ∈ placesWithHash n f x ↔ i < n ∧ f i = some x := by
  unfold placesWithHash
  simp [List.mem_filter]
theorem places_nodup (n : Nat) (f : Nat → Option Int) (x : Int) : (placesWithHash n f x).Nodup := by
  unfold placesWithHash
  exact List.Pairwise.filter _ List.nodup_range

theorem walkPlainK {d : Addr} {o : Obj} {es : Array DictEntry} {ep k : Nat} {ks : List Nat} {key : Value} {Q : Option Nat → Shared → Prop} (hu : A.units + 2 < cLine) (hkey : KeyAt s.heap k key)
    (ho : s.heap.get? d = some o) (hd : o.data = .dict es ep) (x : Ents w s.heap es ks) (h : Q (ks.findIdx? (fun y => decide (y = k))) s) :
    wpAny (model prog w) A (dictWalkPlain d key (hashK w k) es (placesWithHash es.size (fun i => es[i]?.map (·.hash)) (hashK w k))) Q E s := by
  unfold dictWalkPlain
  refine wpAny_bind ?_
  refine wpAny_forIn_list _
    (fun rest b s' => s' = s ∧ b = (none, ()) ∧ ∃ done, placesWithHash es.size (fun i => es[i]?.map (·.hash)) (hashK w k) = done ++ rest ∧ ∀ i ∈ done, ks[i]? ≠ some k) _ ?_ ?_ _ _
    ⟨rfl, rfl, [], rfl, fun _ h => nomatch h⟩
  · rintro i rest b s' ⟨rfl, rfl, done, hp, hno⟩
    have hi : i ∈ placesWithHash es.size (fun i => es[i]?.map (·.hash)) (hashK w k) := by rw [hp]; simp
    obtain ⟨hlt, hh⟩ := mem_places.mp hi
    have he : es[i]? = some es[i] := Array.getElem?_eq_getElem hlt
    obtain ⟨k', hk', hhash, hkat⟩ := x.at he
    simp only [he, Option.map_some, Option.some.injEq] at hh ⊢
    rw [if_pos (by simpa using hh)]
    refine wpAny_bind (wpAny_dictEpoch ho hd (wpAny_bind (eqK hu hkat hkey (wpAny_bind (wpAny_dictEpoch ho hd ?_)))))
    show wpAny _ _ (if (ep != ep) = true then _ else _) _ E _
    rw [if_neg (by simp)]
    by_cases hkk : k' = k
    · subst hkk
      rw [decide_eq_true rfl]
      rw [findIdx_some x.nodup hk'] at h
      exact wpAny_bind (wpAny_rule (wpAny_pure (wpAny_pure h)))
    · rw [decide_eq_false hkk]
      refine wpAny_bind (wpAny_rule (wpAny_pure ⟨rfl, rfl, done ++ [i], by simp [hp], fun j hj => ?_⟩))
      rcases List.mem_append.mp hj with hj | hj
      · exact hno j hj
      · rw [List.mem_singleton.mp hj, hk']
        exact fun e => hkk (Option.some.inj e)
  · rintro b s' ⟨rfl, rfl, done, hp, hno⟩
    rw [findIdx_none (fun i hi => ?_)] at h
    · exact wpAny_pure h
    · obtain ⟨e, he, hhash, _⟩ := x.back hi
      have : i ∈ placesWithHash es.size (fun i => es[i]?.map (·.hash)) (hashK w k) := mem_places.mpr ⟨(Array.getElem?_eq_some_iff.mp he).1, by rw [he, Option.map_some, hhash]⟩
      rw [hp, List.append_nil] at this
      exact hno i this hi

theorem tellK {k : Nat} {key : Value} {stored : List Value} {Q : Bool → Shared → Prop} (hkey : KeyAt s.heap k key) (hst : ∀ v ∈ stored, ∃ k', KeyAt s.heap k' v) (h : Q false s) :
    wpAny (model prog w) A (tableMayTell key stored) Q E s := by
  unfold tableMayTell
  split
  · exact wpAny_pure h
  · refine wpAny_bind (quietK hkey ?_)
    simp only [Bool.not_true, Bool.false_eq_true, if_false]
    refine wpAny_bind ?_
    refine wpAny_forIn_list _ (fun rest r s' => s' = s ∧ r = (none, ()) ∧ ∀ v ∈ rest, ∃ k', KeyAt s.heap k' v) _ ?_ ?_ _ _ ⟨rfl, rfl, hst⟩
    · rintro y rest r s' ⟨rfl, rfl, hr⟩
      obtain ⟨k', hk'⟩ := hr y List.mem_cons_self
      refine wpAny_bind (quietK hk' ?_)
      simp only [Bool.not_true, Bool.false_eq_true, if_false]
      exact wpAny_pure ⟨rfl, rfl, fun v hv => hr v (List.mem_cons_of_mem _ hv)⟩
    · rintro r s' ⟨rfl, rfl, _⟩
      exact wpAny_pure h

theorem KeyAt.isStr {h : Heap} {k k' : Nat} {x : Str} {t : Tok} {v : Value} (h1 : KeyAt h k (.str x t)) (h2 : KeyAt h k' v) : v.isStr x = decide (k' = k) := by
  have hx : (k = 1 ∧ x = Str.ofString "a") ∨ (k = 4 ∧ x = Str.ofString "new") := by
    match k, h1 with
    | 0, ⟨t, e⟩ => cases e
    | 1, ⟨t, e⟩ => cases e; exact .inl ⟨rfl, rfl⟩
    | 2, ⟨x, o, n, t, e, _⟩ => cases e
    | 3, ⟨t, e⟩ => cases e
    | 4, ⟨t, e⟩ => cases e; exact .inr ⟨rfl, rfl⟩
    | _ + 5, x => exact x.elim
  match k', h2 with
  | 0, ⟨t, e⟩ => subst e; rcases hx with ⟨rfl, rfl⟩ | ⟨rfl, rfl⟩ <;> rfl
  | 1, ⟨t, e⟩ => subst e; rcases hx with ⟨rfl, rfl⟩ | ⟨rfl, rfl⟩ <;> (show (Str.ofString "a" == _) = _; decide)
  | 2, ⟨x, o, n, t, e, _⟩ => subst e; rcases hx with ⟨rfl, rfl⟩ | ⟨rfl, rfl⟩ <;> rfl
  | 3, ⟨t, e⟩ => subst e; rcases hx with ⟨rfl, rfl⟩ | ⟨rfl, rfl⟩ <;> rfl
  | 4, ⟨t, e⟩ => subst e; rcases hx with ⟨rfl, rfl⟩ | ⟨rfl, rfl⟩ <;> (show (Str.ofString "new" == _) = _; decide)
  | _ + 5, x => exact x.elim

set_option maxHeartbeats 4000000 in
theorem findK {d : Addr} {o : Obj} {es : Array DictEntry} {ep k : Nat} {ks : List Nat} {key : Value} {Q : Option Nat → Shared → Prop} (hu : A.units + 2 < cLine) (hkey : KeyAt s.heap k key)
    (ho : s.heap.get? d = some o) (hd : o.data = .dict es ep) (x : Ents w s.heap es ks) (h : Q (ks.findIdx? (fun y => decide (y = k))) s) :
    wpAny (model prog w) A (dictFind d key (hashK w k)) Q E s := by
  have plain := walkPlainK (prog := prog) (E := E) hu hkey ho hd x h
  have hst : ∀ v ∈ (placesWithHash es.size (fun i => es[i]?.map (·.hash)) (hashK w k)).filterMap (fun i => es[i]?.map (·.key)), ∃ k', KeyAt s.heap k' v := by
    intro v hv
    obtain ⟨i, _, hi⟩ := List.mem_filterMap.mp hv
    cases he : es[i]? with
    | none => rw [he] at hi; cases hi
    | some e =>
      rw [he] at hi
      obtain rfl : e.key = v := by simpa using hi
      obtain ⟨k', _, _, hk'⟩ := x.at he
      exact ⟨k', hk'⟩
  have hany : ∀ a, key = .ref a → ¬ (es.any fun e => e.key == key && e.hash != hashK w k) = true := by
    rintro a rfl
    rw [← Array.any_toList, List.any_eq_true]
    rintro ⟨e, hin, hc⟩
    obtain ⟨i, hi⟩ := List.getElem?_of_mem hin
    rw [Array.getElem?_toList] at hi
    obtain ⟨k', hk', hh, hka⟩ := x.at hi
    simp only [Bool.and_eq_true, beq_iff_eq, bne_iff_ne, ne_eq] at hc
    obtain ⟨e1, e2⟩ := hc
    rw [e1] at hka
    have : k' = k := by
      match k, hkey, k', hka with
      | 0, ⟨t, e⟩, _, _ => cases e
      | 1, ⟨t, e⟩, _, _ => cases e
      | 3, ⟨t, e⟩, _, _ => cases e
      | 4, ⟨t, e⟩, _, _ => cases e
      | _ + 5, x, _, _ => exact x.elim
      | 2, _, 0, ⟨t, e⟩ => cases e
      | 2, _, 1, ⟨t, e⟩ => cases e
      | 2, _, 3, ⟨t, e⟩ => cases e
      | 2, _, 4, ⟨t, e⟩ => cases e
      | 2, _, _ + 5, x => exact x.elim
      | 2, _, 2, _ => rfl
    subst this
    exact e2 hh
  have shape : (∃ i t, key = .int i t) ∨ (∃ x t, key = .str x t) ∨ ∃ a, key = .ref a := by
    match k, hkey with
    | 0, ⟨t, e⟩ => exact .inl ⟨_, _, e⟩
    | 1, ⟨t, e⟩ => exact .inr (.inl ⟨_, _, e⟩)
    | 2, ⟨x, o, n, t, e, _⟩ => exact .inr (.inr ⟨_, e⟩)
    | 3, ⟨t, e⟩ => exact .inl ⟨_, _, e⟩
    | 4, ⟨t, e⟩ => exact .inr (.inl ⟨_, _, e⟩)
    | _ + 5, x => exact x.elim
  have found : ∀ y t, key = .str y t → wpAny (model prog w) A (foundByValue d key es y) Q E s := by
    rintro y t rfl
    have e1 : (es.findIdx? fun e => e.key.isStr y) = ks.findIdx? (fun z => decide (z = k)) := by
      cases hf : ks.findIdx? (fun z => decide (z = k)) with
      | none =>
        rw [Array.findIdx?_eq_none_iff]
        intro e he
        obtain ⟨i, hi, rfl⟩ := Array.mem_iff_getElem.mp he
        obtain ⟨k', hk', _, hka⟩ := x.at (Array.getElem?_eq_getElem hi)
        rw [KeyAt.isStr hkey hka]
        rw [List.findIdx?_eq_none_iff] at hf
        exact hf k' (List.mem_of_getElem? hk')
      | some i =>
        obtain ⟨hl, hp, hlt⟩ := List.findIdx?_eq_some_iff_getElem.mp hf
        rw [Array.findIdx?_eq_some_iff_getElem]
        refine ⟨by rw [x.len]; exact hl, ?_, fun j hj => ?_⟩
        · have hlt' : i < es.size := by rw [x.len]; exact hl
          obtain ⟨k', hk', _, hka⟩ := x.at (Array.getElem?_eq_getElem hlt')
          rw [KeyAt.isStr hkey hka]
          rw [List.getElem?_eq_getElem hl] at hk'
          rw [← Option.some.inj hk']; exact hp
        · have hlt' : j < es.size := by rw [x.len]; omega
          obtain ⟨k', hk', _, hka⟩ := x.at (Array.getElem?_eq_getElem hlt')
          rw [KeyAt.isStr hkey hka]
          have q := hlt j hj
          rw [List.getElem?_eq_getElem (by omega)] at hk'
          rw [← Option.some.inj hk']; exact q
    unfold foundByValue
    rw [e1]
    cases hf : ks.findIdx? (fun z => decide (z = k)) with
    | none => rw [hf] at h; exact wpAny_pure h
    | some i =>
      rw [hf] at h
      obtain ⟨hl, hp, _⟩ := List.findIdx?_eq_some_iff_getElem.mp hf
      have hlt' : i < es.size := by rw [x.len]; exact hl
      obtain ⟨k', hk', _, hka⟩ := x.at (Array.getElem?_eq_getElem hlt')
      rw [List.getElem?_eq_getElem hl] at hk'
      have hkk : k' = k := by rw [← Option.some.inj hk']; simpa using hp
      subst hkk
      simp only [Array.getElem?_eq_getElem hlt']
      refine wpAny_bind (wpAny_dictEpoch ho hd (wpAny_bind (eqK hu hka hkey (wpAny_bind (wpAny_dictEpoch ho hd ?_)))))
      show wpAny _ _ (if (ep != ep) = true then _ else _) _ E _
      rw [if_neg (by simp), decide_eq_true rfl]
      exact wpAny_bind (wpAny_rule (wpAny_pure h))
  unfold dictFind
  refine wpAny_holding ?_
  refine wpAny_bind (wpAny_dictEntries ho hd ?_)
  dsimp only
  by_cases hstr : ∃ y t, key = .str y t ∧ (es.all fun e => isExactStrKey e.key) = true
  · obtain ⟨y, t, rfl, hs⟩ := hstr
    dsimp only
    rw [if_pos hs]; exact found _ _ rfl
  by_cases hall : ((key :: (placesWithHash es.size (fun i => es[i]?.map (·.hash)) (hashK w k)).filterMap (fun i => es[i]?.map (·.key))).all carriedByValue) = true
  · rcases shape with ⟨i, t, rfl⟩ | ⟨y, t, rfl⟩ | ⟨a, rfl⟩ <;> dsimp only
    · rw [if_pos hall]; exact plain
    · rw [if_neg (fun hs => hstr ⟨_, _, rfl, hs⟩), if_pos hall]; exact plain
    · rw [if_pos hall]; exact plain
  rcases shape with ⟨i, t, rfl⟩ | ⟨y, t, rfl⟩ | ⟨a, rfl⟩ <;> dsimp only
  all_goals (try rw [if_neg (fun hs => hstr ⟨_, _, rfl, hs⟩)])
  all_goals rw [if_neg hall]
  all_goals (try rw [if_neg (hany _ rfl)])
  all_goals (
    generalize hP : placesWithHash es.size (fun i => es[i]?.map (·.hash)) (hashK w k) = P at hst ⊢
    refine wpAny_ite_split (fun _ => ?_) (fun _ => ?_)
    all_goals first | refine wpAny_bind (wpAny_pure ?_) | refine wpAny_bind (tellK hkey hst ?_)
    all_goals (
      rw [if_neg (by simp)]
      refine wpAny_bind ?_
      refine wpAny_forIn_list _
        (fun rest b s' => s' = s ∧ ∃ done hit, b = (none, hit) ∧ P = done ++ rest ∧
          ((hit = none ∧ ∀ i ∈ done, ks[i]? ≠ some k) ∨ ∃ j, hit = some j ∧ j ∈ done ∧ ks[j]? = some k)) _ ?_ ?_ _ _
        ⟨rfl, [], none, rfl, rfl, .inl ⟨rfl, fun _ h => nomatch h⟩⟩
      · rintro i rest b s' ⟨rfl, done, hit, rfl, hp, hH⟩
        have hi : i ∈ placesWithHash es.size (fun i => es[i]?.map (·.hash)) (hashK w k) := by rw [hP, hp]; simp
        obtain ⟨hlt, hh⟩ := mem_places.mp hi
        have he : es[i]? = some es[i] := Array.getElem?_eq_getElem hlt
        obtain ⟨k', hk', hhash, hkat⟩ := x.at he
        rw [he, Option.map_some, Option.some.injEq] at hh
        rw [he]
        dsimp only
        rw [if_pos (by simpa using hh)]
        refine wpAny_bind (wpAny_dictEpoch ho hd (wpAny_bind (eqK hu hkat hkey (wpAny_bind (wpAny_dictEpoch ho hd ?_)))))
        show wpAny _ _ (if (ep != ep) = true then _ else _) _ E _
        rw [if_neg (by simp)]
        by_cases hkk : k' = k
        · subst hkk
          rw [decide_eq_true rfl]
          have hh0 : hit = none := by
            rcases hH with ⟨h0, _⟩ | ⟨j, _, hj, hjk⟩
            · exact h0
            · have e1 := idx_unique x.nodup hjk hk'
              have nd := places_nodup es.size (fun i => es[i]?.map (·.hash)) (hashK w k')
              rw [hP, hp, List.nodup_append] at nd
              exact absurd e1 (nd.2.2 j hj i List.mem_cons_self)
          subst hh0
          rw [if_pos rfl]
          rw [if_neg (by simp)]
          refine wpAny_bind (wpAny_rule ?_)
          refine wpAny_ite_split (fun _ => ?_) (fun _ => ?_)
          · refine wpAny_pure (wpAny_pure ?_)
            rw [findIdx_some x.nodup hk'] at h
            exact h
          · exact wpAny_pure ⟨rfl, done ++ [i], some i, rfl, by simp [hp], .inr ⟨i, rfl, by simp, hk'⟩⟩
        · rw [decide_eq_false hkk]
          rw [if_neg (by simp)]
          refine wpAny_bind (wpAny_rule ?_)
          rw [if_neg (by simp)]
          refine wpAny_pure ⟨rfl, done ++ [i], hit, rfl, by simp [hp], ?_⟩
          rcases hH with ⟨h0, hno⟩ | ⟨j, h0, hj, hjk⟩
          · refine .inl ⟨h0, fun j hj => ?_⟩
            rcases List.mem_append.mp hj with hj | hj
            · exact hno j hj
            · rw [List.mem_singleton.mp hj, hk']
              exact fun e => hkk (Option.some.inj e)
          · exact .inr ⟨j, h0, List.mem_append_left _ hj, hjk⟩
      · rintro b s' ⟨rfl, done, hit, rfl, hp, hH⟩
        rw [List.append_nil] at hp
        rcases hH with ⟨rfl, hno⟩ | ⟨j, rfl, _, hjk⟩
        · rw [findIdx_none (fun i hi => ?_)] at h
          · exact wpAny_pure h
          · obtain ⟨e, he, hhash, _⟩ := x.back hi
            have : i ∈ placesWithHash es.size (fun i => es[i]?.map (·.hash)) (hashK w k) := mem_places.mpr ⟨(Array.getElem?_eq_some_iff.mp he).1, by rw [he, Option.map_some, hhash]⟩
            rw [hP, hp] at this
            exact hno i this hi
        · rw [findIdx_some x.nodup hjk] at h
          exact wpAny_pure h))
end
end Mine
end

section
open PySem PySem.W PySem.Calls PyProof.Rows
set_option Elab.async false
set_option maxRecDepth 100000
namespace Mine

structure Tab {D : Type} (w : World) (KP : Nat → Value → Prop) (VP : Value → D → Prop) (es : Array DictEntry) (xs : List (Nat × D)) : Prop where
  len : es.size = xs.length
  each : ∀ (i : Nat) (e : DictEntry) (p : Nat × D), es[i]? = some e → xs[i]? = some p → e.hash = hashK w p.1 ∧ KP p.1 e.key ∧ VP e.val p.2
  nodup : (xs.map (·.1)).Nodup

def lkp {D : Type} (xs : List (Nat × D)) (k : Nat) : Option D := (xs.find? (fun p => decide (p.1 = k))).map (·.2)
def put {D : Type} (xs : List (Nat × D)) (k : Nat) (d : D) : List (Nat × D) := if (lkp xs k).isSome then xs.map (fun p => if p.1 = k then (p.1, d) else p) else xs ++ [(k, d)]
def del {D : Type} (xs : List (Nat × D)) (k : Nat) : List (Nat × D) := xs.filter (fun p => !decide (p.1 = k))

section
variable {D : Type} {w : World} {KP KP' : Nat → Value → Prop} {VP VP' : Value → D → Prop} {es : Array DictEntry} {xs : List (Nat × D)}

theorem Tab.nil : Tab w KP VP #[] ([] : List (Nat × D)) := ⟨rfl, fun i e p h _ => by simp at h, List.nodup_nil⟩
theorem Tab.mono (T : Tab w KP VP es xs) (hk : ∀ k v, KP k v → KP' k v) (hv : ∀ v d, VP v d → VP' v d) : Tab w KP' VP' es xs :=
  ⟨T.len, fun i e p a b => let ⟨q1, q2, q3⟩ := T.each i e p a b; ⟨q1, hk _ _ q2, hv _ _ q3⟩, T.nodup⟩
theorem Tab.ents {h : Heap} (T : Tab w KP VP es xs) (hk : ∀ k v, KP k v → KeyAt h k v) : Ents w h es (xs.map (·.1)) where
  len := by rw [List.length_map]; exact T.len
  each := fun i e k he hi => by
    rw [List.getElem?_map] at hi
    obtain ⟨p, hp, rfl⟩ := Option.map_eq_some_iff.mp hi
    obtain ⟨q1, q2, _⟩ := T.each i e p he hp
    exact ⟨q1, hk _ _ q2⟩
  nodup := T.nodup

theorem findIdx_map (xs : List (Nat × D)) (k : Nat) : (xs.map (·.1)).findIdx? (fun y => decide (y = k)) = xs.findIdx? (fun p => decide (p.1 = k)) := by
  rw [List.findIdx?_map]; rfl
theorem lkp_of_idx {k i : Nat} (h : xs.findIdx? (fun p => decide (p.1 = k)) = some i) : ∃ p, xs[i]? = some p ∧ p.1 = k ∧ lkp xs k = some p.2 := by
  have h2 := List.findIdx?_eq_some_iff_getElem.mp h
  obtain ⟨hl, hp, hb⟩ := h2
  refine ⟨xs[i], List.getElem?_eq_getElem hl, by simpa using hp, ?_⟩
  unfold lkp
  have : xs.find? (fun p => decide (p.1 = k)) = some xs[i] := by
    rw [List.find?_eq_some_iff_getElem]
    exact ⟨hp, i, hl, rfl, fun j hj => by simpa using hb j hj⟩
  rw [this]; rfl
theorem lkp_of_noIdx {k : Nat} (h : xs.findIdx? (fun p => decide (p.1 = k)) = none) : lkp xs k = none := by
  unfold lkp
  rw [List.findIdx?_eq_none_iff] at h
  rw [Option.map_eq_none_iff, List.find?_eq_none]
  intro p hp
  simpa using h p hp
theorem Tab.get {k i : Nat} (T : Tab w KP VP es xs) (h : xs.findIdx? (fun p => decide (p.1 = k)) = some i) : ∃ e d, es[i]? = some e ∧ lkp xs k = some d ∧ KP k e.key ∧ VP e.val d := by
  obtain ⟨p, hp, hk, hl⟩ := lkp_of_idx h
  have hi : i < es.size := by rw [T.len]; exact (List.getElem?_eq_some_iff.mp hp).1
  obtain ⟨_, q2, q3⟩ := T.each i es[i] p (Array.getElem?_eq_getElem hi) hp
  exact ⟨es[i], p.2, Array.getElem?_eq_getElem hi, hl, hk ▸ q2, q3⟩

theorem keys_map_put (xs : List (Nat × D)) (k : Nat) (d : D) : (xs.map (fun p => if p.1 = k then (p.1, d) else p)).map (·.1) = xs.map (·.1) := by
  rw [List.map_map]
  apply List.map_congr_left
  intro p _
  dsimp only [Function.comp]
  split <;> rfl
theorem Tab.modify {k i : Nat} {v : Value} {d : D} (T : Tab w KP VP es xs) (h : xs.findIdx? (fun p => decide (p.1 = k)) = some i) (hv : VP v d) : Tab w KP VP (es.modify i fun e => { e with val := v }) (put xs k d) := by
  obtain ⟨p0, hp0, hk0, hl⟩ := lkp_of_idx h
  have e : put xs k d = xs.map (fun p => if p.1 = k then (p.1, d) else p) := by unfold put; rw [hl]; rfl
  rw [e]
  refine ⟨by simp [T.len], fun j e p he hp => ?_, by rw [keys_map_put]; exact T.nodup⟩
  rw [List.getElem?_map] at hp
  obtain ⟨q, hq, rfl⟩ := Option.map_eq_some_iff.mp hp
  rw [Array.getElem?_modify] at he
  by_cases hij : i = j
  · subst hij
    rw [if_pos rfl] at he
    obtain ⟨e0, he0, rfl⟩ := Option.map_eq_some_iff.mp he
    obtain ⟨q1, q2, q3⟩ := T.each i e0 q he0 hq
    rw [hq] at hp0
    cases hp0
    rw [if_pos hk0]
    exact ⟨q1, q2, hv⟩
  · rw [if_neg hij] at he
    obtain ⟨q1, q2, q3⟩ := T.each j e q he hq
    have hne : ¬ q.1 = k := by
      intro hk
      refine hij (idx_unique T.nodup (k := k) ?_ ?_)
      · rw [List.getElem?_map, hp0]; simp [hk0]
      · rw [List.getElem?_map, hq]; simp [hk]
    rw [if_neg hne]
    exact ⟨q1, q2, q3⟩
theorem Tab.push {k : Nat} {key v : Value} {d : D} (T : Tab w KP VP es xs) (h : xs.findIdx? (fun p => decide (p.1 = k)) = none) (hk : KP k key) (hv : VP v d) : Tab w KP VP (es.push ⟨hashK w k, key, v⟩) (put xs k d) := by
  have e : put xs k d = xs ++ [(k, d)] := by unfold put; rw [lkp_of_noIdx h]; rfl
  rw [e]
  refine ⟨by simp [T.len], fun j e p he hp => ?_, ?_⟩
  · by_cases hj : j < xs.length
    · rw [List.getElem?_append_left hj] at hp
      rw [Array.getElem?_push, if_neg (by rw [T.len]; omega)] at he
      exact T.each j e p he hp
    · rw [List.getElem?_append_right (by omega)] at hp
      rw [Array.getElem?_push] at he
      by_cases hj2 : j = es.size
      · rw [if_pos hj2] at he
        cases he
        have : j - xs.length = 0 := by rw [hj2, T.len]; omega
        rw [this] at hp
        cases hp
        exact ⟨rfl, hk, hv⟩
      · rw [if_neg hj2] at he
        have := (Array.getElem?_eq_some_iff.mp he).1
        rw [T.len] at this
        exact absurd this hj
  · rw [List.map_append, List.nodup_append]
    refine ⟨T.nodup, by simp, fun x hx y hy => ?_⟩
    simp only [List.map_cons, List.map_nil, List.mem_singleton] at hy
    subst hy
    rw [List.findIdx?_eq_none_iff] at h
    obtain ⟨p, hp, rfl⟩ := List.mem_map.mp hx
    simpa using h p hp

theorem del_eq_erase : ∀ {xs : List (Nat × D)} {k i : Nat}, (xs.map (·.1)).Nodup → xs.findIdx? (fun p => decide (p.1 = k)) = some i → del xs k = xs.eraseIdx i
  | [], _, _, _, h => by simp at h
  | p :: r, k, i, hn, h => by
    rw [List.map_cons, List.nodup_cons] at hn
    rw [List.findIdx?_cons] at h
    by_cases hk : p.1 = k
    · rw [if_pos (by simpa using hk)] at h
      cases h
      unfold del
      rw [List.filter_cons_of_neg (by simp [hk]), List.eraseIdx_zero, List.tail_cons, List.filter_eq_self]
      intro q hq
      have : q.1 ≠ k := fun e => hn.1 (by rw [hk, ← e]; exact List.mem_map_of_mem hq)
      simpa using this
    · rw [if_neg (by simpa using hk)] at h
      obtain ⟨j, hj, rfl⟩ := Option.map_eq_some_iff.mp h
      have ih := del_eq_erase hn.2 hj
      unfold del at ih ⊢
      rw [List.filter_cons_of_pos (by simpa using hk), ih, List.eraseIdx_cons_succ]
theorem del_none {k : Nat} (h : lkp xs k = none) : del xs k = xs := by
  unfold lkp at h
  rw [Option.map_eq_none_iff, List.find?_eq_none] at h
  unfold del
  rw [List.filter_eq_self]
  intro p hp
  simpa using h p hp
theorem Tab.erase {k i : Nat} (T : Tab w KP VP es xs) (h : xs.findIdx? (fun p => decide (p.1 = k)) = some i) : Tab w KP VP (es.eraseIdxIfInBounds i) (del xs k) := by
  have e := del_eq_erase T.nodup h
  obtain ⟨p0, hp0, hk0, hl⟩ := lkp_of_idx h
  have hi : i < xs.length := (List.getElem?_eq_some_iff.mp hp0).1
  have hi' : i < es.size := by rw [T.len]; exact hi
  have ea : (es.eraseIdxIfInBounds i).toList = es.toList.eraseIdx i := by
    rw [Array.eraseIdxIfInBounds, dif_pos hi', Array.toList_eraseIdx]
  have lt := T.len
  refine ⟨?_, fun j e1 p he hp => ?_, ?_⟩
  · rw [← Array.length_toList, ea, e, List.length_eraseIdx_of_lt (by simpa using hi'), List.length_eraseIdx_of_lt hi, Array.length_toList, lt]
  · rw [← Array.getElem?_toList, ea] at he
    rw [e] at hp
    rw [List.getElem?_eraseIdx] at he hp
    split at he
    · rename_i hj
      rw [if_pos hj] at hp
      rw [Array.getElem?_toList] at he
      exact T.each j e1 p he hp
    · rename_i hj
      rw [if_neg hj] at hp
      rw [Array.getElem?_toList] at he
      exact T.each (j + 1) e1 p he hp
  · rw [e]
    exact (T.nodup.sublist ((List.eraseIdx_sublist xs i).map _))
end
end Mine
end

section
open PySem PySem.W PySem.Calls PyProof.Rows
set_option Elab.async false
set_option maxRecDepth 100000
namespace Mine

section
variable {D : Type} {prog : Program} {w : World} {A : Around} {E : Value → Shared → Prop} {s : Shared} {KP : Nat → Value → Prop} {VP : Value → D → Prop} {es : Array DictEntry} {xs : List (Nat × D)} {d : Addr} {o : Obj} {ep k : Nat} {key : Value}

theorem dFind {Q : Option Nat → Shared → Prop} (hu : A.units + 2 < cLine) (hk : ∀ k v, KP k v → KeyAt s.heap k v) (hkey : KP k key) (ho : s.heap.get? d = some o) (hd : o.data = .dict es ep) (T : Tab w KP VP es xs)
    (h : ∀ tk, Q (xs.findIdx? (fun p => decide (p.1 = k))) { s with toks := tk }) : wpAny (model prog w) A (pyHash key >>= fun hs => dictFind d key hs) Q E s := by
  refine wpAny_bind (hashP (by omega) (hk _ _ hkey) fun tk => ?_)
  refine findK (s := { s with toks := tk }) hu (hk _ _ hkey) ho hd (T.ents hk) ?_
  rw [findIdx_map]
  exact h tk

theorem dGet {Q : Option Value → Shared → Prop} (hu : A.units + 2 < cLine) (hk : ∀ k v, KP k v → KeyAt s.heap k v) (hkey : KP k key) (ho : s.heap.get? d = some o) (hd : o.data = .dict es ep) (T : Tab w KP VP es xs)
    (h1 : ∀ v x tk, lkp xs k = some x → VP v x → Q (some v) { s with toks := tk }) (h0 : lkp xs k = none → ∀ tk, Q none { s with toks := tk }) : wpAny (model prog w) A (dictGet d key) Q E s := by
  unfold dictGet
  refine wpAny_holding ?_
  refine wpAny_bind (hashP (by omega) (hk _ _ hkey) fun tk => ?_)
  refine wpAny_bind (findK (s := { s with toks := tk }) hu (hk _ _ hkey) ho hd (T.ents hk) ?_)
  rw [findIdx_map]
  cases hi : xs.findIdx? (fun p => decide (p.1 = k)) with
  | none => exact wpAny_pure (h0 (lkp_of_noIdx hi) tk)
  | some i =>
    obtain ⟨e, x, he, hl, _, hv⟩ := T.get hi
    refine wpAny_bind (wpAny_dictEntries (s := { s with toks := tk }) ho hd (wpAny_pure ?_))
    rw [he]
    exact h1 _ x tk hl hv

theorem dSet {v : Value} {x : D} {Q : Unit → Shared → Prop} (hu : A.units + 2 < cLine) (hk : ∀ k v, KP k v → KeyAt s.heap k v) (hkey : KP k key) (hv : VP v x) (ho : s.heap.get? d = some o) (hd : o.data = .dict es ep) (T : Tab w KP VP es xs) (hz : xs.length ≤ 1000)
    (h : ∀ f es' ep' tk, f o = { o with data := .dict es' ep' } → Tab w KP VP es' (put xs k x) → Q () { s with heap := s.heap.update d f, toks := tk }) : wpAny (model prog w) A (dictSet d key v) Q E s := by
  unfold dictSet
  refine wpAny_holding ?_
  refine wpAny_bind (hashP (by omega) (hk _ _ hkey) fun tk => ?_)
  unfold dictSetHashed
  refine wpAny_holding ?_
  refine wpAny_bind (findK (s := { s with toks := tk }) hu (hk _ _ hkey) ho hd (T.ents hk) ?_)
  rw [findIdx_map]
  obtain ⟨oc, od, oda, osl⟩ := o
  dsimp only at hd
  subst hd
  cases hi : xs.findIdx? (fun p => decide (p.1 = k)) with
  | none =>
    refine wpAny_bind (wpAny_rule (wpAny_updateDictKeys (s := { s with toks := tk }) ho rfl (h _ _ _ tk rfl (T.push hi hkey hv)) (hz := ?_)))
    rw [T.len, sizeLine_eq]; omega
  | some i =>
    exact wpAny_bind (wpAny_rule (wpAny_bind (wpAny_updateDict (s := { s with toks := tk }) ho rfl (wpAny_point (h _ _ _ tk rfl (T.modify hi hv))))))

theorem dSetDefault {v : Value} {x : D} {Q : Value → Shared → Prop} (hu : A.units + 2 < cLine) (hk : ∀ k v, KP k v → KeyAt s.heap k v) (hkey : KP k key) (hv : VP v x) (ho : s.heap.get? d = some o) (hd : o.data = .dict es ep) (T : Tab w KP VP es xs) (hz : xs.length ≤ 1000)
    (hn : lkp xs k = none)
    (h : ∀ f es' ep' tk, f o = { o with data := .dict es' ep' } → Tab w KP VP es' (put xs k x) → Q v { s with heap := s.heap.update d f, toks := tk }) : wpAny (model prog w) A (dictSetDefault d key v) Q E s := by
  unfold dictSetDefault
  refine wpAny_holding ?_
  refine wpAny_bind (hashP (by omega) (hk _ _ hkey) fun tk => ?_)
  refine wpAny_bind (findK (s := { s with toks := tk }) hu (hk _ _ hkey) ho hd (T.ents hk) ?_)
  rw [findIdx_map]
  obtain ⟨oc, od, oda, osl⟩ := o
  dsimp only at hd
  subst hd
  cases hi : xs.findIdx? (fun p => decide (p.1 = k)) with
  | none =>
    refine wpAny_bind (wpAny_rule (wpAny_bind (wpAny_updateDictKeys (s := { s with toks := tk }) ho rfl (wpAny_pure (h _ _ _ tk rfl (T.push hi hkey hv))) (hz := ?_))))
    rw [T.len, sizeLine_eq]; omega
  | some i =>
    obtain ⟨p, _, _, hl⟩ := lkp_of_idx hi
    rw [hl] at hn; cases hn

theorem dTake {Q : Option DictEntry → Shared → Prop} (hu : A.units + 2 < cLine) (hk : ∀ k v, KP k v → KeyAt s.heap k v) (hkey : KP k key) (ho : s.heap.get? d = some o) (hd : o.data = .dict es ep) (T : Tab w KP VP es xs) (hz : xs.length ≤ 1000)
    (h1 : ∀ e x f es' ep' tk, lkp xs k = some x → VP e.val x → f o = { o with data := .dict es' ep' } → Tab w KP VP es' (del xs k) → Q (some e) { s with heap := s.heap.update d f, toks := tk })
    (h0 : lkp xs k = none → ∀ tk, Q none { s with toks := tk }) : wpAny (model prog w) A (Builtin.Dict.takeOut d key) Q E s := by
  unfold Builtin.Dict.takeOut
  refine wpAny_holding ?_
  refine wpAny_bind (hashP (by omega) (hk _ _ hkey) fun tk => ?_)
  refine wpAny_bind (findK (s := { s with toks := tk }) hu (hk _ _ hkey) ho hd (T.ents hk) ?_)
  rw [findIdx_map]
  cases hi : xs.findIdx? (fun p => decide (p.1 = k)) with
  | none => exact wpAny_pure (h0 (lkp_of_noIdx hi) tk)
  | some i =>
    obtain ⟨e, x, he, hl, _, hv⟩ := T.get hi
    refine wpAny_bind (wpAny_dictEntries (s := { s with toks := tk }) ho hd ?_)
    rw [he]
    obtain ⟨oc, od, oda, osl⟩ := o
    dsimp only at hd
    subst hd
    refine wpAny_bind (wpAny_updateDictKeys (s := { s with toks := tk }) ho rfl (wpAny_pure (h1 _ x _ _ _ tk hl hv rfl (T.erase hi))) (hz := ?_) (hf := ?_))
    · rw [T.len, sizeLine_eq]; omega
    · have := (T.erase hi).len
      have h2 := (List.filter_sublist (p := fun p => !decide (p.1 = k)) (l := xs)).length_le
      have h3 := T.len
      unfold del at this
      omega
end
end Mine
end

section
open PySem PySem.W PySem.Calls PyProof.Rows
set_option Elab.async false
set_option maxRecDepth 100000
namespace Mine

def dnames : List (Str × String) := [(Str.ofString "__getitem__", "dict.__getitem__"), (Str.ofString "__setitem__", "dict.__setitem__"), (Str.ofString "__delitem__", "dict.__delitem__"), (Str.ofString "__contains__", "dict.__contains__"), (Str.ofString "__len__", "dict.__len__")]
/-- a dict, exact or of an own class: what its methods ask first -/
structure DLike (M : Model) (h : Heap) (d : Addr) : Prop where
  inst : Looks M h (isInstance (.ref d) (.type "dict")) true
  nord : ∀ name rest, Looks M h (Builtin.Dict.notOrdered name ⟨.ref d :: rest, []⟩) ()
  spec : ∀ n id, (n, id) ∈ dnames → Looks M h (specialOf (.ref d) n) (some (.builtin id))
  seqk : ∀ n k, Looks M h (sequenceKey (.ref d) k n) k
  nsys : (d == sysModules) = false

section
variable {prog : Program} {w : World} {A : Around} {E : Value → Shared → Prop} {s : Shared} {d : Addr}

theorem bind_dn : ∀ {n : Str} {id : String}, (n, id) ∈ dnames → ∀ self, bindSpecial (.builtin id) self = pure (.builtin id, [self])
  | _, _, .head _ => F.slot_dict_getitem.bind
  | _, _, .tail _ (.head _) => F.slot_dict_setitem.bind
  | _, _, .tail _ (.tail _ (.head _)) => F.slot_dict_delitem.bind
  | _, _, .tail _ (.tail _ (.tail _ (.head _))) => F.slot_dict_contains.bind
  | _, _, .tail _ (.tail _ (.tail _ (.tail _ (.head _)))) => F.slot_dict_len.bind

theorem callD {id n : String} {b : Builtin} {rest : List Value} {Q : Value → Shared → Prop} (L : DLike (model prog w) s.heap d) (hp : plainId id = true) (he : entryFor table id = some b)
    (hk : builtinKind id = some .method ∨ builtinKind id = some .slot) (hs : splitId id = some ("dict", n)) (ha : argsOk id ⟨.ref d :: rest, []⟩)
    (hc : wpAny (model prog w) A.in1 (b ⟨.ref d :: rest, []⟩) (fun fin s' => ∃ v, fin = .done (.ret v) ∧ Q v s') E s) : wpAny (model prog w) A (call (.builtin id) (.ref d :: rest)) Q E s := by
  refine wpAny_call (codeAny_call_builtin hp he ?_)
  have fin := wpAny_mono (Q' := fun fin s' => match fin with | .done f => (match (Except.ok f : Result) with | .ok (.ret v) => Q v s' | .ok _ => False | .error e => E e s') | .again c' => c'.quiet = true ∧ codeAny (model prog w) A c' (fun r s' => match r with | .ok (.ret v) => Q v s' | .ok _ => False | .error e => E e s') s') hc (fun fin s' h => by obtain ⟨v, rfl, hq⟩ := h; exact hq) (fun _ _ e => e)
  rcases hk with hk | hk
  · simp only [checkBuiltinCall, hk, hs]
    refine wpAny_bind (L.inst.here ?_)
    simp only [Bool.not_true, Bool.false_eq_true, if_false]
    cases hsig : Manifest.signature? id with
    | none => exact wpAny_pure fin
    | some sig =>
      simp only [argsOk, hsig] at ha
      have h2 : Bind.checkArgs id sig ⟨.ref d :: rest, []⟩ = pure () := ha
      show wpAny _ _ (Bind.checkArgs id sig ⟨.ref d :: rest, []⟩) _ _ s
      rw [h2]; exact wpAny_pure fin
  · exact check_slot hk hs L.inst ha fin

theorem specD {n : Str} {id : String} {args : List Value} {Q : Option Value → Shared → Prop} (L : DLike (model prog w) s.heap d) (hn : (n, id) ∈ dnames)
    (h : wpAny (model prog w) A (call (.builtin id) (.ref d :: args)) (fun v s' => Q (some v) s') E s) : wpAny (model prog w) A (callSpecial? (.ref d) n args) Q E s := by
  unfold callSpecial?
  refine wpAny_bind ((L.spec n id hn).here (wpAny_holding ?_))
  rw [bind_dn hn]
  exact wpAny_bind (wpAny_pure (wpAny_bind (wpAny_mono h (fun v s' hv => wpAny_pure hv) fun _ _ e => e)))

theorem kad3 {name : String} {x y : Value} {Q : Addr × Value × Option Value → Shared → Prop} (L : DLike (model prog w) s.heap d) (h : Q (d, x, some y) s) :
    wpAny (model prog w) A (Builtin.Dict.keyAndDefault name ⟨[.ref d, x, y], []⟩) Q E s := by
  unfold Builtin.Dict.keyAndDefault
  refine wpAny_bind ((L.nord name [x, y]).here ?_)
  exact wpAny_bind (wpAny_pure (wpAny_bind (wpAny_pure (wpAny_bind (wpAny_pure (wpAny_pure h))))))
theorem kad2 {name : String} {x : Value} {Q : Addr × Value × Option Value → Shared → Prop} (L : DLike (model prog w) s.heap d) (h : Q (d, x, none) s) :
    wpAny (model prog w) A (Builtin.Dict.keyAndDefault name ⟨[.ref d, x], []⟩) Q E s := by
  unfold Builtin.Dict.keyAndDefault
  refine wpAny_bind ((L.nord name [x]).here ?_)
  exact wpAny_bind (wpAny_pure (wpAny_bind (wpAny_pure (wpAny_bind (wpAny_pure (wpAny_pure h))))))
theorem karg {name : String} {x : Value} {Q : Addr × Value → Shared → Prop} (h : Q (d, x) s) :
    wpAny (model prog w) A (Builtin.Dict.keyArg name ⟨[.ref d, x], []⟩) Q E s := by
  unfold Builtin.Dict.keyArg
  exact wpAny_bind (wpAny_pure (wpAny_bind (wpAny_pure (wpAny_bind (wpAny_pure (wpAny_pure h))))))
end

section
variable {D : Type} {prog : Program} {w : World} {A : Around} {E : Value → Shared → Prop} {s : Shared} {KP : Nat → Value → Prop} {VP : Value → D → Prop} {es : Array DictEntry} {xs : List (Nat × D)} {d : Addr} {o : Obj} {ep k : Nat} {key : Value}


/-- d.get(key, dflt) -/
theorem get_run {dflt : Value} {Q : Value → Shared → Prop} (hu : A.in1.units + 2 < cLine) (L : DLike (model prog w) s.heap d) (hk : ∀ k v, KP k v → KeyAt s.heap k v) (hkey : KP k key) (ho : s.heap.get? d = some o) (hd : o.data = .dict es ep) (T : Tab w KP VP es xs)
    (h1 : ∀ v x tk, lkp xs k = some x → VP v x → Q v { s with toks := tk }) (h0 : lkp xs k = none → ∀ tk, Q dflt { s with toks := tk }) :
    wpAny (model prog w) A (call (.builtin "dict.get") [.ref d, key, dflt]) Q E s := by
  refine callD L (by decide +kernel) F.entry_dict_get (.inl (by decide +kernel)) (n := "get") (by decide +kernel) (F.args_dict_get_3 _ _ _) ?_
  unfold Builtin.«dict.get»
  refine wpAny_bind (kad3 L ?_)
  refine wpAny_bind (dGet hu hk hkey ho hd T (fun v x tk hl hv => ?_) (fun hl tk => ?_))
  · exact wpAny_pure ⟨_, rfl, h1 v x tk hl hv⟩
  · exact wpAny_bind (wpAny_missed_other L.nsys (wpAny_pure ⟨_, rfl, h0 hl tk⟩))

/-- d.pop(key), the key there -/
theorem pop2_run {x : D} {Q : Value → Shared → Prop} (hu : A.in1.units + 2 < cLine) (L : DLike (model prog w) s.heap d) (hk : ∀ k v, KP k v → KeyAt s.heap k v) (hkey : KP k key) (ho : s.heap.get? d = some o) (hd : o.data = .dict es ep) (T : Tab w KP VP es xs) (hz : xs.length ≤ 1000)
    (hl : lkp xs k = some x) (h : ∀ v f es' ep' tk, VP v x → f o = { o with data := .dict es' ep' } → Tab w KP VP es' (del xs k) → Q v { s with heap := s.heap.update d f, toks := tk }) :
    wpAny (model prog w) A (call (.builtin "dict.pop") [.ref d, key]) Q E s := by
  have hne : es.isEmpty = false := by
    cases xs with
    | nil => cases hl
    | cons p r =>
      have := T.len
      rw [Array.isEmpty_eq_false_iff]
      intro e
      rw [e] at this
      simp at this
  refine callD L (by decide +kernel) F.entry_dict_pop (.inl (by decide +kernel)) (n := "pop") (by decide +kernel) (F.args_dict_pop_2 _ _) ?_
  unfold Builtin.«dict.pop»
  refine wpAny_bind (kad2 L ?_)
  dsimp only
  have main : wpAny (model prog w) A.in1 (Builtin.Dict.takeOut d key) (fun old s' => ∃ e, old = some e ∧ Q e.val s') E s :=
    dTake hu hk hkey ho hd T hz (fun e y f es' ep' tk hl' hv hf T' => by rw [hl] at hl'; cases hl'; exact ⟨e, rfl, h e.val f es' ep' tk hv hf T'⟩) (fun hn => by rw [hl] at hn; cases hn)
  refine wpAny_ite_split (fun _ => wpAny_bind (wpAny_pure ?_)) (fun _ => wpAny_bind (wpAny_dictEntries ho hd (wpAny_bind (wpAny_pure ?_))))
  · rw [if_neg Bool.false_ne_true]
    refine wpAny_bind (wpAny_mono main (fun old s' hq => ?_) fun _ _ e => e)
    obtain ⟨e, rfl, hq⟩ := hq
    rw [if_neg (by simp)]
    exact wpAny_bind (wpAny_bind (wpAny_holding (wpAny_point (wpAny_pure (wpAny_pure ⟨_, rfl, hq⟩)))))
  · rw [if_neg (by rw [hne]; exact Bool.false_ne_true)]
    refine wpAny_bind (wpAny_mono main (fun old s' hq => ?_) fun _ _ e => e)
    obtain ⟨e, rfl, hq⟩ := hq
    rw [if_neg (by simp)]
    exact wpAny_bind (wpAny_bind (wpAny_holding (wpAny_point (wpAny_pure (wpAny_pure ⟨_, rfl, hq⟩)))))

/-- d.pop(key, dflt): what it gives is dropped by the law -/
theorem pop3_run {dflt : Value} {Q : Value → Shared → Prop} (hu : A.in1.units + 2 < cLine) (L : DLike (model prog w) s.heap d) (hk : ∀ k v, KP k v → KeyAt s.heap k v) (hkey : KP k key) (ho : s.heap.get? d = some o) (hd : o.data = .dict es ep) (T : Tab w KP VP es xs) (hz : xs.length ≤ 1000)
    (h1 : ∀ v f es' ep' tk, f o = { o with data := .dict es' ep' } → Tab w KP VP es' (del xs k) → Q v { s with heap := s.heap.update d f, toks := tk })
    (h0 : lkp xs k = none → ∀ v tk, Q v { s with toks := tk }) :
    wpAny (model prog w) A (call (.builtin "dict.pop") [.ref d, key, dflt]) Q E s := by
  refine callD L (by decide +kernel) F.entry_dict_pop (.inl (by decide +kernel)) (n := "pop") (by decide +kernel) (F.args_dict_pop_3 _ _ _) ?_
  unfold Builtin.«dict.pop»
  refine wpAny_bind (kad3 L ?_)
  dsimp only
  have main : wpAny (model prog w) A.in1 (Builtin.Dict.takeOut d key) (fun old s' => ∀ v, Q v s') E s :=
    dTake hu hk hkey ho hd T hz (fun e y f es' ep' tk hl' hv hf T' v => h1 v f es' ep' tk hf T') (fun hn tk v => h0 hn v tk)
  have fin : ∀ old s', (∀ v, Q v s') → wpAny (model prog w) A.in1 (if Option.isNone (α := DictEntry) old = true then do
      Builtin.Dict.missedRemoval d key
      match old, some dflt with
      | some e, _ => do letGo [e.key] [e.val]; ret e.val
      | none, some x => do rule "dict.pop.default"; ret x
      | none, none => do rule "dict.pop.keyerror"; raiseNew (← newExc (Value.type "KeyError") [key])
    else match old, some dflt with
      | some e, _ => do letGo [e.key] [e.val]; ret e.val
      | none, some x => do rule "dict.pop.default"; ret x
      | none, none => do rule "dict.pop.keyerror"; raiseNew (← newExc (Value.type "KeyError") [key])) (fun fin s' => ∃ v, fin = Fin.done (Flow.ret v) ∧ Q v s') E s' := by
    intro old s' hq
    cases old with
    | none =>
      rw [if_pos (by rfl)]
      exact wpAny_bind (wpAny_missedRemoval_other L.nsys (wpAny_bind (wpAny_rule (wpAny_pure ⟨_, rfl, hq _⟩))))
    | some e =>
      rw [if_neg (by simp)]
      exact wpAny_bind (wpAny_bind (wpAny_holding (wpAny_point (wpAny_pure (wpAny_pure ⟨_, rfl, hq _⟩)))))
  refine wpAny_ite_split (fun _ => wpAny_bind (wpAny_pure ?_)) (fun _ => wpAny_bind (wpAny_dictEntries ho hd (wpAny_bind (wpAny_pure ?_))))
  · rw [if_neg Bool.false_ne_true]
    exact wpAny_bind (wpAny_mono main (fun old s' hq => fin old s' hq) fun _ _ e => e)
  · by_cases he : es.isEmpty = true
    · rw [if_pos he]
      refine wpAny_bind (wpAny_rule (wpAny_bind (wpAny_pure (fin none s (h0 ?_ · s.toks)))))
      have := T.len
      rw [Array.isEmpty_iff] at he
      subst he
      cases xs with
      | nil => rfl
      | cons p r => simp at this
    · rw [if_neg he]
      exact wpAny_bind (wpAny_mono main (fun old s' hq => fin old s' hq) fun _ _ e => e)

/-- d.setdefault(key, v), the key not there -/
theorem setdefault_run {v : Value} {x : D} {Q : Value → Shared → Prop} (hu : A.in1.units + 2 < cLine) (L : DLike (model prog w) s.heap d) (hk : ∀ k v, KP k v → KeyAt s.heap k v) (hkey : KP k key) (hv : VP v x) (ho : s.heap.get? d = some o) (hd : o.data = .dict es ep) (T : Tab w KP VP es xs) (hz : xs.length ≤ 1000)
    (hn : lkp xs k = none) (h : ∀ f es' ep' tk, f o = { o with data := .dict es' ep' } → Tab w KP VP es' (put xs k x) → Q v { s with heap := s.heap.update d f, toks := tk }) :
    wpAny (model prog w) A (call (.builtin "dict.setdefault") [.ref d, key, v]) Q E s := by
  refine callD L (by decide +kernel) F.entry_dict_setdefault (.inl (by decide +kernel)) (n := "setdefault") (by decide +kernel) (F.args_dict_setdefault_3 _ _ _) ?_
  unfold Builtin.«dict.setdefault»
  refine wpAny_bind (kad3 L ?_)
  dsimp only
  rw [if_neg (by rw [L.nsys]; exact Bool.false_ne_true)]
  refine wpAny_bind (dSetDefault hu hk hkey hv ho hd T hz hn fun f es' ep' tk hf T' => ?_)
  exact wpAny_pure ⟨_, rfl, h f es' ep' tk hf T'⟩

/-- d[key], the key there -/
theorem item_run {x : D} {Q : Value → Shared → Prop} (hu : A.in1.units + 2 < cLine) (L : DLike (model prog w) s.heap d) (hk : ∀ k v, KP k v → KeyAt s.heap k v) (hkey : KP k key) (ho : s.heap.get? d = some o) (hd : o.data = .dict es ep) (T : Tab w KP VP es xs)
    (hl : lkp xs k = some x) (h : ∀ v tk, VP v x → Q v { s with toks := tk }) : wpAny (model prog w) A (getItem (.ref d) key) Q E s := by
  unfold getItem
  refine wpAny_holding (wpAny_bind ((L.seqk _ _).here (wpAny_bind (specD L (.head _) ?_))))
  refine callD L (by decide +kernel) F.entry_dict_getitem (.inl (by decide +kernel)) (n := "__getitem__") (by decide +kernel) (F.args_dict_getitem_2 _ _) ?_
  unfold Builtin.«dict.__getitem__»
  refine wpAny_bind (karg ?_)
  dsimp only
  refine wpAny_bind (dGet hu hk hkey ho hd T (fun v y tk hl' hv => ?_) (fun hn => by rw [hl] at hn; cases hn))
  rw [hl] at hl'; cases hl'
  exact wpAny_pure ⟨_, rfl, wpAny_pure (h v tk hv)⟩

/-- d[key] of an exact dict, the key not there: a KeyError -/
theorem item_miss {Q : Value → Shared → Prop} (hh : A.handled = none) (hu : A.in1.units + 2 < cLine) (L : DLike (model prog w) s.heap d) (hk : ∀ k v, KP k v → KeyAt s.heap k v) (hkey : KP k key) (ho : s.heap.get? d = some o) (hc : o.cls = .type "dict") (hd : o.data = .dict es ep) (T : Tab w KP VP es xs)
    (hl : lkp xs k = none) (h : ∀ h' e tk, Heap.NewExc s.heap h' e "KeyError" → E (.ref e) { s with heap := h', toks := tk }) : wpAny (model prog w) A (getItem (.ref d) key) Q E s := by
  unfold getItem
  refine wpAny_holding (wpAny_bind ((L.seqk _ _).here (wpAny_bind (specD L (.head _) ?_))))
  refine callD L (by decide +kernel) F.entry_dict_getitem (.inl (by decide +kernel)) (n := "__getitem__") (by decide +kernel) (F.args_dict_getitem_2 _ _) ?_
  unfold Builtin.«dict.__getitem__»
  refine wpAny_bind (karg ?_)
  dsimp only
  refine wpAny_bind (dGet hu hk hkey ho hd T (fun v y tk hl' hv => by rw [hl] at hl'; cases hl') (fun hn tk => ?_))
  dsimp only
  refine wpAny_bind (wpAny_missed_other L.nsys ?_)
  dsimp only
  refine wpAny_bind (wpAny_typeOf (s := { s with toks := tk }) (v := .ref d) (T := "dict") ⟨o, ho, hc⟩ ?_)
  rw [if_neg (by decide)]
  exact wpAny_bind (wpAny_rule (wpAny_raise_newExc (A := A.in1) plainExc_KeyError hh fun h' e x => h h' e tk x))

/-- d[key] = v -/
theorem setItem_run {v : Value} {x : D} {Q : Unit → Shared → Prop} (hu : A.in1.units + 2 < cLine) (L : DLike (model prog w) s.heap d) (hk : ∀ k v, KP k v → KeyAt s.heap k v) (hkey : KP k key) (hv : VP v x) (ho : s.heap.get? d = some o) (hd : o.data = .dict es ep) (T : Tab w KP VP es xs) (hz : xs.length ≤ 1000)
    (h : ∀ f es' ep' tk, f o = { o with data := .dict es' ep' } → Tab w KP VP es' (put xs k x) → Q () { s with heap := s.heap.update d f, toks := tk }) : wpAny (model prog w) A (setItem (.ref d) key v) Q E s := by
  unfold setItem
  refine wpAny_holding (wpAny_bind ((L.seqk _ _).here (wpAny_bind (specD L (.tail _ (.head _)) ?_))))
  refine callD L (by decide +kernel) F.entry_dict_setitem (.inr (by decide +kernel)) (n := "__setitem__") (by decide +kernel) (F.args_dict_setitem_3 _ _ _) ?_
  unfold Builtin.«dict.__setitem__»
  refine wpAny_bind ((L.nord _ _).here ?_)
  show wpAny _ _ (dictSet d key v >>= _) _ _ s
  exact wpAny_bind (dSet hu hk hkey hv ho hd T hz fun f es' ep' tk hf T' => wpAny_pure ⟨_, rfl, wpAny_pure (h f es' ep' tk hf T')⟩)

/-- del d[key], the key there -/
theorem delItem_run {x : D} {Q : Unit → Shared → Prop} (hu : A.in1.units + 2 < cLine) (L : DLike (model prog w) s.heap d) (hk : ∀ k v, KP k v → KeyAt s.heap k v) (hkey : KP k key) (ho : s.heap.get? d = some o) (hd : o.data = .dict es ep) (T : Tab w KP VP es xs) (hz : xs.length ≤ 1000)
    (hl : lkp xs k = some x) (h : ∀ f es' ep' tk, f o = { o with data := .dict es' ep' } → Tab w KP VP es' (del xs k) → Q () { s with heap := s.heap.update d f, toks := tk }) : wpAny (model prog w) A (delItem (.ref d) key) Q E s := by
  unfold delItem
  refine wpAny_holding (wpAny_bind ((L.seqk _ _).here (wpAny_bind (specD L (.tail _ (.tail _ (.head _))) ?_))))
  refine callD L (by decide +kernel) F.entry_dict_delitem (.inr (by decide +kernel)) (n := "__delitem__") (by decide +kernel) (F.args_dict_delitem_2 _ _) ?_
  unfold Builtin.«dict.__delitem__» Builtin.Dict.dictSlotArgs
  refine wpAny_bind (wpAny_bind ((L.nord _ _).here ?_))
  show wpAny _ _ (pure (Value.ref d, key)) _ _ _
  refine wpAny_pure ?_
  show wpAny _ _ (Builtin.Dict.takeOut d key >>= _) _ _ _
  refine wpAny_bind (dTake hu hk hkey ho hd T hz (fun e y f es' ep' tk hl' hv hf T' => ?_) (fun hn => by rw [hl] at hn; cases hn))
  refine wpAny_bind (wpAny_bind (wpAny_holding (wpAny_point (wpAny_bind (wpAny_holding (wpAny_point (wpAny_pure (wpAny_pure ⟨_, rfl, wpAny_pure (h f es' ep' tk hf T')⟩))))))))

/-- del d[key], the key not there: a KeyError -/
theorem delItem_miss {Q : Unit → Shared → Prop} (hh : A.handled = none) (hu : A.in1.units + 2 < cLine) (L : DLike (model prog w) s.heap d) (hk : ∀ k v, KP k v → KeyAt s.heap k v) (hkey : KP k key) (ho : s.heap.get? d = some o) (hd : o.data = .dict es ep) (T : Tab w KP VP es xs) (hz : xs.length ≤ 1000)
    (hl : lkp xs k = none) (h : ∀ h' e tk, Heap.NewExc s.heap h' e "KeyError" → E (.ref e) { s with heap := h', toks := tk }) : wpAny (model prog w) A (delItem (.ref d) key) Q E s := by
  unfold delItem
  refine wpAny_holding (wpAny_bind ((L.seqk _ _).here (wpAny_bind (specD L (.tail _ (.tail _ (.head _))) ?_))))
  refine callD L (by decide +kernel) F.entry_dict_delitem (.inr (by decide +kernel)) (n := "__delitem__") (by decide +kernel) (F.args_dict_delitem_2 _ _) ?_
  unfold Builtin.«dict.__delitem__» Builtin.Dict.dictSlotArgs
  refine wpAny_bind (wpAny_bind ((L.nord _ _).here ?_))
  show wpAny _ _ (pure (Value.ref d, key)) _ _ _
  refine wpAny_pure ?_
  show wpAny _ _ (Builtin.Dict.takeOut d key >>= _) _ _ _
  refine wpAny_bind (dTake hu hk hkey ho hd T hz (fun e y f es' ep' tk hl' hv hf T' => by rw [hl] at hl'; cases hl') (fun hn tk => ?_))
  dsimp only
  refine wpAny_bind (wpAny_missedRemoval_other L.nsys (wpAny_bind (wpAny_rule (wpAny_raise_newExc (A := A.in1) plainExc_KeyError hh fun h' e x => h h' e tk x))))

theorem contains_run {Q : Bool → Shared → Prop} (hu : A.in1.units + 2 < cLine) (L : DLike (model prog w) s.heap d) (hk : ∀ k v, KP k v → KeyAt s.heap k v) (hkey : KP k key) (ho : s.heap.get? d = some o) (hd : o.data = .dict es ep) (T : Tab w KP VP es xs)
    (h : ∀ tk, Q (lkp xs k).isSome { s with toks := tk }) : wpAny (model prog w) A (contains (.ref d) key) Q E s := by
  have hn : (Str.ofString "__contains__", "dict.__contains__") ∈ dnames := .tail _ (.tail _ (.tail _ (.head _)))
  unfold contains
  refine wpAny_holding ?_
  show wpAny _ _ (specialOf (.ref d) "__contains__" >>= _) _ _ _
  refine wpAny_bind ((L.spec _ _ hn).here ?_)
  show wpAny _ _ (if (some (Value.builtin "dict.__contains__") == some Value.none) = true then _ else _) _ E s
  rw [if_neg (by decide)]
  unfold callSpecialUnlessNone?
  refine wpAny_bind (wpAny_bind ((L.spec _ _ hn).here (wpAny_holding ?_)))
  rw [bind_dn hn]
  refine wpAny_bind (wpAny_pure ?_)
  show wpAny _ _ (if (Value.builtin "dict.__contains__" == Value.none) = true then _ else _) _ E s
  rw [if_neg (by decide)]
  refine wpAny_bind (callD L (by decide +kernel) F.entry_dict_contains (.inl (by decide +kernel)) (n := "__contains__") (by decide +kernel) (F.args_dict_contains_2 _ _) ?_)
  unfold Builtin.«dict.__contains__»
  refine wpAny_bind (karg ?_)
  dsimp only
  refine wpAny_bind (dGet hu hk hkey ho hd T (fun v y tk hl hv => ?_) (fun hl tk => ?_))
  · refine wpAny_pure ⟨_, rfl, wpAny_pure ?_⟩
    have := h tk
    rw [hl] at this
    exact wpAny_pure this
  · rw [if_neg (by simp)]
    refine wpAny_bind (wpAny_pendingKey_other L.nsys (wpAny_pure ⟨_, rfl, wpAny_pure ?_⟩))
    have := h tk
    rw [hl] at this
    exact wpAny_pure this

theorem in_run {Q : Value → Shared → Prop} (hu : A.in1.units + 2 < cLine) (L : DLike (model prog w) s.heap d) (hk : ∀ k v, KP k v → KeyAt s.heap k v) (hkey : KP k key) (ho : s.heap.get? d = some o) (hd : o.data = .dict es ep) (T : Tab w KP VP es xs)
    (h : ∀ tk, Q (.bool (lkp xs k).isSome) { s with toks := tk }) : wpAny (model prog w) A (compareOp .In key (.ref d)) Q E s :=
  wpAny_bind (contains_run hu L hk hkey ho hd T fun tk => wpAny_pure (h tk))
theorem notIn_run {Q : Value → Shared → Prop} (hu : A.in1.units + 2 < cLine) (L : DLike (model prog w) s.heap d) (hk : ∀ k v, KP k v → KeyAt s.heap k v) (hkey : KP k key) (ho : s.heap.get? d = some o) (hd : o.data = .dict es ep) (T : Tab w KP VP es xs)
    (h : ∀ tk, Q (.bool (!(lkp xs k).isSome)) { s with toks := tk }) : wpAny (model prog w) A (compareOp .NotIn key (.ref d)) Q E s :=
  wpAny_bind (contains_run hu L hk hkey ho hd T fun tk => wpAny_pure (h tk))
end
end Mine
end

section
open PySem PySem.W PySem.Calls PyProof.Rows Builtin Builtin.ObjectAttr
set_option Elab.async false
set_option maxRecDepth 100000
namespace Mine

section
variable {M : Model} {h : Heap} {d : Addr} {o : Obj}

theorem nord_of {T : Value} (ty : Looks M h (typeOf (.ref d)) T) (hd : T = .type "dict" ∨ (T ≠ .type "dict" ∧ Looks M h (isInstance (.ref d) (.type "collections.OrderedDict")) false)) (name : String) (rest : List Value) :
    Looks M h (Dict.notOrdered name ⟨.ref d :: rest, []⟩) () := by
  intro A Q E s k q
  unfold Dict.notOrdered
  refine wpAny_ite_split (fun _ => ?_) (fun _ => wpAny_pure q)
  refine wpAny_bind (ty A _ E s k ?_)
  rcases hd with rfl | ⟨hn, hi⟩
  · rw [if_neg (by decide)]; exact wpAny_pure q
  · rw [if_pos (by simpa using hn)]
    refine wpAny_bind (hi A _ E s k ?_)
    rw [if_neg Bool.false_ne_true]
    exact wpAny_pure q

theorem DLike.plain (ho : h.get? d = some o) (hc : o.cls = .type "dict") (hn : (d == sysModules) = false) : DLike M h d := by
  have ty : Looks M h (typeOf (.ref d)) (.type "dict") := hc ▸ (Looks.ld ho).andThen .now
  refine ⟨ty.andThen (Looks.of_pure PySem.F.sub_dict_dict), fun name rest => nord_of ty (.inl rfl) name rest, fun n id hm => ?_, fun n k => ?_, hn⟩
  · refine ty.andThen (Looks.of_pure ?_)
    match n, id, hm with
    | _, _, .head _ => exact F.slot_dict_getitem.lookup
    | _, _, .tail _ (.head _) => exact F.slot_dict_setitem.lookup
    | _, _, .tail _ (.tail _ (.head _)) => exact F.slot_dict_delitem.lookup
    | _, _, .tail _ (.tail _ (.tail _ (.head _))) => exact F.slot_dict_contains.lookup
    | _, _, .tail _ (.tail _ (.tail _ (.tail _ (.head _)))) => exact F.slot_dict_len.lookup
  · unfold sequenceKey
    exact ty.andThen (Looks.of_pure (by kernel_rfl))

theorem DLike.own {K : Frag} {C : Addr} {ox : Obj} {od : Option Obj} (X : K.In h) (I : InstAt h d ox C od) (hi : subIn K (.ref C) (.type "dict") = some true) (ho : subIn K (.ref C) (.type "collections.OrderedDict") = some false)
    (hq : noSeq K C = true) (g1 : findIn K (.ref C) "__getitem__" = some (some (.builtin "dict.__getitem__"))) (g2 : findIn K (.ref C) "__setitem__" = some (some (.builtin "dict.__setitem__"))) (g3 : findIn K (.ref C) "__delitem__" = some (some (.builtin "dict.__delitem__")))
    (g4 : findIn K (.ref C) "__contains__" = some (some (.builtin "dict.__contains__"))) (g5 : findIn K (.ref C) "__len__" = some (some (.builtin "dict.__len__"))) (hn : (d == sysModules) = false) : DLike M h d := by
  have ty : Looks M h (typeOf (.ref d)) (.ref C) := I.type
  refine ⟨ty.andThen (looks_subIn X hi), fun name rest => nord_of ty (.inr ⟨fun e => (nomatch e), ty.andThen (looks_subIn X ho)⟩) name rest, fun n id hm => ?_, fun n k => ?_, hn⟩
  · refine ty.andThen ?_
    match n, id, hm with
    | _, _, .head _ => exact looks_findIn X g1
    | _, _, .tail _ (.head _) => exact looks_findIn X g2
    | _, _, .tail _ (.tail _ (.head _)) => exact looks_findIn X g3
    | _, _, .tail _ (.tail _ (.tail _ (.head _))) => exact looks_findIn X g4
    | _, _, .tail _ (.tail _ (.tail _ (.tail _ (.head _)))) => exact looks_findIn X g5
  · intro A Q E s kk q
    unfold sequenceKey
    refine wpAny_bind (ty A _ E s kk ?_)
    have hs : subIn K (.ref C) (.type "collections.deque") = some false := by
      unfold noSeq seqItemTypes at hq
      simpa using hq
    have : wpAny M A (seqItemTypes.anyM fun n => isSubtype (.ref C) (.type n)) (fun b s' => b = false ∧ s' = s) E s := by
      unfold seqItemTypes
      refine wpAny_bind (looks_subIn X hs A _ E s kk ?_)
      exact wpAny_pure ⟨rfl, rfl⟩
    refine wpAny_bind (wpAny_mono this (fun b s' hb => ?_) fun _ _ e => e)
    obtain ⟨rfl, rfl⟩ := hb
    rw [if_pos (by rfl)]
    exact wpAny_pure q
end

def makesD (K : Frag) (C : Addr) : Bool := match K.lookup C with
  | some ⟨_, _, .cls cd, sl⟩ => !cd.hasDel && (sl.toList[4]?).join == some (.builtin "dict.__new__") && cd.mro == [.ref C, .type "dict", .type "object"] &&
      specialIn K (.ref C) "__call__" == some (some (.builtin "type.__call__")) && instIn K (.ref C) (.type "type") == some true
  | _ => false
abbrev bankObj (C dx : Addr) (es : Array DictEntry) (n : Nat) : Obj := { cls := .ref C, dict := some dx, data := .dict es n }

theorem dn_quiet : (Code.builtin "dict.__new__" args).quiet = true := Code.quiet_builtin _ (by decide +kernel)
theorem dn_kind : builtinKind "dict.__new__" = some .builtinFn := by decide +kernel
theorem dn_split : splitId "dict.__new__" = some ("dict", "__new__") := by decide +kernel
theorem dn_entry : entryFor table "dict.__new__" = some Builtin.«dict.__new__» := entryFor_of_tree (by kernel_rfl)
theorem dn_args (c f : Value) : argsOk "dict.__new__" ⟨[c, f], []⟩ := by unfold argsOk; kernel_rfl
theorem dn_canon : Manifest.canonical "dict.__new__" = "dict.__new__" := by decide +kernel

section
variable {prog : Program} {w : World} {A : Around} {K : Frag} {C : Addr} {R : Result → Shared → Prop} {h : Heap} {g : Array GenState} {dr : Drawn} {t : Nat} {os : OsState}
theorem newBank {f : Value} (X : K.In h) (hm : makesD K C = true)
    (hq : R (.ok (.ret (.ref (h.objs.size + 1)))) ⟨(h.push emptyDict).push (bankObj C h.objs.size #[] 0), g, dr, t, os⟩) :
    codeAny (model prog w) A (.call (.builtin "dict.__new__") ⟨[.ref C, f], []⟩) R ⟨h, g, dr, t, os⟩ := by
  unfold makesD at hm
  split at hm
  · rename_i oc od cd sl ho
    simp only [Bool.and_eq_true, Bool.not_eq_true', beq_iff_eq] at hm
    obtain ⟨⟨⟨⟨e2, e3⟩, e4⟩, e7⟩, e8⟩ := hm
    have hC := X _ _ ho
    have hcl : clsIn K C = some cd := by unfold clsIn; rw [ho]
    have mro : Looks (model prog w) h (mroOf (.ref C)) [.ref C, .type "dict", .type "object"] := e4 ▸ (looks_clsIn X hcl).andThen .now
    have sub : Looks (model prog w) h (isSubtype (.ref C) (.type "dict")) true := looks_mroIn X (by unfold mroIn; rw [hcl, Option.bind_some, e4]; rfl)
    have ist : Looks (model prog w) h (isType (.ref C)) true := (Looks.ld hC).andThen .now
    have made : Looks (model prog w) h (Bind.madeBy (.ref C)) (some "dict.__new__") := by
      intro A Q E s k q
      unfold Bind.madeBy
      refine wpAny_bind (mro A _ E s k ?_)
      rw [List.forIn_cons]
      refine wpAny_bind (wpAny_bind (wpAny_bind (wpAny_bind (wpAny_loadPart (k _ _ hC) (wpAny_pure ?_)))))
      dsimp only
      rw [← Array.getElem?_toList, e3]
      exact wpAny_pure (wpAny_pure (wpAny_pure q))
    have base : Looks (model prog w) h (Bind.staticBase (.ref C)) (.ref C) := by
      intro A Q E s k q
      unfold Bind.staticBase
      refine wpAny_bind (mro A _ E s k ?_)
      rw [List.forIn_cons]
      exact wpAny_bind (wpAny_bind (wpAny_bind (made A _ E s k (wpAny_pure (wpAny_pure (wpAny_pure q))))))
    refine codeAny_call_builtin_code dn_quiet ?_
    simp only [checkBuiltinCall, dn_kind, dn_split]
    rw [if_pos (by decide)]
    refine wpAny_bind (ist.at ?_)
    rw [if_neg (by decide)]
    refine wpAny_bind (sub.at ?_)
    rw [if_neg (by decide)]
    refine wpAny_bind (base.at (wpAny_bind (made.at ?_)))
    dsimp only
    rw [if_neg (by simp)]
    have fin : codeAny (model prog w) A (.builtin "dict.__new__" ⟨[.ref C, f], []⟩) R ⟨h, g, dr, t, os⟩ := by
      refine codeAny_builtin dn_entry ?_
      unfold Builtin.«dict.__new__»
      dsimp only
      refine wpAny_bind (ist.at ?_)
      rw [if_neg (by decide)]
      refine wpAny_bind (sub.at ?_)
      rw [if_neg (by decide)]
      refine wpAny_bind (mro.at ?_)
      rw [if_neg (by simp)]
      refine wpAny_bind (wpAny_alloc (wpAny_bind ?_))
      unfold newObj
      dsimp only
      rw [if_neg (by decide)]
      show wpAny _ _ (newObjAsIs _ _ _) _ _ _
      unfold newObjAsIs classHasDel
      refine wpAny_bind (wpAny_alloc (wpAny_bind (wpAny_bind (wpAny_load (Heap.get?_push_of_some _ (Heap.get?_push_of_some _ hC)) (wpAny_pure ?_)))))
      rw [e2, if_neg Bool.false_ne_true]
      refine wpAny_pure (wpAny_pure ?_)
      show R _ _
      rw [Heap.size_push]
      exact hq
    have ha := dn_args (.ref C) f
    cases hsig : Manifest.signature? "dict.__new__" with
    | none => exact wpAny_pure fin
    | some sig =>
      simp only [argsOk, hsig] at ha
      have h2 : Bind.checkArgs "dict.__new__" sig ⟨[.ref C, f], []⟩ = pure () := ha
      show wpAny _ _ (Bind.checkArgs "dict.__new__" sig ⟨[.ref C, f], []⟩) _ _ _
      rw [h2]; exact wpAny_pure fin
  · cases hm

theorem makeBank_core {f : Value} {fI : Addr} (X : K.In h) (hm : makesD K C = true) (hi : findIn K (.ref C) "__init__" = some (some (.ref fI))) (hf : typeIn K (.ref fI) = some (.type "function"))
    (hq : codeAny (model prog w) (A.under (.builtin "type.__call__" ⟨[.ref C, f], []⟩)) (.call (.ref fI) ⟨[.ref (h.objs.size + 1), f], []⟩) (InitBack (h.objs.size + 1) R) ⟨(h.push emptyDict).push (bankObj C h.objs.size #[] 0), g, dr, t, os⟩) :
    codeAny (model prog w) A (.call (.ref C) ⟨[f], []⟩) R ⟨h, g, dr, t, os⟩ := by
  have hm' := hm
  unfold makesD at hm
  split at hm
  · rename_i oc od cd sl ho
    simp only [Bool.and_eq_true, Bool.not_eq_true', beq_iff_eq] at hm
    obtain ⟨⟨⟨⟨e2, e3⟩, e4⟩, e7⟩, e8⟩ := hm
    have hC := X _ _ ho
    have hcl : clsIn K C = some cd := by unfold clsIn; rw [ho]
    have mro : Looks (model prog w) h (mroOf (.ref C)) [.ref C, .type "dict", .type "object"] := e4 ▸ (looks_clsIn X hcl).andThen .now
    have self : Looks (model prog w) h (isSubtype (.ref C) (.ref C)) true := looks_mroIn X (by unfold mroIn; rw [hcl, Option.bind_some, e4, if_neg (by simp)]; simp)
    have call := looks_specialIn (M := model prog w) X e7
    have typ := looks_instIn (M := model prog w) X e8
    have made : Looks (model prog w) h (Bind.madeBy (.ref C)) (some "dict.__new__") := by
      intro A Q E s k q
      unfold Bind.madeBy
      refine wpAny_bind (mro A _ E s k ?_)
      rw [List.forIn_cons]
      refine wpAny_bind (wpAny_bind (wpAny_bind (wpAny_bind (wpAny_loadPart (k _ _ hC) (wpAny_pure ?_)))))
      dsimp only
      rw [← Array.getElem?_toList, e3]
      exact wpAny_pure (wpAny_pure (wpAny_pure q))
    refine codeAny_of_tree ?_
    show wpAny _ _ (callAny (.ref C) _) _ _ _
    refine nd_load hC ?_
    show wpAny _ _ (callAny.viaDunder (.ref C) _) _ _ _
    unfold callAny.viaDunder
    refine wpAny_bind (call.at ?_)
    dsimp only
    rw [tc_bind]
    refine wpAny_bind (wpAny_pure (wpAny_bind (wpAny_pure ?_)))
    refine wpAny_pure (a := Fin.again (.call (.builtin "type.__call__") ⟨[.ref C, f], []⟩)) (And.intro rfl ?_)
    refine codeAny_call_builtin_at (Code.quiet_builtin _ (by decide +kernel)) entry_typeCall (check_slot tc_kind tc_split typ (tc_args _ _ _) ?_)
    unfold Builtin.«type.__call__»
    dsimp only
    rw [if_neg (by simp)]
    refine wpAny_bind (mro.at ?_)
    rw [if_neg (by simp)]
    refine wpAny_bind (made.at (wpAny_bind (wpAny_pure (wpAny_bind (wpAny_holding (wpAny_call ?_))))))
    refine newBank X hm' ?_
    dsimp only
    have k : ∀ b o, h.get? b = some o → ((h.push emptyDict).push (bankObj C h.objs.size #[] 0)).get? b = some o := fun b o e => Heap.get?_push_of_some _ (Heap.get?_push_of_some _ e)
    have hx : ((h.push emptyDict).push (bankObj C h.objs.size #[] 0)).get? (h.objs.size + 1) = some (bankObj C h.objs.size #[] 0) := by heap_get
    have t1 : Looks (model prog w) ((h.push emptyDict).push (bankObj C h.objs.size #[] 0)) (typeOf (.ref (h.objs.size + 1))) (.ref C) := (Looks.ld hx).andThen .now
    have s1 := self.keeps k
    have i1 := (looks_findIn (M := model prog w) X hi).keeps k
    have b1 := (bind_fn (M := model prog w) X (.ref (h.objs.size + 1)) hf).keeps k
    unfold isInstance callSpecial? specialOf
    repeat (first | with_reducible refine wpAny_call ?_ | lk)
    refine codeAny_mono hq fun r s' z => ?_
    rcases r with e | (v | _ | _ | _) <;> first | exact z | exact z.elim | skip
    obtain ⟨rfl, z⟩ := z
    exact wpAny_pure (wpAny_pure z)
  · cases hm
end

section
variable {prog : Program} {w : World} {A : Around} {E : Value → Shared → Prop} {K : Frag} {C : Addr} {s : Shared} {h₀ : Heap} {L : Addr} {m : Str → Option Value} {news : List (Addr × Obj)} {Q : Value → Shared → Prop}
theorem call_bank {f : Value} {fI : Addr} (F : Fr h₀ L s.heap m) (X₀ : K.In h₀) (N : News h₀ L s.heap news) (hm : makesD K C = true) (hi : findIn K (.ref C) "__init__" = some (some (.ref fI))) (hf : isFn K (.ref fI) = true)
    (h : ∀ x dx h', Fr h₀ L h' m → News h₀ L h' ((x, bankObj C dx #[] 0) :: (dx, dictOf [] 0) :: news) → (∀ p ∈ news, p.1 < dx) → dx < x →
      codeAny (model prog w) (A.under (.builtin "type.__call__" ⟨[.ref C, f], []⟩)) (.call (.ref fI) ⟨[.ref x, f], []⟩) (InitBack x fun r s' => match r with | .ok (.ret v) => Q v s' | .ok _ => False | .error e => E e s') { s with heap := h' }) :
    wpAny (model prog w) A (call (.ref C) [f]) Q E s := by
  obtain ⟨hh, g, d, t, os⟩ := s
  refine wpAny_call (makeBank_core (X₀.keeps F.keep) hm hi (beq_iff_eq.mp hf) (h _ hh.objs.size _ ((F.push _).push _) ?_ (fun p hp => Heap.lt_size (N p hp).1) (Nat.lt_succ_self _)))
  have := (N.push F emptyDict).push (F.push _) (bankObj C hh.objs.size #[] 0)
  rwa [Heap.size_push] at this
end
end Mine
end

section
open PySem PySem.W PySem.Calls PyProof.Rows Builtin Builtin.ObjectAttr
set_option Elab.async false
set_option maxRecDepth 100000
namespace Mine

theorem refuse_dict (self : Value) (C : Addr) : refuseLoop self "__setattr__" [.ref C, .type "dict", .type "object"] = pure () := by
  rw [refuseLoop_ref]
  kernel_rfl

section
variable {prog : Program} {w : World} {A : Around} {E : Value → Shared → Prop} {K : Frag} {C x dx : Addr} {s : Shared} {h₀ : Heap} {L : Addr} {m : Str → Option Value} {news : List (Addr × Obj)}

def mroD (K : Frag) (C : Addr) : Bool := (clsIn K C).any fun cd => cd.hasDict && cd.mro == [.ref C, .type "dict", .type "object"]

theorem setBank {name : Str} {v : Value} {Q : Unit → Shared → Prop} (F : Fr h₀ L s.heap m) (X₀ : K.In h₀) (N : News h₀ L s.heap ((x, bankObj C dx #[] 0) :: (dx, dictOf [] 0) :: news)) (hne : x ≠ dx) (hp : ∀ p ∈ news, p.1 ≠ dx)
    (hs : findIn K (.ref C) "__setattr__" = some (some (.builtin "object.__setattr__"))) (hm : mroD K C = true) (hn : findIn K (.ref C) name = some none)
    (h : ∀ h' e tk, e.key.isStr name = true → e.val = v → (∃ t, e.key = .str name t) → Fr h₀ L h' m → News h₀ L h' ((x, bankObj C dx #[] 0) :: (dx, dictOf [e] 1) :: news) → Q () { s with heap := h', toks := tk }) :
    wpAny (model prog w) A (setAttr (.ref x) name v) Q E s := by
  have X := X₀.keeps F.keep
  have hx := (N _ (.head _)).1
  have hdx := (N _ (.tail _ (.head _))).1
  have I : InstAt s.heap x (bankObj C dx #[] 0) C (some (dictOf [] 0)) := ⟨hx, rfl, rfl, hdx⟩
  refine set_plain X I hs ?_
  obtain ⟨hh, g, dr, t, os⟩ := s
  obtain ⟨cd, hc, hm⟩ := any_some hm
  obtain ⟨hd, hm⟩ := Bool.and_eq_true_iff.mp hm
  have hmro : cd.mro = [.ref C, .type "dict", .type "object"] := by simpa using hm
  have SF := PySem.F.store_object
  have sub : Looks (model prog w) hh (isInstance (.ref x) (.type "object")) true := I.type.andThen (looks_mroIn X (by unfold mroIn; rw [hc, Option.bind_some, hmro]; rfl))
  have mro : Looks (model prog w) hh (mroOf (.ref C)) [.ref C, .type "dict", .type "object"] := hmro ▸ (looks_clsIn X hc).andThen .now
  have L1 := looks_findIn (M := model prog w) X hn
  refine codeAny_call_builtin (A := A) SF.slot.plain SF.entry (@check_slot (model prog w) _ _ ⟨hh, g, dr, t + 1, os⟩ "object.__setattr__" "object" "__setattr__" (.ref x) [.str name t, v] [] _ SF.kind SF.split sub (SF.args (.ref x) (.str name t) v) ?_)
  rw [osa_eq, refuse_eq]
  refine wpAny_bind (wpAny_bind (I.type.at (wpAny_bind (mro.at ?_))))
  rw [refuse_dict]
  refine wpAny_pure (wpAny_bind (I.type.at (wpAny_bind (L1.at (wpAny_bind (wpAny_pure ?_))))))
  dsimp only
  obtain ⟨U1, U2⟩ := news_upd (pre := [(x, bankObj C dx #[] 0)]) (f := Obj.putName name (PyData.keyHash w.params name) (.str name (t + 1)) v) (o' := dictOf [⟨PyData.keyHash w.params name, .str name (t + 1), v⟩] 1) F N
    (fun p hp => by rw [List.mem_singleton.mp hp]; exact hne) hp (by rw [putName_dict]; rfl) rfl
  have D' := (U2 _ (.tail _ (.head _))).1
  refine wpAny_bind (wpAny_pure (wpAny_bind (wpAny_bind (wpAny_loadPart hx (wpAny_bind ((looks_clsIn X hc).at ?_))))))
  rw [hd]
  refine wpAny_pure (a := some dx) (wpAny_bind (wpAny_pure (wpAny_bind ?_)))
  unfold nsSet
  refine wpAny_bind (wpAny_bind (wpAny_askSetting (wpAny_pure (wpAny_bind (wpAny_mkText (wpAny_bind (wpAny_loadPart hdx ?_)))))))
  dsimp only
  rw [aRefKeyMayBeTheName_at]
  rw [if_neg (by simp)]
  refine wpAny_updatePart hdx ?_
  refine wpAny_bind (wpAny_lookBehind D' (pastItsLine_dict (by rw [sizeLine_eq]; exact Nat.le_of_ble_eq_true rfl)) ?_)
  exact wpAny_pure (h _ _ _ (by simp [Value.isStr]) rfl ⟨_, rfl⟩ U1 U2)

theorem ga_canon : Manifest.canonical "dict.__getattribute__" = "object.__getattribute__" := by decide +kernel

/-- a method of dict, of an object of an own class over dict -/
theorem bankMethod {pl : Sem Bool} {name : Str} {id : String} {es : Array DictEntry} {n nd : Nat} {ed : DictEntry} {cr : Str} {Q : Value × List Value → Shared → Prop} (X : K.In s.heap) (I : InstAt s.heap x (bankObj C dx es n) C (some (dictOf [ed] nd)))
    (hga : findIn K (.ref C) "__getattribute__" = some (some (.builtin "dict.__getattribute__"))) (hk : findIn K (.ref C) "__getattr__" = some none) (hf : findIn K (.ref C) name = some (some (.builtin id))) (ht : typeIn K (.builtin id) = some (.type "method_descriptor"))
    (hed : ∃ t, ed.key = .str cr t) (hne : (cr == name) = false) (h : Q (.builtin id, [.ref x]) s) : wpAny (model prog w) A (getMethod (.ref x) name pl) Q E s := by
  unfold getMethod specialOf
  refine wpAny_bind (wpAny_bind (I.type.here ((looks_findIn X hga).here ?_)))
  dsimp only
  rw [ga_canon, if_neg (by decide)]
  refine wpAny_bind (wpAny_bind (I.type.here ((looks_findIn X hk).here ?_)))
  refine wpAny_bind (wpAny_bind (I.type.here ((looks_findIn X hf).here (wpAny_bind ((looks_typeIn X ht).here ?_)))))
  rw [if_neg (by decide +kernel)]
  refine wpAny_bind (wpAny_loadPart I.at_ ?_)
  have hd := I.dict
  dsimp only at hd ⊢
  obtain ⟨t, hed⟩ := hed
  refine wpAny_bind (wpAny_bind (wpAny_loadPart hd ?_))
  have e1 : nsLook name (dictOf [ed] nd) = pure none := by
    have hh : ed.key.isStr name = false := by rw [hed]; exact hne
    have hr : ed.refKey = false := by unfold DictEntry.refKey; rw [hed]
    rw [nsLook_eq]
    unfold nsLookByArray
    simp [hh, hr]
  rw [e1]
  exact wpAny_pure (wpAny_bind (wpAny_rule (wpAny_pure h)))

/-- the attribute in the object's own dict, by way of self.creator(..) -/
theorem bankOwn {pl : Sem Bool} {name : Str} {es : Array DictEntry} {n nd : Nat} {ed : DictEntry} {Q : Value × List Value → Shared → Prop} (X : K.In s.heap) (I : InstAt s.heap x (bankObj C dx es n) C (some (dictOf [ed] nd)))
    (hga : findIn K (.ref C) "__getattribute__" = some (some (.builtin "dict.__getattribute__"))) (hk : findIn K (.ref C) "__getattr__" = some none) (hf : findIn K (.ref C) name = some none) (hh : hasDictIn K C = true) (hm : subIn K (.ref C) (.type "dict") = some true)
    (hed : ed.key.isStr name = true) (hv : handedIn ed.val = true) (h : ∀ tk, Q (ed.val, []) { s with toks := tk }) : wpAny (model prog w) A (getMethod (.ref x) name pl) Q E s := by
  unfold getMethod specialOf
  refine wpAny_bind (wpAny_bind (I.type.here ((looks_findIn X hga).here ?_)))
  dsimp only
  rw [ga_canon, if_neg (by decide)]
  refine wpAny_bind (wpAny_bind (I.type.here ((looks_findIn X hk).here ?_)))
  refine wpAny_bind (wpAny_bind (I.type.here ((looks_findIn X hf).here ?_)))
  refine wpAny_bind ?_
  have hfo : findObj K C (some (dictOf [ed] nd)) name = some (.value ed.val) := findObj_own hh hf rfl (by
    show getL name [ed] = _
    unfold getL
    simp [hed])
  obtain ⟨hh', g, dr, t, os⟩ := s
  have L0 := I.type (M := model prog w)
  have L1 := looks_find (M := model prog w) X I hfo
  have LI : Looks (model prog w) hh' (isInstance (.ref x) (.type "dict")) true := L0.andThen (looks_subIn X hm)
  have LG := looks_findIn (M := model prog w) X hga
  have LK := looks_findIn (M := model prog w) X hk
  unfold getAttr getAttrBy
  refine wpAny_bind (wpAny_mkText (wpAny_holding (wpAny_bind (L0.at (wpAny_bind (LG.at ?_))))))
  dsimp only
  rw [if_neg (fun e => absurd (Bool.and_eq_true_iff.mp e).2 (by decide))]
  unfold getAttrByItsOwn hookBefore
  rw [if_pos (by rfl)]
  refine wpAny_bind (LK.at (wpAny_bind (wpAny_attempt (wpAny_holding ?_))))
  unfold callGetattribute
  rw [if_neg (fun e => absurd (Bool.and_eq_true_iff.mp e).2 (by decide))]
  unfold boundAndCalled
  rw [F.slot_dict_getattribute.bind]
  refine wpAny_bind (wpAny_pure (wpAny_call (codeAny_call_builtin F.slot_dict_getattribute.plain F.entry_dict_ga (@check_slot (model prog w) _ _ _ "dict.__getattribute__" "dict" "__getattribute__" (.ref x) [.str name t] [] _ (by decide +kernel) (by decide +kernel) LI (PySem.F.args_dict_getattribute_2 _ _) ?_))))
  unfold Builtin.«object.__getattribute__»
  dsimp only [List.cons_append, List.nil_append]
  repeat lk
  show wpAny _ _ (handedOut ed.val) _ _ _
  rw [handedOut_of hv]
  exact wpAny_pure (wpAny_pure (h _))
end
end Mine
end

section
open PySem PySem.W PySem.Calls PyProof.Rows Builtin Builtin.ObjectAttr
set_option Elab.async false
set_option maxRecDepth 100000
set_option linter.unusedVariables false
namespace Mine

def kdat : Nat → Dat
  | 0 => .int 0
  | 1 => .str (Str.ofString "a")
  | 2 => .tuple [.int 1]
  | 3 => .int (-1)
  | 4 => .str (Str.ofString "new")
  | _ => .none
def KeyIn (l : List (Addr × Obj)) (k : Nat) (v : Value) : Prop := k < 5 ∧ DatIn l v (kdat k)
theorem KeyIn.mono {l l' : List (Addr × Obj)} {k : Nat} {v : Value} (hs : ∀ p ∈ l, p ∈ l') (h : KeyIn l k v) : KeyIn l' k v := ⟨h.1, h.2.mono hs⟩
theorem KeyIn.at {l : List (Addr × Obj)} {h : Heap} (hl : ∀ p ∈ l, h.get? p.1 = some p.2) {k : Nat} {v : Value} (x : KeyIn l k v) : KeyAt h k v := by
  obtain ⟨hk, x⟩ := x
  match k, hk, x with
  | 0, _, x => cases x with | int _ t => exact ⟨t, rfl⟩
  | 1, _, x => cases x with | str _ t => exact ⟨t, rfl⟩
  | 2, _, x =>
    cases x with
    | tuple hm hr =>
      cases hr with
      | cons h1 h2 =>
        cases h1 with
        | int _ t =>
          cases h2
          exact ⟨_, _, _, t, rfl, hl _ hm, rfl, rfl⟩
  | 3, _, x => cases x with | int _ t => exact ⟨t, rfl⟩
  | 4, _, x => cases x with | str _ t => exact ⟨t, rfl⟩
  | _ + 5, hk, _ => exact absurd hk (by omega)

abbrev dArr (es : Array DictEntry) (n : Nat) : Obj := { cls := .type "dict", data := .dict es n }
abbrev tupOf (vs : List Value) : Obj := { cls := .type "tuple", data := .seq vs.toArray }
abbrev TabL (w : World) (l : List (Addr × Obj)) (es : Array DictEntry) (xs : List (Nat × Dat)) : Prop := Tab w (KeyIn l) (DatIn l) es xs
theorem TabL.mono {w : World} {l l' : List (Addr × Obj)} {es : Array DictEntry} {xs : List (Nat × Dat)} (T : TabL w l es xs) (hs : ∀ p ∈ l, p ∈ l') : TabL w l' es xs :=
  Tab.mono T (fun _ _ h => h.mono hs) fun _ _ h => h.mono hs

section
variable {prog : Program} {w : World} {A : Around} {E : Value → Shared → Prop} {K : Frag} {C x dx : Addr} {s : Shared} {h₀ : Heap} {L d : Addr} {m : Str → Option Value} {news l : List (Addr × Obj)} {g : Obj → List (Addr × Obj)} {o : Obj} {es : Array DictEntry} {ep k : Nat} {key : Value} {xs : List (Nat × Dat)}

theorem keysAt {h : Heap} (N : News h₀ L h news) (hl : ∀ p ∈ l, p ∈ news) : ∀ k v, KeyIn l k v → KeyAt h k v := fun _ _ h => h.at fun p hp => (N p (hl p hp)).1

theorem updL {Q : Heap → Prop} {h : Heap} {f : Obj → Obj} {es' : Array DictEntry} {ep' : Nat} (F : Fr h₀ L h m) (N : News h₀ L h news) (U : UpdF d o news g) (hf : f o = { o with data := .dict es' ep' })
    (k : ∀ h', Fr h₀ L h' m → News h₀ L h' (g { o with data := .dict es' ep' }) → Q h') : Q (h.update d f) := by
  obtain ⟨pre, post, rfl, hg, a, b⟩ := U.split
  obtain ⟨U1, U2⟩ := news_upd (f := f) F N a b hf rfl
  exact k _ U1 (hg _ ▸ U2)
theorem UpdF.mem {o : Obj} (U : UpdF d o news g) : (d, o) ∈ news := by
  obtain ⟨pre, post, rfl, _⟩ := U.split
  exact List.mem_append_right _ (.head _)

theorem tailD {value slice : Expr} {Q : Value → Shared → Prop} (L : DLike (model prog w) s.heap d) (hg : wpAny (model prog w) A (getItem (.ref d) key) Q E s)
    (hs : subscripted slice false (.ref d) key = operate [.ref d, key] (getItem (.ref d) key)) : wpAny (model prog w) A (subscriptTail value slice (.ref d) key) Q E s := by
  unfold subscriptTail
  refine wpAny_bind ?_
  rw [getitemInPython_of_ne (o := .ref d) (fun e => nomatch e)]
  refine wpAny_bind ((L.spec _ _ (.head _)).here (wpAny_pure ?_))
  rw [hs]
  exact wpAny_bind (wpAny_operating (wpAny_mono hg (fun r s₃ h₃ => wpAny_bind (wpAny_letTemporaryGo (wpAny_pure h₃))) fun _ _ x => x))

theorem itemL {value slice : Expr} {y : Dat} {Q : Value → Shared → Prop} (hu : A.in1.units + 2 < cLine) (D : DLike (model prog w) s.heap d) (N : News h₀ L s.heap news) (hl : ∀ p ∈ l, p ∈ news) (hm : (d, o) ∈ news) (hd : o.data = .dict es ep) (hkey : KeyIn l k key) (T : TabL w l es xs)
    (hy : lkp xs k = some y) (h : ∀ v tk, DatIn l v y → Q v { s with toks := tk }) (hs : subscripted slice false (.ref d) key = operate [.ref d, key] (getItem (.ref d) key)) :
    wpAny (model prog w) A (subscriptTail value slice (.ref d) key) Q E s := tailD D (item_run hu D (keysAt N hl) hkey (N _ hm).1 hd T hy h) hs
theorem itemL_miss {value slice : Expr} {Q : Value → Shared → Prop} (hh : A.handled = none) (hu : A.in1.units + 2 < cLine) (D : DLike (model prog w) s.heap d) (N : News h₀ L s.heap news) (hl : ∀ p ∈ l, p ∈ news) (hm : (d, o) ∈ news) (hc : o.cls = .type "dict") (hd : o.data = .dict es ep) (hkey : KeyIn l k key) (T : TabL w l es xs)
    (hy : lkp xs k = none) (h : ∀ h' e tk, Heap.NewExc s.heap h' e "KeyError" → E (.ref e) { s with heap := h', toks := tk }) (hs : subscripted slice false (.ref d) key = operate [.ref d, key] (getItem (.ref d) key)) :
    wpAny (model prog w) A (subscriptTail value slice (.ref d) key) Q E s := tailD D (item_miss hh hu D (keysAt N hl) hkey (N _ hm).1 hc hd T hy h) hs

theorem setL {v : Value} {y : Dat} {Q : Unit → Shared → Prop} (hu : A.in1.units + 2 < cLine) (D : DLike (model prog w) s.heap d) (F : Fr h₀ L s.heap m) (N : News h₀ L s.heap news) (hl : ∀ p ∈ l, p ∈ news) (U : UpdF d o news g) (hd : o.data = .dict es ep) (hkey : KeyIn l k key) (hv : DatIn l v y) (T : TabL w l es xs) (hz : xs.length ≤ 1000)
    (h : ∀ h' es' ep' tk, Fr h₀ L h' m → News h₀ L h' (g { o with data := .dict es' ep' }) → TabL w l es' (put xs k y) → Q () { s with heap := h', toks := tk }) : wpAny (model prog w) A (setItem (.ref d) key v) Q E s :=
  setItem_run hu D (keysAt N hl) hkey hv (N _ (UpdF.mem U)).1 hd T hz fun f es' ep' tk hf T' => updL (Q := fun h' => Q () { s with heap := h', toks := tk }) F N U hf fun h' F' N' => h h' es' ep' tk F' N' T'

theorem delL {y : Dat} {Q : Unit → Shared → Prop} (hu : A.in1.units + 2 < cLine) (D : DLike (model prog w) s.heap d) (F : Fr h₀ L s.heap m) (N : News h₀ L s.heap news) (hl : ∀ p ∈ l, p ∈ news) (U : UpdF d o news g) (hd : o.data = .dict es ep) (hkey : KeyIn l k key) (T : TabL w l es xs) (hz : xs.length ≤ 1000) (hy : lkp xs k = some y)
    (h : ∀ h' es' ep' tk, Fr h₀ L h' m → News h₀ L h' (g { o with data := .dict es' ep' }) → TabL w l es' (del xs k) → Q () { s with heap := h', toks := tk }) : wpAny (model prog w) A (delItem (.ref d) key) Q E s :=
  delItem_run hu D (keysAt N hl) hkey (N _ (UpdF.mem U)).1 hd T hz hy fun f es' ep' tk hf T' => updL (Q := fun h' => Q () { s with heap := h', toks := tk }) F N U hf fun h' F' N' => h h' es' ep' tk F' N' T'
theorem delL_miss {Q : Unit → Shared → Prop} (hh : A.handled = none) (hu : A.in1.units + 2 < cLine) (D : DLike (model prog w) s.heap d) (N : News h₀ L s.heap news) (hl : ∀ p ∈ l, p ∈ news) (hm : (d, o) ∈ news) (hd : o.data = .dict es ep) (hkey : KeyIn l k key) (T : TabL w l es xs) (hz : xs.length ≤ 1000)
    (hy : lkp xs k = none) (h : ∀ h' e tk, Heap.NewExc s.heap h' e "KeyError" → E (.ref e) { s with heap := h', toks := tk }) : wpAny (model prog w) A (delItem (.ref d) key) Q E s :=
  delItem_miss hh hu D (keysAt N hl) hkey (N _ hm).1 hd T hz hy h

theorem inL {Q : Value → Shared → Prop} (hu : A.in1.units + 2 < cLine) (D : DLike (model prog w) s.heap d) (N : News h₀ L s.heap news) (hl : ∀ p ∈ l, p ∈ news) (hm : (d, o) ∈ news) (hd : o.data = .dict es ep) (hkey : KeyIn l k key) (T : TabL w l es xs)
    (h : ∀ tk, Q (.bool (lkp xs k).isSome) { s with toks := tk }) : wpAny (model prog w) A (compareOp .In key (.ref d)) Q E s := in_run hu D (keysAt N hl) hkey (N _ hm).1 hd T h
theorem notInL {Q : Value → Shared → Prop} (hu : A.in1.units + 2 < cLine) (D : DLike (model prog w) s.heap d) (N : News h₀ L s.heap news) (hl : ∀ p ∈ l, p ∈ news) (hm : (d, o) ∈ news) (hd : o.data = .dict es ep) (hkey : KeyIn l k key) (T : TabL w l es xs)
    (h : ∀ tk, Q (.bool (!(lkp xs k).isSome)) { s with toks := tk }) : wpAny (model prog w) A (compareOp .NotIn key (.ref d)) Q E s := notIn_run hu D (keysAt N hl) hkey (N _ hm).1 hd T h

theorem getL3 {dflt : Value} {Q : Value → Shared → Prop} (hu : A.in1.units + 2 < cLine) (D : DLike (model prog w) s.heap d) (N : News h₀ L s.heap news) (hl : ∀ p ∈ l, p ∈ news) (hm : (d, o) ∈ news) (hd : o.data = .dict es ep) (hkey : KeyIn l k key) (T : TabL w l es xs)
    (h1 : ∀ v y tk, lkp xs k = some y → DatIn l v y → Q v { s with toks := tk }) (h0 : lkp xs k = none → ∀ tk, Q dflt { s with toks := tk }) :
    wpAny (model prog w) A (call (.builtin "dict.get") [.ref d, key, dflt]) Q E s := get_run hu D (keysAt N hl) hkey (N _ hm).1 hd T h1 h0
theorem popL2 {y : Dat} {Q : Value → Shared → Prop} (hu : A.in1.units + 2 < cLine) (D : DLike (model prog w) s.heap d) (F : Fr h₀ L s.heap m) (N : News h₀ L s.heap news) (hl : ∀ p ∈ l, p ∈ news) (U : UpdF d o news g) (hd : o.data = .dict es ep) (hkey : KeyIn l k key) (T : TabL w l es xs) (hz : xs.length ≤ 1000) (hy : lkp xs k = some y)
    (h : ∀ v h' es' ep' tk, DatIn l v y → Fr h₀ L h' m → News h₀ L h' (g { o with data := .dict es' ep' }) → TabL w l es' (del xs k) → Q v { s with heap := h', toks := tk }) :
    wpAny (model prog w) A (call (.builtin "dict.pop") [.ref d, key]) Q E s :=
  pop2_run hu D (keysAt N hl) hkey (N _ (UpdF.mem U)).1 hd T hz hy fun v f es' ep' tk hv hf T' => updL (Q := fun h' => Q v { s with heap := h', toks := tk }) F N U hf fun h' F' N' => h v h' es' ep' tk hv F' N' T'
theorem popL3 {dflt : Value} {Q : Value → Shared → Prop} (hu : A.in1.units + 2 < cLine) (D : DLike (model prog w) s.heap d) (F : Fr h₀ L s.heap m) (N : News h₀ L s.heap news) (hl : ∀ p ∈ l, p ∈ news) (U : UpdF d o news g) (hd : o.data = .dict es ep) (hkey : KeyIn l k key) (T : TabL w l es xs) (hz : xs.length ≤ 1000)
    (h : ∀ v h' es' ep' tk, Fr h₀ L h' m → News h₀ L h' (g { o with data := .dict es' ep' }) → TabL w l es' (del xs k) → Q v { s with heap := h', toks := tk }) :
    wpAny (model prog w) A (call (.builtin "dict.pop") [.ref d, key, dflt]) Q E s :=
  pop3_run hu D (keysAt N hl) hkey (N _ (UpdF.mem U)).1 hd T hz (fun v f es' ep' tk hf T' => updL (Q := fun h' => Q v { s with heap := h', toks := tk }) F N U hf fun h' F' N' => h v h' es' ep' tk F' N' T') fun hn v tk => by
    obtain ⟨pre, post, e, hg, a, b⟩ := U.split
    refine h v s.heap es ep tk F ?_ (by rw [del_none hn]; exact T)
    rw [hg, ← hd, ← e]
    exact N
theorem setdefL {v : Value} {y : Dat} {Q : Value → Shared → Prop} (hu : A.in1.units + 2 < cLine) (D : DLike (model prog w) s.heap d) (F : Fr h₀ L s.heap m) (N : News h₀ L s.heap news) (hl : ∀ p ∈ l, p ∈ news) (U : UpdF d o news g) (hd : o.data = .dict es ep) (hkey : KeyIn l k key) (hv : DatIn l v y) (T : TabL w l es xs) (hz : xs.length ≤ 1000) (hn : lkp xs k = none)
    (h : ∀ h' es' ep' tk, Fr h₀ L h' m → News h₀ L h' (g { o with data := .dict es' ep' }) → TabL w l es' (put xs k y) → Q v { s with heap := h', toks := tk }) :
    wpAny (model prog w) A (call (.builtin "dict.setdefault") [.ref d, key, v]) Q E s :=
  setdefault_run hu D (keysAt N hl) hkey hv (N _ (UpdF.mem U)).1 hd T hz hn fun f es' ep' tk hf T' => updL (Q := fun h' => Q v { s with heap := h', toks := tk }) F N U hf fun h' F' N' => h h' es' ep' tk F' N' T'

/-- bank[key], the key not there: __missing__ is called -/
theorem bankMiss {value slice : Expr} {es : Array DictEntry} {n : Nat} {od : Option Obj} {fM : Addr} {Q : Value → Shared → Prop} (hu : A.in1.units + 2 < cLine) (D : DLike (model prog w) s.heap x) (X : K.In s.heap) (I : InstAt s.heap x (bankObj C dx es n) C od)
    (hmi : findIn K (.ref C) "__missing__" = some (some (.ref fM))) (hf : isFn K (.ref fM) = true) (N : News h₀ L s.heap news) (hl : ∀ p ∈ l, p ∈ news) (hkey : KeyIn l k key) (T : TabL w l es xs) (hy : lkp xs k = none)
    (h : ∀ tk, codeAny (model prog w) A.in1 (.call (.ref fM) ⟨[.ref x, key], []⟩) (fun r s' => match r with | .ok (.ret v) => Q v s' | .ok _ => False | .error e => E e s') { s with toks := tk })
    (hs : subscripted slice false (.ref x) key = operate [.ref x, key] (getItem (.ref x) key)) : wpAny (model prog w) A (subscriptTail value slice (.ref x) key) Q E s := by
  refine tailD D ?_ hs
  unfold getItem
  refine wpAny_holding (wpAny_bind ((D.seqk _ _).here (wpAny_bind (specD D (.head _) ?_))))
  refine callD D (by decide +kernel) F.entry_dict_getitem (.inl (by decide +kernel)) (n := "__getitem__") (by decide +kernel) (F.args_dict_getitem_2 _ _) ?_
  unfold Builtin.«dict.__getitem__»
  refine wpAny_bind (karg ?_)
  dsimp only
  refine wpAny_bind (dGet hu (keysAt N hl) hkey I.at_ rfl T (fun v y tk hl' hv => by rw [hy] at hl'; cases hl') (fun hn tk => ?_))
  dsimp only
  refine wpAny_bind (wpAny_missed_other D.nsys ?_)
  dsimp only
  obtain ⟨hh, gg, dr, t, os⟩ := s
  refine wpAny_bind (I.type.at ?_)
  rw [if_pos (by simp)]
  refine wpAny_bind (special_fn (s := ⟨hh, gg, dr, tk, os⟩) X I hmi (beq_iff_eq.mp hf) ?_)
  refine wpAny_call (codeAny_mono (h tk) fun r s' z => ?_)
  rcases r with e | (v | _ | _ | _) <;> first | exact z | exact z.elim | skip
  exact wpAny_bind (wpAny_rule (wpAny_bind (wpAny_pure (wpAny_pure ⟨_, rfl, wpAny_pure z⟩))))
end
end Mine
end

section
open PySem PySem.W PySem.Calls PyProof.Rows
set_option Elab.async false
set_option maxRecDepth 100000
set_option linter.unusedVariables false
namespace Mine

section
variable {prog : Program} {w : World} {A : Around} {E : Value → Shared → Prop} {s : Shared} {env : Env} {h₀ : Heap} {body : List Stmt} {Q : Flow → Shared → Prop}

/-- what a turn of the loop leaves: the ledger may have grown, off what the walking itself owns -/
def GrowEnd (h₀ : Heap) (L : Addr) (own : List (Addr × Obj)) (J : (Str → Option Value) → List (Addr × Obj) → Prop) (s₁ s₂ : Shared) : Prop :=
  ∃ h' tk m' news', s₂ = { s₁ with heap := h', toks := tk } ∧ Fr h₀ L h' m' ∧ News h₀ L h' (news' ++ own) ∧ (∀ p ∈ news', ∀ q ∈ own, p.1 ≠ q.1) ∧ J m' news'
def GrowPost (h₀ : Heap) (L : Addr) (own : List (Addr × Obj)) (J : (Str → Option Value) → List (Addr × Obj) → Prop) (s₁ : Shared) (Q : Flow → Shared → Prop) (f : Flow) (s₂ : Shared) : Prop :=
  match f with
  | .ret v => Q (.ret v) s₂
  | .brk => Q .next s₂
  | _ => GrowEnd h₀ L own J s₁ s₂

theorem enumG {xi xc : Str} {pk pv pt : Pos} {x1 : Nat} {l : Addr} {lo : Obj} {vs : List Value} {ns : List Int} {n : Nat} {m₀ : Str → Option Value} {news news₀ : List (Addr × Obj)} (hh : A.handled = none)
    (hxi : env.kindOf xi = some .local) (hxc : env.kindOf xc = some .local) (hp : (env.scope.kind == .class || (env.scope.kind == .module && env.locals != env.globals)) = false)
    (F : Fr h₀ env.locals s.heap m₀) (N : News h₀ env.locals s.heap news) (hm : (l, lo) ∈ news) (hc : lo.cls = .type "list") (hd : lo.data = .seq vs.toArray n) (hi : IntsAre vs ns)
    (hsub : ∀ p ∈ news₀, p ∈ news) (hne : ∀ p ∈ news₀, p.1 ≠ l)
    (J : Nat → (Str → Option Value) → List (Addr × Obj) → Prop) (h0 : J 0 m₀ news₀)
    (step : ∀ i n t u m₁ news₁ h tk own, ns[i]? = some n → J i m₁ news₁ → (∀ p ∈ news₁, ∀ q ∈ own, p.1 ≠ q.1) →
      Fr h₀ env.locals h (fun y => if y = xc then some (.int n t) else if y = xi then some (.int i u) else m₁ y) → News h₀ env.locals h (news₁ ++ own) →
      wpAny (model prog w) A (execs body env) (GrowPost h₀ env.locals own (J (i + 1)) { s with heap := h, toks := tk } Q) E { s with heap := h, toks := tk })
    (done : ∀ h tk m' news', Fr h₀ env.locals h m' → News h₀ env.locals h news' → J ns.length m' news' → Q .next { s with heap := h, toks := tk }) :
    wpAny (model prog w) A (call (.type "enumerate") [.ref l]) (fun xv s₁ => wpAny (model prog w) A (pyIter xv) (fun it s₂ => TurnsAt prog w A h₀ env (.Tuple [.Name xi pk, .Name xc pv] x1 pt) body Q E it s₂) E s₁) E s := by
  have hax := N _ hm
  have hl : s.heap.IsList l vs.toArray := ⟨lo, hax.1, hc, n, hd⟩
  have hlt : l < s.heap.objs.size := Heap.lt_size hax.1
  have hLs : env.locals < s.heap.objs.size := F.ns.lt
  have hab : h₀.objs.size ≤ s.heap.objs.size := Nat.le_of_lt (Nat.lt_of_le_of_lt F.above hLs)
  refine call_enumerate_list hl fun h' hE hI hsz hk => ?_
  refine wpAny_pyIter_enum hE ?_
  let e := s.heap.objs.size + 1
  let it := s.heap.objs.size
  have W := KTurns.ofWalksU (elts := [.Name xi pk, .Name xc pv]) (k := x1) (pos := pt) (WalksT.enumerate (prog := prog) (w := w) hh e it l (Nat.succ_ne_self _) (Nat.ne_of_lt (Nat.lt_succ_of_lt hlt)) (Nat.ne_of_lt hlt) vs.toArray).toU
  have new : ∀ b ∈ [e, it, l], h₀.get? b = none := by
    intro b hb
    have hb' : b = e ∨ b = it ∨ b = l := by simpa using hb
    rcases hb' with rfl | rfl | rfl
    · exact Heap.get?_none_of_le (Nat.le_succ_of_le hab)
    · exact Heap.get?_none_of_le hab
    · exact hax.2.2
  have hLf : env.locals ∉ [e, it, l] := by
    intro hb
    have hb' : env.locals = e ∨ env.locals = it ∨ env.locals = l := by simpa using hb
    rcases hb' with h | h | h
    · exact absurd h (Nat.ne_of_lt (Nat.lt_succ_of_lt hLs))
    · exact absurd h (Nat.ne_of_lt hLs)
    · exact hax.2.1 h.symm
  have off0 : ∀ p ∈ news₀, p.1 ∉ [e, it, l] := by
    intro p hp hb
    have hlt' := Heap.lt_size (N p (hsub p hp)).1
    have hb' : p.1 = e ∨ p.1 = it ∨ p.1 = l := by simpa using hb
    rcases hb' with h | h | h
    · exact absurd h (Nat.ne_of_lt (Nat.lt_succ_of_lt hlt'))
    · exact absurd h (Nat.ne_of_lt hlt')
    · exact hne p hp h
  have wrfp : ∀ b ∈ [e, it], b ∈ [e, it, l] := fun b hb => by
    have hb' : b = e ∨ b = it := by simpa using hb
    rcases hb' with rfl | rfl <;> simp
  have hlen : vs.toArray.size = ns.length := by rw [List.size_toArray]; first | exact hi.length | exact hi.length.symm
  refine ⟨e, [e, it, l], [e, it], vs.toArray.size, _, _, _, m₀, news₀, fun i m₁ news₁ => J i m₁ news₁ ∧ ∀ p ∈ news₁, p.1 ∉ [e, it, l], rfl, W, hLf, fun b hb => new b (wrfp b hb), fun p hp hb => off0 p hp (wrfp _ hb), ⟨⟨_, hE⟩, hI, hl.at fun o e => hk l o e⟩, F.keeps hk, fun p hp => N.grown hk p (hsub p hp), ⟨h0, off0⟩, ?_, ?_⟩
  · rintro i v m₁ news₁ h₁ tk₁ own hin ⟨T, vals, rfl, ⟨u, x, hx, rfl⟩, hT⟩ ⟨hJ, hoff⟩ _ hown hownh howni ⟨⟨old, he⟩, ⟨oi, hoi, hic, hid⟩, hl₁⟩ F₁ N₁
    have hx' : vs[i]? = some x := by simpa using hx
    have hin' : i < ns.length := by rw [← hlen]; exact hin
    obtain ⟨t, ht⟩ := hi.get i ns[i] (by simp [hin'])
    have hv : x = .int ns[i] t := by rw [hx'] at ht; exact Option.some.inj ht
    subst hv
    obtain ⟨ol, hol, hlc, nl, hld⟩ := hl₁
    have oe := howni e (by simp) (new e (by simp)) _ he
    have oit := howni it (by simp) (new it (by simp)) _ hoi
    have ol' := howni l (by simp) (new l (by simp)) _ hol
    refine wpAny_assign_Tuple (s := { s with heap := h₁, toks := tk₁ }) hh hT rfl rfl fun h₃ hx₃ => ?_
    replace hx₃ : Heap.ExtBut h₁.objs.size h₁ h₃ := hx₃
    have up₃ : ∀ b o, h₁.get? b = some o → h₃.get? b = some o := fun b o x => hx₃ b o (Nat.ne_of_lt (Heap.lt_size x)) x
    have F₃ := F₁.keeps up₃
    have N₃ := N₁.grown up₃
    show wpAny _ A (do holding [.int ns[i] t] (assign (.Name xi pk) env (.int i u)); do holding [] (assign (.Name xc pv) env (.int ns[i] t)); pure ()) _ _ _
    refine wpAny_bind (wpAny_holding (wpAny_assign_Name (wpAny_storeName_local hxi F₃.ns (fun h₄ hn₄ hs₄ => ?_) hp)))
    replace hs₄ : Heap.SameBut env.locals h₃ h₄ := hs₄
    have F₄ := F₃.set hn₄ hs₄
    refine wpAny_bind (wpAny_holding (wpAny_assign_Name (wpAny_storeName_local hxc F₄.ns (fun h₅ hn₅ hs₅ => wpAny_pure ?_) hp)))
    replace hs₅ : Heap.SameBut env.locals h₄ h₅ := hs₅
    have F₅ := F₄.set hn₅ hs₅
    have N₅ : News h₀ env.locals h₅ (own ++ news₁) := (N₃.set hs₄).set hs₅
    have N₆ : News h₀ env.locals h₅ (news₁ ++ own) := fun p hp => N₅ p (List.mem_append.mpr (List.mem_append.mp hp).symm)
    have sep : ∀ p ∈ news₁, ∀ q ∈ own, p.1 ≠ q.1 := fun p hp q hq e' => hoff p hp (by rw [e']; exact hown q hq)
    refine wpAny_mono (step i ns[i] t u m₁ news₁ h₅ _ own (by simp [hin']) hJ sep F₅ N₆) (fun f s₃ q => ?_) fun _ _ e => e
    have fin : GrowEnd h₀ env.locals own (J (i + 1)) { s with heap := h₅, toks := tk₁ + 1 + 1 } s₃ → LoopStepU h₀ env.locals [e, it] own (fun m₁ news₁ => J (i + 1) m₁ news₁ ∧ ∀ p ∈ news₁, p.1 ∉ [e, it, l]) { s with heap := h₁, toks := tk₁ } .next s₃ := by
      rintro ⟨h', tk, m', news', eq, F', N', hsep, hJ'⟩
      have off' : ∀ p ∈ news', p.1 ∉ [e, it, l] := by
        intro p hp hb
        have hb' : p.1 = e ∨ p.1 = it ∨ p.1 = l := by simpa using hb
        rcases hb' with h | h | h
        · exact hsep p hp _ oe h
        · exact hsep p hp _ oit h
        · exact hsep p hp _ ol' h
      exact ⟨rfl, h', tk, m', news', eq, F', fun p hp => N' p (List.mem_append.mpr (List.mem_append.mp hp).symm), fun p hp hb => off' p hp (wrfp _ hb), hJ', off'⟩
    cases f with
    | ret v => exact q
    | brk => exact q
    | next => exact fin q
    | cont => exact fin q
  · rintro h'' tk m' news' F' N' _ ⟨hJ, _⟩
    rw [hlen] at hJ
    exact done h'' tk m' news' F' N' hJ
end
end Mine
end

section
open PySem PySem.W PySem.Calls PyProof.Rows
set_option Elab.async false
set_option maxRecDepth 100000
set_option linter.unusedVariables false
namespace Mine
section
variable {prog : Program} {w : World} {A : Around} {E : Value → Shared → Prop} {s : Shared} {env : Env} {h₀ : Heap} {body : List Stmt} {Q : Flow → Shared → Prop}
theorem goName {x : Str} {p : Pos} {it v : Value} {s : Shared} {Q : Unit → Shared → Prop} (h : Q () s) : wpAny (model prog w) A (letOwnedTupleGo (.Name x p) it v) Q E s := by
  unfold letOwnedTupleGo
  exact wpAny_pure h
theorem listG {xi : Str} {pi : Pos} {l : Addr} {lo : Obj} {vs : List Value} {n : Nat} {m₀ : Str → Option Value} {news news₀ : List (Addr × Obj)} (hh : A.handled = none)
    (hxi : env.kindOf xi = some .local) (hp : (env.scope.kind == .class || (env.scope.kind == .module && env.locals != env.globals)) = false)
    (F : Fr h₀ env.locals s.heap m₀) (N : News h₀ env.locals s.heap news) (hm : (l, lo) ∈ news) (hc : lo.cls = .type "list") (hd : lo.data = .seq vs.toArray n)
    (hsub : ∀ p ∈ news₀, p ∈ news) (hne : ∀ p ∈ news₀, p.1 ≠ l)
    (J : Nat → (Str → Option Value) → List (Addr × Obj) → Prop) (h0 : J 0 m₀ news₀)
    (step : ∀ i v m₁ news₁ h tk own, vs[i]? = some v → J i m₁ news₁ → (∀ p ∈ news₁, ∀ q ∈ own, p.1 ≠ q.1) →
      Fr h₀ env.locals h (fun y => if y = xi then some v else m₁ y) → News h₀ env.locals h (news₁ ++ own) →
      wpAny (model prog w) A (execs body env) (GrowPost h₀ env.locals own (J (i + 1)) { s with heap := h, toks := tk } Q) E { s with heap := h, toks := tk })
    (done : ∀ h tk m' news', Fr h₀ env.locals h m' → News h₀ env.locals h news' → J vs.length m' news' → Q .next { s with heap := h, toks := tk }) :
    wpAny (model prog w) A (pyIter (.ref l)) (fun it s₂ => TurnsAt prog w A h₀ env (.Name xi pi) body Q E it s₂) E s := by
  have hax := N _ hm
  have hl : s.heap.IsList l vs.toArray := ⟨lo, hax.1, hc, n, hd⟩
  have hlt : l < s.heap.objs.size := Heap.lt_size hax.1
  have hLs : env.locals < s.heap.objs.size := F.ns.lt
  have hab : h₀.objs.size ≤ s.heap.objs.size := Nat.le_of_lt (Nat.lt_of_le_of_lt F.above hLs)
  refine wpAny_pyIter_list hl ?_
  let it := s.heap.objs.size
  have hk : ∀ b o, s.heap.get? b = some o → (s.heap.push { cls := .type "list_iterator", data := .fields #[.ref l, .int 0 0] }).get? b = some o := fun b o e => Heap.get?_push_of_some _ e
  have W := KTurns.ofWalks (target := .Name xi pi) (Walks.list (prog := prog) (w := w) hh it l (Nat.ne_of_lt hlt) vs.toArray) fun i v s Q E _ h => goName h
  have mem2 : ∀ b, b ∈ [it, l] → b = it ∨ b = l := fun b hb => by simpa using hb
  have new : ∀ b ∈ [it, l], h₀.get? b = none := fun b hb => by
    rcases mem2 b hb with rfl | rfl
    · exact Heap.get?_none_of_le hab
    · exact hax.2.2
  have hLf : env.locals ∉ [it, l] := fun hb => by
    rcases mem2 _ hb with h | h
    · exact absurd h (Nat.ne_of_lt hLs)
    · exact hax.2.1 h.symm
  have off0 : ∀ p ∈ news₀, p.1 ∉ [it, l] := fun p hp' hb => by
    have hlt' := Heap.lt_size (N p (hsub p hp')).1
    rcases mem2 _ hb with h | h
    · exact absurd h (Nat.ne_of_lt hlt')
    · exact hne p hp' h
  have wrfp : ∀ b ∈ [it], b ∈ [it, l] := fun b hb => by
    rw [List.mem_singleton.mp hb]
    exact .head _
  refine ⟨it, [it, l], [it], vs.toArray.size, _, _, _, m₀, news₀, fun i m₁ news₁ => J i m₁ news₁ ∧ ∀ p ∈ news₁, p.1 ∉ [it, l], rfl, W, hLf, fun b hb => new b (wrfp b hb), fun p hp' hb => off0 p hp' (wrfp _ hb), ⟨⟨_, Heap.get?_push_size _ rfl, rfl, rfl⟩, hl.at fun o e => hk l o e⟩, F.keeps hk, fun p hp' => N.grown hk p (hsub p hp'), ⟨h0, off0⟩, ?_, ?_⟩
  · rintro i v m₁ news₁ h₁ tk₁ own hin hv ⟨hJ, hoff⟩ _ hown hownh howni ⟨⟨oi, hoi, hic, hid⟩, hl₁⟩ F₁ N₁
    obtain ⟨ol, hol, hlc, nl, hld⟩ := hl₁
    have oit := howni it (by simp) (new it (by simp)) _ hoi
    have ol' := howni l (by simp) (new l (by simp)) _ hol
    refine wpAny_assign_Name (wpAny_storeName_local (s := { s with heap := h₁, toks := tk₁ }) hxi F₁.ns (fun h₄ hn₄ hs₄ => ?_) hp)
    replace hs₄ : Heap.SameBut env.locals h₁ h₄ := hs₄
    have F₄ := F₁.set hn₄ hs₄
    have N₅ : News h₀ env.locals h₄ (own ++ news₁) := N₁.set hs₄
    have N₆ : News h₀ env.locals h₄ (news₁ ++ own) := fun p hp' => N₅ p (List.mem_append.mpr (List.mem_append.mp hp').symm)
    have sep : ∀ p ∈ news₁, ∀ q ∈ own, p.1 ≠ q.1 := fun p hp' q hq e' => hoff p hp' (by rw [e']; exact hown q hq)
    refine wpAny_mono (step i v m₁ news₁ h₄ _ own (by simpa using hv) hJ sep F₄ N₆) (fun f s₃ q => ?_) fun _ _ e => e
    have fin : GrowEnd h₀ env.locals own (J (i + 1)) { s with heap := h₄, toks := tk₁ + 1 } s₃ → LoopStepU h₀ env.locals [it] own (fun m₁ news₁ => J (i + 1) m₁ news₁ ∧ ∀ p ∈ news₁, p.1 ∉ [it, l]) { s with heap := h₁, toks := tk₁ } .next s₃ := by
      rintro ⟨h', tk, m', news', eq, F', N', hsep, hJ'⟩
      have off' : ∀ p ∈ news', p.1 ∉ [it, l] := fun p hp' hb => by
        rcases mem2 _ hb with h | h
        · exact hsep p hp' _ oit h
        · exact hsep p hp' _ ol' h
      exact ⟨rfl, h', tk, m', news', eq, F', fun p hp' => N' p (List.mem_append.mpr (List.mem_append.mp hp').symm), fun p hp' hb => off' p hp' (wrfp _ hb), hJ', off'⟩
    cases f with
    | ret v => exact q
    | brk => exact q
    | next => exact fin q
    | cont => exact fin q
  · rintro h'' tk m' news' F' N' _ ⟨hJ, _⟩
    rw [List.size_toArray] at hJ
    exact done h'' tk m' news' F' N' hJ
end
end Mine
end

section
open PySem PySem.W PySem.Calls PyProof.Rows Builtin Builtin.ObjectAttr
set_option Elab.async false
set_option maxRecDepth 100000
set_option linter.unusedVariables false
namespace Mine
theorem ga_canon2 : Manifest.canonical "object.__getattribute__" = "object.__getattribute__" := by decide +kernel
section
variable {prog : Program} {w : World} {A : Around} {E : Value → Shared → Prop} {s : Shared} {K : Frag} {x C L p : Addr} {h₀ : Heap} {m : Str → Option Value} {ox od : Obj} {name : Str} {v : Value} {i : Nat}
/-- a slot's value, called as a method: self.scopefunc() -/
theorem slotMethod {pl : Sem Bool} {Q : Value × List Value → Shared → Prop} (F : Fr h₀ L s.heap m) (X₀ : K.In h₀) (I : InstAt s.heap x ox C (some od)) (hg : plainGet K C name = true) (hc : isClsIn K C = true)
    (ha : findIn K (.ref C) name = some (some (.ref p))) (hn : specialIn K (.ref p) "__get__" = some (some (.builtin "member_descriptor.__get__"))) (ht : takesIn K (.ref p) = some true) (hp : slotIn K p C = some i) (hT : typeIn K (.ref p) = some (.type "member_descriptor"))
    (hv : (ox.slots[i]?).join = some v) (hh : handedIn v = true) (h : Q (v, []) { s with toks := s.toks + 1 }) : wpAny (model prog w) A (getMethod (.ref x) name pl) Q E s := by
  have X := X₀.keeps F.keep
  obtain ⟨g1, g2⟩ := plainGet_of hg
  unfold getMethod specialOf
  refine wpAny_bind (wpAny_bind (I.type.here ((looks_findIn X g1).here ?_)))
  dsimp only
  rw [ga_canon2, if_neg (by decide)]
  refine wpAny_bind (wpAny_bind (I.type.here ((looks_findIn X g2).here ?_)))
  refine wpAny_bind (wpAny_bind (I.type.here ((looks_findIn X ha).here ?_)))
  dsimp only
  refine wpAny_bind ((looks_typeIn X hT).here ?_)
  rw [if_pos (by decide)]
  exact wpAny_bind (get_slot F X₀ I hg hc ha hn ht hp hv hh (wpAny_pure h))
end
end Mine
end

section
open PySem PySem.W PySem.Spec PySem.Calls PyProof.Rows
set_option Elab.async false
set_option maxRecDepth 100000
set_option linter.unusedVariables false
namespace Mine
section
variable {prog : Program} {w : World} {A₀ : Around} {E : Value → Shared → Prop} {s' : Shared} {base g g₀ h : Heap} {outer : List Env} {L a e : Addr} {m : Str → Option Value} {name : Str} {scope : Scope} {cd : Value}
  {b₀ : Stmt} {suite : List Stmt} {pos np : Pos} {rest : List ExceptHandler} {Q : Flow → Shared → Prop} {news : List (Addr × Obj)} {KF : Frag}
  {p : Program} {loose : List Str} {mean : ExcName → Option Value} {mg mb : Str → Option Value} {x : Str} {X T' : String}

/-- an exception that the frame's own statement made, caught by that frame's own try: the frames around keep all but their marks -/
theorem caughtNew (hx : Heap.NewExc h s'.heap e X) (F : Fr g L h m) (N : News g L h news) (K : Below A₀ base outer g) (XB : KF.In base) (TB : Top p loose mean mg mb base) (T0 : KtsTurn (outer.filterMap (·.frame)) g₀ g)
    (ex : nsIn KF mainGlobals x = some none) (hv : bootBuiltins x = some (.type T')) (hn' : x ≠ "__name__")
    (hexc : isSubtype (.type T') (.type "BaseException") = pure true) (hnt : isSubtype (.type ((Manifest.find? T').elim "type" fun y => y.metatype)) (.type "tuple") = pure false) (hsub : isSubtype (.type X) (.type T') = pure true)
    (k : ∀ h' g', KtsTurn (outer.filterMap (·.frame)) g₀ g' → Fr g' L h' m → News g' L h' news → Below A₀ base outer g' → KF.In g' → Top p loose mean mg mb g' →
      wpAny (model prog w) ((A₀.deeper (envOf name scope L a cd)).mark (some (.ref e))) (execs (b₀ :: suite) (envOf name scope L a cd)) Q E { s' with heap := h' })
    (hk : scope.kind = .function := by rfl) (hxk : (envOf name scope L a cd).kindOf x = some .globalImplicit := by rfl) (hdb : (x == ("__debug__" : Str)) = false := by decide)
    (hE : PassesOwnAt (model prog w) ((A₀.deeper (envOf name scope L a cd)).mark (some (.ref e))) (A₀.deeper (envOf name scope L a cd)) (envOf name scope L a cd) E := by passes_own) :
    wpAny (model prog w) (A₀.deeper (envOf name scope L a cd)) (noteFrame (.ref e) (envOf name scope L a cd))
      (fun _ s₂ => wpAny (model prog w) (A₀.deeper (envOf name scope L a cd)) (setFlight (.ref e) none) (fun _ s₃ =>
        wpAny (model prog w) (A₀.deeper (envOf name scope L a cd)) (handleBy (.ref e) (envOf name scope L a cd) (.ExceptHandler (some (.Name x np)) none (b₀ :: suite) pos :: rest)) Q E s₃) E s₂) E s' := by
  have K' := K.push (name := name) (a := a) (cd := cd) F hk
  let fs := (envOf name scope L a cd :: outer).filterMap (·.frame)
  have mem : ∀ env ∈ (envOf name scope L a cd :: outer), ∀ b, env.frame = some b → b ∈ fs := fun env he b hb => List.mem_filterMap.mpr ⟨env, he, hb⟩
  have inFs : ∀ b, b ∈ fs → b = L ∨ b ∈ outer.filterMap (·.frame) := fun b hb => kts_mem hb
  have st : base.StaysIn (hideAll h fs) := fun b o q => hideAll_get _ (K'.stays b o q) fun hm => by
    rw [(K'.frames.mem hm).1] at q
    cases q
  have sg : ∀ b o, h.get? b = some o → b ∉ fs → (hideAll h fs).get? b = some o := fun b o q nm => hideAll_get _ q nm
  have offN : ∀ q ∈ news, q.1 ∉ fs := fun q hq hm => by
    rcases inFs _ hm with z | z
    · exact (N q hq).2.1 z
    · obtain ⟨_, o, ho, _⟩ := K.frames.mem z
      rw [(N q hq).2.2] at ho
      cases ho
  obtain ⟨ob, tp, he, hcls, hd⟩ := hx.there
  have hen : (hideAll h fs).get? e = none := by
    cases q : (hideAll h fs).get? e with
    | none => rfl
    | some o =>
      have z := of_hideAll _ q
      rw [hx.new] at z
      cases z
  have hLn : (hideAll h fs).get? L = none := by
    cases q : (hideAll h fs).get? L with
    | none => rfl
    | some o => exact absurd q (by rw [hideAll_none _ (mem _ (.head _) L rfl)]; intro z; cases z)
  unfold noteFrame
  simp only [show (envOf name scope L a cd).frame = some L from rfl]
  refine wpAny_bind (wpAny_field he hd (x := .none) rfl ?_)
  rw [if_neg (by decide)]
  refine wpAny_entryW (a0 := tp) K'.stack ((funFrames_hide K'.frames mem).of_keeps fun b o hb _ => ⟨o, hx.keeps b o hb, rfl⟩) rfl he (fun b o hb => hx.keeps b o (of_hideAll _ hb)) hen hd (by show 1 < 6; decide) rfl fun h₄ hN => ?_
  obtain ⟨k1, k2, k3, k4⟩ := hN
  have held₄ : Heap.HeldW (hideAll h fs) (envOf name scope L a cd :: outer) e (.type X) tp L h₄ := ⟨k1, hen, k2, by rw [← hcls]; exact k3⟩
  have sm₄ : h.UpToSlots h₄ := (Heap.UpToSlots.of_keeps hx.keeps).trans k4
  refine wpAny_landsW held₄ fun h₅ held₅ sm₅ => ?_
  obtain ⟨g₅, T₅, F₅, K₅⟩ := kts_ground (name := name) (scope := scope) (a := a) (cd := cd) K F sg held₅.1 (sm₄.trans sm₅)
  have P₅ : TopRead p loose mg mb g₅ := topRead_of (TB.keeps K₅.stays)
  obtain ⟨oh, hoh, hohc⟩ := held₅.there
  refine wpAny_handleBy_builtin (X := X) (T := T') (b := true) hexc hnt hsub (name_B F₅ (XB.keeps K₅.stays) P₅ ex hv hn' ⟨rfl, ⟨oh, hoh, hohc⟩, ?_⟩ hk hxk hdb)
  refine lands_againW held₅ fun h₆ fly₆ sm₆ => ?_
  obtain ⟨g₆, T₆, F₆, K₆⟩ := kts_ground (name := name) (scope := scope) (a := a) (cd := cd) K F sg fly₆.1 ((sm₄.trans sm₅).trans sm₆)
  have N₆ : News g₆ L h₆ news := fun q hq => ⟨fly₆.1 _ _ (sg _ _ (N q hq).1 (offN q hq)), (N q hq).2.1, T₆.none_ _ (N q hq).2.2⟩
  exact wpAny_passesOwnAt hE (k h₆ g₆ (T0.trans T₆) F₆ N₆ K₆ (XB.keeps K₆.stays) (TB.keeps K₆.stays))
end

section
variable {prog : Program} {w : World} {A₀ A : Around} {s : Shared} {base h₀ : Heap} {L : Addr} {m : Str → Option Value} {env : Env} {news : List (Addr × Obj)} {K : Frag} {p : Program} {loose : List Str} {mean : ExcName → Option Value} {mg mb : Str → Option Value}
    {R : Result → Shared → Prop} {name qual : Str} {params : Arguments} {body : List Stmt} {scope : Scope} {dV kV doc pm cdv ct oc : Value} {an od : Option Addr} {osl : Array (Option Value)} {f : Addr} {args : Args} {binds : List (Str × Value)}

/-- a def with a try of its own, called out of a frame that may have cells -/
theorem enterT (B : Below A₀ base [] h₀) (F : Fr h₀ L s.heap m) (X₀ : K.In h₀) (N : News h₀ L s.heap news) (T : Top p loose mean mg mb h₀) (hA : A.frames = some [env]) (hf : env.frame = some L) (hke : env.scope.kind = .function)
    (ho : K.lookup f = some ⟨oc, od, .func (fnOf name qual params body scope dV kV doc pm an cdv ct), osl⟩) (hcd : codeIn K cdv qual = true) (hroom : A.depth < recursionLimit)
    (hbind : BindsTo s (fnOf name qual params body scope dV kV doc pm an cdv ct) args binds) (hloc : ∀ y ∈ binds, scope.names.lookup y.1 = some .local)
    (h : ∀ g L' h₁, Fr h₀ L g m → Fr g L' h₁ (fun y => binds.reverse.lookup y) → News g L' h₁ news → Below A base [env] g → K.In g → Top p loose mean mg mb g →
      wpAny (model prog w) (A.deeper (envOf qual scope L' f cdv)) (execs body (envOf qual scope L' f cdv))
        (fun fl s' => LeaveS0 ([env].filterMap (·.frame)) h₀ L m g R (match fl with | .ret v => v | _ => .none) s')
        (fun e s' => wpAny (model prog w) (A.deeper (envOf qual scope L' f cdv)) (leaving (envOf qual scope L' f cdv) e) (fun _ s'' => R (.error e) s'') (fun e' s'' => R (.error e') s'') s')
        { s with heap := h₁, toks := s.toks + binds.length })
    (hco : scope.isCoroutine = false) (hgen : scope.isGenerator = false) (hk : scope.kind = .function)
    (hcell : ∀ x ∈ scope.names, x.2 ≠ .cell) : codeAny (model prog w) A (.call (.ref f) args) R s := by
  obtain ⟨FG, BG, st, _⟩ := groundX (R := R) B F N hA hf hke
  have X := X₀.keeps F.keep
  refine codeAny_call_def (fd := fnOf name qual params body scope dV kV doc pm an cdv ct) (body := body) (binds := binds) hroom (X _ _ ho) rfl (T.nolimit.keeps F.keep) (codeRec_of X hcd) rfl hbind hcell hloc (fun h₁ hns hk₁ => ?_) hco hgen hk
  refine wpAny_mono (h _ s.heap.objs.size h₁ FG ⟨hns, fun b o q => hk₁ b o (of_hideAll _ q), Nat.le_of_eq (hideAll_size _ _)⟩
    (fun q hq => ⟨hk₁ _ _ (N q hq).1, Nat.ne_of_lt (Heap.lt_size (N q hq).1), hideAll_none _ (List.mem_map_of_mem hq)⟩) BG (X₀.keeps st) (T.keeps st)) (fun fl s' hl => ?_) fun _ _ y => y
  obtain ⟨g', L', m', news', T', F', N', k⟩ := hl
  obtain ⟨oL, es, ep, hL, hLd, hLk, hLf⟩ := FG.ns
  obtain ⟨sl, hs⟩ := T'.up hL
  have one : ∀ b, b ∈ [env].filterMap (·.frame) → b = L := fun b hb => by
    obtain ⟨env', he', hf'⟩ := List.mem_filterMap.mp hb
    rw [List.mem_singleton.mp he', hf] at hf'
    exact (Option.some.inj hf').symm
  refine k ⟨⟨_, es, ep, F'.keep _ _ hs, hLd, hLk, hLf⟩, fun b o q => F'.keep b o (T'.other b o (st b o q) fun hb => ?_), F.above⟩ fun q hq => ⟨(N' q hq).1, fun z => ?_, ?_⟩
  · rw [one b hb, kts_self F] at q
    cases q
  · have y := (N' q hq).2.2
    rw [z, hs] at y
    cases y
  · cases z : h₀.get? q.1 with
    | none => rfl
    | some o =>
      obtain ⟨sl', hs'⟩ := T'.up (st _ _ z)
      have y := (N' q hq).2.2
      rw [hs'] at y
      cases y
end
end Mine
end

section
open PySem PySem.W PySem.Calls PyProof.Rows PyProof.V PySem.Spec
set_option Elab.async false
set_option maxRecDepth 100000
set_option linter.unusedVariables false
namespace Mine

/-- the walking over a dict's items, its place kept by an object; own: the tuple that it handed out last -/
abbrev ItAt (h : Heap) (it d : Addr) (i n ep : Nat) (own : Value) (f : Bool) (ok ov : Value) : Prop :=
  h.get? it = some { cls := .type "dict_itemiterator", dict := none, data := .fields #[own, .bool f, .ref d, .int i 0, .int n 0, .int ep 0, ok, ov], slots := #[] }
def OwnAt (h : Heap) (it S : Addr) (own : Value) : Prop := own = .none ∨ ∃ (a : Addr) (oa : Obj), own = rawInt a ∧ h.get? a = some oa ∧ a ≠ it ∧ a ≠ S
def ItSt (h : Heap) (it d S : Addr) (i n ep : Nat) : Prop := ∃ own f ok ov, ItAt h it d i n ep own f ok ov ∧ OwnAt h it S own
theorem ItSt.keep {h h' : Heap} {it d S : Addr} {i n ep : Nat} (x : ItSt h it d S i n ep) (hk : ∀ b o, b ≠ S → h.get? b = some o → h'.get? b = some o) (hI : it ≠ S) : ItSt h' it d S i n ep := by
  obtain ⟨own, f, ok, ov, hit, rfl | ⟨a, oa, rfl, ha, h1, h2⟩⟩ := x
  · exact ⟨_, f, ok, ov, hk _ _ hI hit, .inl rfl⟩
  · exact ⟨_, f, ok, ov, hk _ _ hI hit, .inr ⟨a, oa, rfl, hk _ _ h2 ha, h1, h2⟩⟩

section
variable {prog : Program} {w : World} {A : Around} {E : Value → Shared → Prop} {s : Shared} {it d S : Addr} {es : Array DictEntry} {ep i : Nat} {od : Obj}

theorem itemStep {e : DictEntry} {Q : Option Value → Shared → Prop} (hst : ItSt s.heap it d S i es.size ep) (hS : S < s.heap.objs.size) (hod : s.heap.get? d = some od) (hdd : od.data = .dict es ep) (hx : es[i]? = some e)
    (hQ : ∀ h', ItSt h' it d S (i + 1) es.size ep → h'.get? s.heap.objs.size = some { cls := .type "tuple", data := .seq #[e.key, e.val] } → h'.objs.size = s.heap.objs.size + 1 →
      (∀ b o, b ≠ it → s.heap.get? b = some o → h'.get? b = some o) → Q (some (.ref s.heap.objs.size)) { s with heap := h' }) :
    wpAny (model prog w) A (pyNext (.ref it)) Q E s := by
  obtain ⟨hp, g, dr, tk, os⟩ := s
  obtain ⟨own, f, ok, ov, hit, hown⟩ := hst
  have hT : Shared.TypeIs ⟨hp, g, dr, tk, os⟩ (.ref it) "dict_itemiterator" := ⟨_, hit, rfl⟩
  have hlt : i < es.size := (Array.getElem?_eq_some_iff.mp hx).1
  have owns : Builtin.Dict_items.ownsTuple "dict_itemiterator" = true := by decide
  unfold pyNext
  refine wpAny_bind (wpAny_attempt (wpAny_callSpecial?_slot (name := Str.ofString "__next__") hT PySem.F.slot_dict_itemiterator_next
    (wpAny_call_entry PySem.F.slot_dict_itemiterator_next hT PySem.F.entry_dict_itemiterator_next ?_ (PySem.F.args_dict_itemiterator_next_1 _))))
  refine wpAny_bind (wpAny_pure (wpAny_bind (wpAny_bind ?_)))
  first | refine wpAny_bind (wpAny_typeNameOfWhole_itemiter hT (wpAny_pure ?_)) | refine wpAny_bind (wpAny_typeNameOf_itemiter hT (wpAny_pure ?_))
  refine wpAny_bind (wpAny_fieldsOf hit rfl ?_)
  simp only [owns, if_true]
  show wpAny _ _ (if (Value.ref d == Value.none) = true then _ else _) _ _ _
  rw [if_neg (show ¬ ((Value.ref d == Value.none) = true) from Bool.false_ne_true)]
  refine wpAny_bind (wpAny_pure (wpAny_bind (wpAny_dictEntries hod hdd ?_)))
  rw [if_neg (by simp)]
  refine wpAny_bind (wpAny_pure (wpAny_bind (wpAny_dictEpoch hod hdd ?_)))
  rw [if_neg (by simp)]
  refine wpAny_pure ?_
  simp only [show ¬ ((i : Int) < 0) from by omega, if_false, Int.toNat_natCast, hx]
  refine wpAny_bind ?_
  first | refine wpAny_bind (wpAny_typeNameOfWhole_itemiter hT (wpAny_pure ?_)) | refine wpAny_bind (wpAny_typeNameOf_itemiter hT (wpAny_pure ?_))
  refine wpAny_bind (wpAny_isOneOf_itemiter hT ?_)
  show wpAny _ _ (setField (.ref it) 3 (rawInt ((i : Int) + 1)) >>= _) _ _ ⟨hp, g, dr, tk, os⟩
  refine wpAny_bind (wpAny_setField_rec hit (by simp) fun h₁ he₁ hs₁ => ?_)
  replace hs₁ : Heap.SameBut it hp h₁ := hs₁
  replace he₁ : ItAt h₁ it d (i + 1) es.size ep own f ok ov := by
    have e : ((i + 1 : Nat) : Int) = (i : Int) + 1 := by omega
    unfold ItAt
    rw [e]
    simpa [rawInt] using he₁
  have hT₁ : Shared.TypeIs ⟨h₁, g, dr, tk, os⟩ (.ref it) "dict_itemiterator" := ⟨_, he₁, rfl⟩
  refine wpAny_bind (wpAny_holding (wpAny_bind (wpAny_isOneOf_itemiter hT₁ (wpAny_bind (wpAny_isOneOf_itemiter hT₁ ?_)))))
  show wpAny _ _ (Builtin.Dict_items.pairFromOwner (.ref it) 6 e.key e.val) _ _ ⟨h₁, g, dr, tk, os⟩
  unfold Builtin.Dict_items.pairFromOwner
  refine wpAny_bind (wpAny_newTuple ?_)
  have he₂ : ItAt (h₁.push { cls := .type "tuple", data := .seq #[e.key, e.val] }) it d (i + 1) es.size ep own f ok ov := Heap.get?_push_of_some _ he₁
  generalize hh₂ : h₁.push { cls := .type "tuple", data := .seq #[e.key, e.val] } = h₂ at he₂
  have hz₁ : h₁.objs.size = hp.objs.size := hs₁.1
  have hil : it < hp.objs.size := Heap.lt_size hit
  have ht₂ : h₂.get? hp.objs.size = some { cls := .type "tuple", data := .seq #[e.key, e.val] } := by rw [← hh₂, ← hz₁]; exact Heap.get?_push_size _ rfl
  have hz₂ : h₂.objs.size = hp.objs.size + 1 := by rw [← hh₂, Heap.size_push, hz₁]
  have hk₂ : ∀ b o, b ≠ it → hp.get? b = some o → h₂.get? b = some o := fun b o hb q => by rw [← hh₂]; exact Heap.get?_push_of_some _ (hs₁.extBut b o hb q)
  show wpAny _ _ (Builtin.Dict_items.ownedTupleIsFree (.ref it) >>= _) _ _ ⟨h₂, g, dr, tk, os⟩
  rw [hz₁]
  clear hh₂ he₁ hs₁ hT₁ hz₁ h₁
  have hSz : S ≠ hp.objs.size := Nat.ne_of_lt hS
  have fin : ∀ (h₃ : Heap) (own' : Value) (f' : Bool) (ok' ov' : Value), ItAt h₃ it d (i + 1) es.size ep own' f' ok' ov' → Heap.SameBut it h₂ h₃ → OwnAt h₃ it S own' → Q (some (.ref hp.objs.size)) ⟨h₃, g, dr, tk, os⟩ := fun h₃ own' f' ok' ov' he₃ hs₃ ho =>
    hQ h₃ ⟨_, _, _, _, he₃, ho⟩ (hs₃.extBut _ _ (Nat.ne_of_gt hil) ht₂) (by show h₃.objs.size = hp.objs.size + 1; rw [hs₃.1, hz₂]) fun b o hb q => hs₃.extBut b o hb (hk₂ b o hb q)
  refine wpAny_bind ?_
  unfold Builtin.Dict_items.ownedTupleIsFree
  rcases hown with rfl | ⟨a, oa, rfl, ha, hai, haS⟩
  · refine wpAny_bind (wpAny_field he₂ rfl (x := .none) rfl (wpAny_pure ?_))
    simp only [if_true]
    refine wpAny_bind (wpAny_field he₂ rfl (x := ok) rfl (wpAny_bind (wpAny_field he₂ rfl (x := ov) rfl ?_)))
    refine wpAny_bind (wpAny_setField_rec he₂ (by simp) fun h₃ he₃ hs₃ => ?_)
    replace hs₃ : Heap.SameBut it h₂ h₃ := hs₃
    refine wpAny_bind (wpAny_setField_rec he₃ (by simp) fun h₄ he₄ hs₄ => ?_)
    replace hs₄ : Heap.SameBut it h₃ h₄ := hs₄
    refine wpAny_bind (wpAny_setField_rec he₄ (by simp) fun h₅ he₅ hs₅ => ?_)
    replace hs₅ : Heap.SameBut it h₄ h₅ := hs₅
    refine wpAny_bind (wpAny_setField_rec he₅ (by simp) fun h₆ he₆ hs₆ => ?_)
    replace hs₆ : Heap.SameBut it h₅ h₆ := hs₆
    have hs : Heap.SameBut it h₂ h₆ := ((hs₃.trans hs₄).trans hs₅).trans hs₆
    replace he₆ : ItAt h₆ it d (i + 1) es.size ep (rawInt hp.objs.size) false e.key e.val := he₆
    exact wpAny_bind (wpAny_letGo (wpAny_pure (wpAny_pure ⟨_, rfl, wpAny_pure (fin h₆ _ _ _ _ he₆ hs (.inr ⟨_, _, rfl, hs.extBut _ _ (Nat.ne_of_gt hil) ht₂, Nat.ne_of_gt hil, Ne.symm hSz⟩))⟩)))
  · have ha₂ := hk₂ a oa hai ha
    refine wpAny_bind (wpAny_field he₂ rfl (x := rawInt a) rfl ?_)
    show wpAny _ _ (loadIfAlive ((a : Int).toNat) >>= _) _ _ _
    rw [Int.toNat_natCast]
    refine wpAny_bind (kdx_alive ha₂ ?_)
    simp only [Option.isNone_some, Bool.false_eq_true, if_false]
    refine wpAny_bind (wpAny_field he₂ rfl (x := .bool f) rfl ?_)
    cases f with
    | true =>
      rw [if_neg (show ¬ ((Value.bool true != Value.bool true) = true) from Bool.false_ne_true)]
      refine wpAny_pure ?_
      simp only [Bool.false_eq_true, if_false]
      exact wpAny_pure (wpAny_pure ⟨_, rfl, wpAny_pure (fin h₂ _ _ _ _ he₂ (Heap.SameBut.refl _ _) (.inr ⟨a, oa, rfl, ha₂, hai, haS⟩))⟩)
    | false =>
      rw [if_pos (show (Value.bool false != Value.bool true) = true from rfl)]
      refine wpAny_bind (wpAny_setField_rec he₂ (by simp) fun h₃ he₃ hs₃ => ?_)
      replace hs₃ : Heap.SameBut it h₂ h₃ := hs₃
      replace he₃ : ItAt h₃ it d (i + 1) es.size ep (rawInt a) true ok ov := he₃
      refine wpAny_pure ?_
      simp only [Bool.false_eq_true, if_false]
      exact wpAny_pure (wpAny_pure ⟨_, rfl, wpAny_pure (fin h₃ _ _ _ _ he₃ hs₃ (.inr ⟨a, oa, rfl, hs₃.extBut _ _ hai ha₂, hai, haS⟩))⟩)

theorem itemEnd {Q : Option Value → Shared → Prop} (hh : A.handled = none) (hst : ItSt s.heap it d S es.size es.size ep) (hod : s.heap.get? d = some od) (hdd : od.data = .dict es ep)
    (hQ : ∀ h', Heap.ExtBut it s.heap h' → Q none { s with heap := h' }) : wpAny (model prog w) A (pyNext (.ref it)) Q E s := by
  obtain ⟨own, f, ok, ov, hit, _⟩ := hst
  have hT : s.TypeIs (.ref it) "dict_itemiterator" := ⟨_, hit, rfl⟩
  have owns : Builtin.Dict_items.ownsTuple "dict_itemiterator" = true := by decide
  unfold pyNext
  refine wpAny_bind (wpAny_attempt (wpAny_callSpecial?_slot (name := Str.ofString "__next__") hT PySem.F.slot_dict_itemiterator_next
    (wpAny_call_entry PySem.F.slot_dict_itemiterator_next hT PySem.F.entry_dict_itemiterator_next ?_ (PySem.F.args_dict_itemiterator_next_1 _))))
  refine wpAny_bind (wpAny_pure (wpAny_bind (wpAny_bind ?_)))
  first | refine wpAny_bind (wpAny_typeNameOfWhole_itemiter hT (wpAny_pure ?_)) | refine wpAny_bind (wpAny_typeNameOf_itemiter hT (wpAny_pure ?_))
  refine wpAny_bind (wpAny_fieldsOf hit rfl ?_)
  simp only [owns, if_true]
  show wpAny _ _ (if (Value.ref d == Value.none) = true then _ else _) _ _ s
  rw [if_neg (show ¬ ((Value.ref d == Value.none) = true) from Bool.false_ne_true)]
  refine wpAny_bind (wpAny_pure (wpAny_bind (wpAny_dictEntries hod hdd ?_)))
  rw [if_neg (by simp)]
  refine wpAny_bind (wpAny_pure (wpAny_bind (wpAny_dictEpoch hod hdd ?_)))
  rw [if_neg (by simp)]
  refine wpAny_pure ?_
  simp only [show ¬ ((es.size : Int) < 0) from by omega, if_false, Int.toNat_natCast, Array.getElem?_eq_none (Nat.le_refl es.size)]
  refine wpAny_bind ?_
  first | refine wpAny_bind (wpAny_typeNameOfWhole_itemiter hT (wpAny_pure ?_)) | refine wpAny_bind (wpAny_typeNameOf_itemiter hT (wpAny_pure ?_))
  show wpAny _ _ (setField (.ref it) 2 .none >>= _) _ _ s
  refine wpAny_bind (wpAny_setField hit rfl (by simp) ?_)
  show wpAny _ _ (newExc (.type "StopIteration") [] >>= _) _ _ _
  refine wpAny_bind ?_
  simp only [newExc, newTuple]
  refine wpAny_bind (wpAny_newObj_type ?_ (by size_fits))
  refine wpAny_bind (m := firstArgMember _ _) (wpAny_of_eq (a := Value.none) (by first | rfl | (simp only [firstArgMember]; rfl)) ?_)
  refine wpAny_newObj_type ?_ (by size_fits)
  simp only [raiseNew]
  refine wpAny_bind (wpAny_handled ?_)
  rw [hh]
  refine wpAny_bind (wpAny_pure (wpAny_throw ?_))
  refine wpAny_bind (wpAny_isInstance (T := "StopIteration") (b := true) ⟨_, Heap.get?_push_size _ rfl, rfl⟩ isSubtype_stop ?_)
  exact wpAny_pure (hQ _ (((Heap.SameBut.update ..).extBut.push _).push _))
end

/-- what has been gathered: each a tuple of the entry at its place -/
structure Got (es : Array DictEntry) (lo : Addr) (h : Heap) (as : List Addr) : Prop where
  above : ∀ a ∈ as, lo < a
  each : ∀ (j : Nat) (a : Addr), as[j]? = some a → ∃ e, es[j]? = some e ∧ h.get? a = some { cls := .type "tuple", data := .seq #[e.key, e.val] }

section
variable {prog : Program} {w : World} {A : Around} {s : Shared} {R : Result → Shared → Prop} {es : Array DictEntry} {ep : Nat} {od : Obj}
theorem itemLoop {S I d : Addr} (hh : A.handled = none) (hSI : S < I) (hSd : d ≠ S) (hId : d ≠ I) (hdd : od.data = .dict es ep) (hn : es.size ≤ 1000) (res : Value) {h₁ : Heap}
    (hR : ∀ h' tk acc c as, (∀ b o, b ≠ S → b ≠ I → h₁.get? b = some o → h'.get? b = some o) → h'.get? S = some { cls := .type "list", dict := none, data := .seq acc c, slots := #[] } → as.length = es.size → Got es I h' as →
      acc.toList = as.map Value.ref → R (.ok (.ret res)) { s with heap := h', toks := tk }) :
    ∀ (k i : Nat) (h : Heap) (tk c : Nat) (acc : Array Value) (as : List Addr), es.size - i = k → i ≤ es.size → ItSt h I d S i es.size ep → h.get? d = some od → (∀ b o, b ≠ S → b ≠ I → h₁.get? b = some o → h.get? b = some o) →
      h.get? S = some { cls := .type "list", dict := none, data := .seq acc c, slots := #[] } → acc.toList = as.map Value.ref → as.length = i → Got es I h as → I < h.objs.size →
      codeAny (model prog w) A (.builtin "list.extend.loop" ⟨[.ref S, .ref I, res], []⟩) R { s with heap := h, toks := tk } := by
  have hne : S ≠ I := Nat.ne_of_lt hSI
  intro k
  induction k with
  | zero =>
    intro i h tk c acc as hk hi hst hD hkeep hS hacc hal hG hIs
    have hin : i = es.size := by omega
    subst hin
    refine codeAny_builtin PySem.F.entry_extend_loop ?_
    rw [Around.under_plainId PySem.F.plain_extend_loop _]
    show wpAny _ A.in1 (pyNext (.ref I) >>= _) _ _ _
    refine wpAny_bind (itemEnd (s := { s with heap := h, toks := tk }) (A := A.in1) hh hst hD hdd fun h' he => ?_)
    refine wpAny_pure (hR h' tk acc c as (fun b o h1 h2 e => he b o h2 (hkeep b o h1 h2 e)) (he S _ hne hS) hal ⟨hG.above, fun j a hj => ?_⟩ hacc)
    obtain ⟨e, e1, e2⟩ := hG.each j a hj
    exact ⟨e, e1, he a _ (Nat.ne_of_gt (hG.above a (List.mem_of_getElem? hj))) e2⟩
  | succ k ih =>
    intro i h tk c acc as hk hi hst hD hkeep hS hacc hal hG hIs
    have hlt : i < es.size := by omega
    have hsz : acc.size = i := by rw [← Array.length_toList, hacc, List.length_map, hal]
    have hSl : S < h.objs.size := Heap.lt_size hS
    refine codeAny_builtin PySem.F.entry_extend_loop ?_
    rw [Around.under_plainId PySem.F.plain_extend_loop _]
    show wpAny _ A.in1 (pyNext (.ref I) >>= _) _ _ _
    refine wpAny_bind (itemStep (s := { s with heap := h, toks := tk }) hst hSl hD hdd (Array.getElem?_eq_getElem hlt) fun h' hst' ht hz hkp => ?_)
    dsimp only at ht hz hkp ⊢
    have hS' := hkp S _ hne hS
    have up : ∀ b o, b ≠ S → h'.get? b = some o → (h'.update S (Obj.mapSeq (·.push (Value.ref h.objs.size)))).get? b = some o := fun b o hb e => (Heap.get?_update_other _ _ (Ne.symm hb)).trans e
    have hnew := up _ _ (Nat.ne_of_gt hSl) ht
    have big : (1000 : Nat) < sizeLine := by rw [sizeLine_eq]; exact Nat.le_of_ble_eq_true rfl
    show wpAny _ A.in1 (updateSeq S (·.push (Value.ref h.objs.size)) >>= _) _ _ _
    refine wpAny_bind ?_
    refine wpAny_updateSeq hS' rfl (wpAny_pure ⟨plainId_quiet PySem.F.plain_extend_loop _, ih (i + 1) _ tk _ (acc.push (Value.ref h.objs.size)) (as ++ [h.objs.size]) (by omega) hlt (hst'.keep up (Ne.symm hne)) (up d _ hSd (hkp d _ hId hD))
      (fun b o h1 h2 e => up b o h1 (hkp b o h2 (hkeep b o h1 h2 e))) (Heap.get?_update_self _ hS' rfl) (by rw [Array.toList_push, hacc, List.map_append]; rfl) (by rw [List.length_append, hal]; rfl) ⟨?_, ?_⟩ (Nat.lt_trans hIs (Heap.lt_size hnew))⟩) (by rw [hsz]; omega) (by show (acc.push (Value.ref h.objs.size)).size ≤ sizeLine + 1; rw [Array.size_push, hsz]; omega)
    · intro a ha
      rcases List.mem_append.mp ha with ha | ha
      · exact hG.above a ha
      · rw [List.mem_singleton.mp ha]; exact hIs
    · intro j b hj
      rcases Nat.lt_trichotomy j as.length with h1 | h1 | h1
      · rw [List.getElem?_append_left h1] at hj
        obtain ⟨e, e1, e2⟩ := hG.each j b hj
        have hb := hG.above b (List.mem_of_getElem? hj)
        exact ⟨e, e1, up b _ (Nat.ne_of_gt (Nat.lt_trans hSI hb)) (hkp b _ (Nat.ne_of_gt hb) e2)⟩
      · subst h1
        have hb : h.objs.size = b := by simpa using hj
        subst hb
        exact ⟨es[i], by rw [hal]; exact Array.getElem?_eq_getElem hlt, hnew⟩
      · have hnone : (as ++ [h.objs.size])[j]? = none := List.getElem?_eq_none (by rw [List.length_append, List.length_singleton]; omega)
        rw [hnone] at hj
        cases hj

/-- iter() of the view -/
theorem itemIter {E : Value → Shared → Prop} {v d : Addr} {Q : Value → Shared → Prop} (hv : s.heap.IsItemsView v d) (hod : s.heap.get? d = some od) (hdd : od.data = .dict es ep)
    (hQ : Q (.ref s.heap.objs.size) { s with heap := s.heap.push { cls := .type "dict_itemiterator", data := .fields #[.none, .bool false, .ref d, .int 0 0, .int es.size 0, .int ep 0, .none, .none] } }) :
    wpAny (model prog w) A (pyIter (.ref v)) Q E s := by
  obtain ⟨ov, hov, hcv, hdv⟩ := id hv
  have owns : Builtin.Dict_items.ownsTuple "dict_itemiterator" = true := by decide
  refine wpAny_pyIter_slot hv.typeIs PySem.F.slot_dict_items_iter (wpAny_call_entry PySem.F.slot_dict_items_iter hv.typeIs PySem.F.entry_dict_items_iter ?_ (PySem.F.args_dict_items_iter_1 _))
  unfold Builtin.«dict_items.__iter__»
  refine wpAny_bind (wpAny_pure (wpAny_bind ?_))
  unfold Builtin.Dict_items.dictOf
  refine wpAny_bind (wpAny_field hov hdv (x := .ref d) rfl (wpAny_pure (wpAny_bind ?_)))
  unfold Builtin.Dict_items.newIterator
  refine wpAny_bind (wpAny_dictEntries hod hdd (wpAny_bind (wpAny_dictEpoch hod hdd ?_)))
  simp only [owns, if_true]
  refine wpAny_newObj_type (wpAny_pure ⟨_, rfl, "dict_itemiterator", _, ⟨_, Heap.get?_push_size _ rfl, rfl⟩, PySem.F.slot_dict_itemiterator_next.lookup, ?_⟩)
    (by simp only [sizeOk, Builtin.Dict_items.ownedTupleFields, List.size_toArray, List.length_append, List.length_cons, List.length_nil, sizeLine_eq]; omega)
  simpa [rawInt, Builtin.Dict_items.ownedTupleFields] using hQ

theorem itemExtend {r d S : Addr} (hh : A.handled = none) (hv : s.heap.IsItemsView r d) (hod : s.heap.get? d = some od) (hdd : od.data = .dict es ep) (hn : es.size ≤ 1000) (hSr : S ≠ r) (hSd : d ≠ S) (res : Value) (c₀ : Nat) (hS : s.heap.get? S = some { cls := .type "list", data := .seq #[] c₀ })
    (hR : ∀ h' tk acc c as, (∀ b o, b ≠ S → s.heap.get? b = some o → h'.get? b = some o) → h'.get? S = some { cls := .type "list", dict := none, data := .seq acc c, slots := #[] } → as.length = es.size → Got es s.heap.objs.size h' as →
      acc.toList = as.map Value.ref → R (.ok (.ret res)) { s with heap := h', toks := tk }) :
    wpAny (model prog w) A.in1 (Builtin.List.listExtendWith (.ref S) (.ref r) res)
      (fun fin s' => match fin with | .done f => R (.ok f) s' | .again c' => c'.quiet = true ∧ codeAny (model prog w) A c' R s') (fun e s' => R (.error e) s') s := by
  have hSI : S < s.heap.objs.size := Heap.lt_size hS
  have hdI : d < s.heap.objs.size := Heap.lt_size hod
  have key : ∀ (h : Heap) (c₁ tk : Nat), (∀ b o, b ≠ S → (s.heap.push { cls := .type "dict_itemiterator", data := .fields #[.none, .bool false, .ref d, .int 0 0, .int es.size 0, .int ep 0, .none, .none] }).get? b = some o → h.get? b = some o) →
      h.get? S = some { cls := .type "list", data := .seq #[] c₁ } → codeAny (model prog w) A (.builtin "list.extend.loop" ⟨[.ref S, .ref s.heap.objs.size, res], []⟩) R { s with heap := h, toks := tk } := by
    intro h c₁ tk hk hS₁
    have hI := hk s.heap.objs.size _ (Nat.ne_of_gt hSI) (Heap.get?_push_size _ rfl)
    exact itemLoop (es := es) (ep := ep) (s := s) (h₁ := s.heap) hh hSI hSd (Nat.ne_of_lt hdI) hdd hn res (fun h' tk' acc c as hk' hS' hl hG hacc => hR h' tk' acc c as (fun b o hb e => hk' b o hb (Nat.ne_of_lt (Heap.lt_size e)) e) hS' hl hG hacc)
      es.size 0 h tk c₁ #[] [] (Nat.sub_zero _) (Nat.zero_le _) ⟨.none, false, .none, .none, hI, .inl rfl⟩ (hk d _ hSd (Heap.get?_push_of_some _ hod)) (fun b o hb _ e => hk b o hb (Heap.get?_push_of_some _ e)) hS₁ rfl rfl
      ⟨(fun _ ha => nomatch ha), (fun j a hj => by simp at hj)⟩ (Heap.lt_size hI)
  unfold Builtin.List.listExtendWith
  refine wpAny_bind (wpAny_typeOf (T := "dict_items") hv.typeIs ?_)
  have h1 : Builtin.List.listSameRef (.ref S) (.ref r) = false := by simp [Builtin.List.listSameRef, hSr]
  have h2 : (Value.type "dict_items" == Value.type "list") = false := by decide
  have h3 : (Value.type "dict_items" == Value.type "tuple") = false := by decide
  simp only [h1, h2, h3, Bool.or_false, Bool.false_eq_true, if_false]
  refine wpAny_bind (itemIter hv hod hdd ?_)
  have hS₁ := Heap.get?_push_of_some { cls := .type "dict_itemiterator", data := .fields #[.none, .bool false, .ref d, .int 0 0, .int es.size 0, .int ep 0, .none, .none] } hS
  refine wpAny_bind (wpAny_holding (kdx_hint (let ⟨o, ho, hc, _⟩ := hv; ⟨o, Heap.get?_push_of_some _ ho, hc⟩) ?_))
  refine wpAny_ite_split (fun _ => ?_) (fun _ => wpAny_pure ⟨plainId_quiet PySem.F.plain_extend_loop _, key _ c₀ _ (fun b o _ e => e) hS₁⟩)
  refine wpAny_bind (wpAny_rule (wpAny_bind ?_))
  show wpAny _ _ (updateSeq S (·.push .none) >>= fun _ => updateSeq S (·.pop)) _ _ _
  refine wpAny_bind (wpAny_updateSeq hS₁ rfl ?_)
  have hS₂ := Heap.get?_update_self (Obj.mapSeq (·.push Value.none)) hS₁ rfl
  refine wpAny_updateSeq (hz := by seq_fits) hS₂ rfl ?_
  have hS₃ := Heap.get?_update_self (Obj.mapSeq (·.pop)) hS₂ rfl
  refine wpAny_pure ⟨plainId_quiet PySem.F.plain_extend_loop _, key _ _ _ (fun b o hb e => ?_) hS₃⟩
  exact (Heap.get?_update_other _ _ (Ne.symm hb)).trans ((Heap.get?_update_other _ _ (Ne.symm hb)).trans e)

/-- list(view) -/
theorem itemList {E : Value → Shared → Prop} {r d : Addr} {Q : Value → Shared → Prop} (hh : A.handled = none) (hv : s.heap.IsItemsView r d) (hod : s.heap.get? d = some od) (hdd : od.data = .dict es ep) (hn : es.size ≤ 1000)
    (hQ : ∀ h' tk acc c as, (∀ b o, s.heap.get? b = some o → h'.get? b = some o) → h'.get? s.heap.objs.size = some { cls := .type "list", dict := none, data := .seq acc c, slots := #[] } → as.length = es.size → Got es s.heap.objs.size h' as →
      acc.toList = as.map Value.ref → Q (.ref s.heap.objs.size) { s with heap := h', toks := tk }) :
    wpAny (model prog w) A (call (.type "list") [.ref r]) Q E s := by
  refine callType_codes (Q₁ := fun obj s₁ => obj = .ref s.heap.objs.size ∧ s₁ = { s with heap := s.heap.push { cls := .type "list", data := .seq #[] } }) PySem.F.called_list (PySem.F.typeCall_list_1 _) PySem.F.entry_list_init
    (code_list_new _ ⟨rfl, rfl⟩) fun obj s₁ h₁ => ?_
  obtain ⟨rfl, rfl⟩ := h₁
  have hS : (s.heap.push { cls := .type "list", data := .seq #[] }).get? s.heap.objs.size = some { cls := .type "list", data := .seq #[] } := Heap.get?_push_size _ rfl
  have hr : r < s.heap.objs.size := let ⟨_, ho, _⟩ := hv; Heap.lt_size ho
  have hd : d < s.heap.objs.size := Heap.lt_size hod
  refine ⟨⟨_, hS, rfl⟩, PySem.F.args_list_init_2 _ _, ?_⟩
  show wpAny _ _ (do let old ← Builtin.List.listItems (.ref s.heap.objs.size); Builtin.List.listUpdate (.ref s.heap.objs.size) (fun _ => #[]); letGo old.toList.reverse; Builtin.List.listExtendWith (.ref s.heap.objs.size) (.ref r) .none) _ _ _
  refine wpAny_bind ?_
  unfold Builtin.List.listItems
  refine wpAny_bind (wpAny_seqItems hS rfl (wpAny_pure ?_))
  show wpAny _ _ (updateSeq s.heap.objs.size (fun _ => #[]) >>= fun _ => letGo (#[] : Array Value).toList.reverse >>= fun _ => Builtin.List.listExtendWith (.ref s.heap.objs.size) (.ref r) .none) _ _ _
  refine wpAny_bind (wpAny_updateSeq hS rfl ?_)
  have hS₂ := Heap.get?_update_self (Obj.mapSeq (fun _ => (#[] : Array Value))) hS rfl
  have oth : ∀ b o, s.heap.get? b = some o → ((s.heap.push { cls := .type "list", data := .seq #[] }).update s.heap.objs.size (Obj.mapSeq (fun _ => (#[] : Array Value)))).get? b = some o :=
    fun b o e => (Heap.get?_update_other _ _ (Nat.ne_of_gt (Heap.lt_size e))).trans (Heap.get?_push_of_some _ e)
  obtain ⟨c₀, hS₃⟩ : ∃ c, ((s.heap.push { cls := .type "list", data := .seq #[] }).update s.heap.objs.size (Obj.mapSeq (fun _ => (#[] : Array Value)))).get? s.heap.objs.size = some { cls := .type "list", data := .seq #[] c } := ⟨_, hS₂⟩
  refine wpAny_bind (wpAny_letGo ?_)
  refine itemExtend (prog := prog) (w := w) (A := A.in1) (R := wants (fun r s₂ => r = Value.none ∧ Q (.ref s.heap.objs.size) s₂) E) (s := ⟨(s.heap.push { cls := .type "list", data := .seq #[] }).update s.heap.objs.size (Obj.mapSeq (fun _ => (#[] : Array Value))), _, _, _, _⟩) hh (let ⟨o, ho, x⟩ := hv; ⟨o, oth r o ho, x⟩) (oth d od hod) hdd hn (Nat.ne_of_gt hr) (Nat.ne_of_lt hd) .none _ hS₃ (fun h' tk acc c as hk hS' hl hG hacc => ?_)
  exact ⟨rfl, hQ h' tk acc c as (fun b o e => hk b o (Nat.ne_of_lt (Heap.lt_size e)) (oth b o e)) hS' hl ⟨fun a ha => Nat.lt_trans (Heap.lt_size hS₃) (hG.above a ha), hG.each⟩ hacc⟩
end
end Mine
end

section
open PySem PySem.W PySem.Calls PyProof.Rows
set_option Elab.async false
set_option maxRecDepth 100000
set_option linter.unusedVariables false
namespace Mine

abbrev PRG : Program := PySem.Challenge.rw_eu0027_01.row.prog
def lawBody : List Stmt := match PySem.Challenge.pw_eu0027_01.main.body with
  | [_, _, _, _, _, .FunctionDef _ _ b _ _ _ _ _ _ _] => b
  | _ => []
def scope0 : Scope := { kind := .function, names := [], isGenerator := false, isCoroutine := false }
def lawScope : Scope := match PySem.Challenge.pw_eu0027_01.main.body with
  | [_, _, _, _, _, .FunctionDef _ _ _ _ _ _ sc _ _ _] => sc
  | _ => scope0
def args0 : Arguments := { posonlyargs := [], args := [], vararg := none, kwonlyargs := [], kw_defaults := [], kwarg := none, defaults := [] }
def defArgs : Stmt → Arguments
  | .FunctionDef _ a _ _ _ _ _ _ _ _ => a
  | _ => args0
def defBody : Stmt → List Stmt
  | .FunctionDef _ _ b _ _ _ _ _ _ _ => b
  | _ => []
def defScope : Stmt → Scope
  | .FunctionDef _ _ _ _ _ _ sc _ _ _ => sc
  | _ => scope0
def forBody : Stmt → List Stmt
  | .For _ _ b _ _ => b
  | _ => []
def pick (n : Nat) : List Stmt → Stmt
  | [] => .Pass ⟨0, 0, 0, 0⟩
  | s :: r => match n with
    | 0 => s
    | n + 1 => pick n r
def tail (n : Nat) : List Stmt → List Stmt
  | [] => []
  | s :: r => match n with
    | 0 => s :: r
    | n + 1 => tail n r
def loopBody : List Stmt := forBody (pick 7 lawBody)
def ifThen : Stmt → List Stmt
  | .If _ b _ _ => b
  | _ => []
def ifElse : Stmt → List Stmt
  | .If _ _ o _ => o
  | _ => []
def expr0 : Expr := .Name (Str.ofString "x") ⟨0, 0, 0, 0⟩
def ifTest : Stmt → Expr
  | .If t _ _ _ => t
  | _ => expr0
def ifPos : Stmt → Pos
  | .If _ _ _ p => p
  | _ => ⟨0, 0, 0, 0⟩
def boolItems : Expr → List Expr
  | .BoolOp _ l _ => l
  | _ => []
def pickE (n : Nat) : List Expr → Expr
  | [] => expr0
  | e :: r => match n with
    | 0 => e
    | n + 1 => pickE n r
def boolPos : Expr → Pos
  | .BoolOp _ _ p => p
  | _ => ⟨0, 0, 0, 0⟩
def notArg : Expr → Expr
  | .UnaryOp _ e _ => e
  | _ => expr0
def notPos : Expr → Pos
  | .UnaryOp _ _ p => p
  | _ => ⟨0, 0, 0, 0⟩
def forTarget : Stmt → Expr
  | .For t _ _ _ _ => t
  | _ => expr0
def forIter : Stmt → Expr
  | .For _ i _ _ _ => i
  | _ => expr0
def forPos : Stmt → Pos
  | .For _ _ _ _ p => p
  | _ => ⟨0, 0, 0, 0⟩
def askE (n : Nat) : Expr := pickE n (boolItems (ifTest (pick 9 lawBody)))
/-- the deeds of the turn, in the order of the chain of tests -/
def chain (n : Nat) : Stmt := match n with
  | 0 => pick 5 loopBody
  | n + 1 => pick 0 (ifElse (chain n))
def deed (n : Nat) : List Stmt := ifThen (chain n)
def growB : List Stmt := ifThen (pick 0 (ifThen (pick 4 loopBody)))
def createS : Stmt := pick 1 lawBody
def hereS : Stmt := pick 3 lawBody
def freshS : Stmt := pick 4 lawBody

def lawEnv (L fa : Addr) : Env := envOfC (Str.ofString "law") lawScope L fa (.ref 107)
/-- an inner def, made -/
def madeFn (L fa : Addr) (name : Str) (st : Stmt) (closure : List (Str × Addr)) (dc mn : Value) (c : Addr) (ct : Value) : Obj :=
  fnMade name (qualnameIn (lawEnv L fa) name name) (defArgs st) (defBody st) (defScope st) closure dc mn c ct

/-- what the law's own frame names, of what the loop needs -/
def canon (aQ aK aH : Addr) (vN : Value) (m : Str → Option Value) : Str → Option Value := fun y =>
  if y = Str.ofString "shelf" then some (.ref aQ) else if y = Str.ofString "stock" then some (.ref aK) else if y = Str.ofString "held" then some (.ref aH) else if y = Str.ofString "count" then some vN else m y

structure Par where
  (L fa aS aM aB aR aK aH aQ dQ dB fF cF fH cH fC cC : Nat)
  (ocF ocH ocC oS oM oB tb : Obj)
  (dcF ctF dcH ctH dcC ctC mn : Value)
  eB : DictEntry

def consts (q : Par) : List (Addr × Obj) :=
  [(q.aQ, { cls := .ref 89, dict := some q.dQ, data := .plain, slots := #[some (.ref q.fF), some (.ref q.aR), some (.ref q.fH)] }), (q.dQ, dictOf [] 0), (q.dB, dictOf [q.eB] 1),
   (q.fF, madeFn q.L q.fa (Str.ofString "fresh") freshS [(Str.ofString "scope", q.L + 1 + 1 + 1), (Str.ofString "bank", q.L + 1)] q.dcF q.mn q.cF q.ctF), (q.cF, q.ocF),
   (q.fH, madeFn q.L q.fa (Str.ofString "here") hereS [(Str.ofString "scope", q.L + 1 + 1 + 1)] q.dcH q.mn q.cH q.ctH), (q.cH, q.ocH),
   (q.fC, madeFn q.L q.fa (Str.ofString "create") createS [(Str.ofString "made", q.L + 1 + 1)] q.dcC q.mn q.cC q.ctC), (q.cC, q.ocC),
   (q.L + 1 + 1 + 1, q.oS), (q.L + 1 + 1, q.oM), (q.L + 1, q.oB), (103, q.tb)]
structure Sta where
  vS : Value
  vsM : List Value
  nM : Nat
  esB : Array DictEntry
  nB : Nat
  esR : Array DictEntry
  nR : Nat
  esK : Array DictEntry
  nK : Nat
  esH : Array DictEntry
  nH : Nat
def muts (q : Par) (σ : Sta) : List (Addr × Obj) :=
  [(q.aS, listOf [σ.vS].toArray 0), (q.aM, listOf σ.vsM.toArray σ.nM), (q.aB, bankObj 38 q.dB σ.esB σ.nB), (q.aR, dArr σ.esR σ.nR), (q.aK, dArr σ.esK σ.nK), (q.aH, dArr σ.esH σ.nH)]

/-- what stands all through the loop -/
structure Cx (w : World) (base : Heap) (q : Par) (loose : List Str) (mean : ExcName → Option Value) (mg mb : Str → Option Value) : Prop where
  X : (hd.heap_39 w.params).In base
  T : Top topProg loose mean mg mb base
  B : Below callerA base [] base
  CD : CodeHd base 107 103
  cS : q.oS.data = .cell (some (.ref q.aS))
  cM : q.oM.data = .cell (some (.ref q.aM))
  cB : q.oB.data = .cell (some (.ref q.aB))
  hF : ∃ vs t, q.ocF.data = .fields vs ∧ vs[1]? = some (.str (qualnameIn (lawEnv q.L q.fa) (Str.ofString "fresh") (Str.ofString "fresh")) t)
  hH : ∃ vs t, q.ocH.data = .fields vs ∧ vs[1]? = some (.str (qualnameIn (lawEnv q.L q.fa) (Str.ofString "here") (Str.ofString "here")) t)
  hC : ∃ vs t, q.ocC.data = .fields vs ∧ vs[1]? = some (.str (qualnameIn (lawEnv q.L q.fa) (Str.ofString "create") (Str.ofString "create")) t)
  eB : q.eB.key.isStr (Str.ofString "creator") = true ∧ q.eB.val = .ref q.fC ∧ ∃ t, q.eB.key = .str (Str.ofString "creator") t
  ord : q.L + 1 + 1 + 1 < q.aS ∧ q.aS < q.aM ∧ q.aM < q.cC ∧ q.cC < q.fC ∧ q.fC < q.dB ∧ q.dB < q.aB ∧ q.aB < q.cH ∧ q.cH < q.fH ∧ q.fH < q.cF ∧ q.cF < q.fF ∧ q.fF < q.dQ ∧ q.dQ < q.aQ ∧ q.aQ < q.aR ∧ q.aR < q.aK ∧ q.aK < q.aH ∧ 103 < q.L


/-- an item of the list of the four scopes, at a place in it -/
theorem scopesItem {prog : Program} {w : World} {A : Around} {E : Value → Shared → Prop} {s : Shared} {h₀ : Heap} {L l tp : Addr} {news : List (Addr × Obj)} {value slice : Expr} {t0 t1 t2 t3 : Tok} {j : Int} {u : Tok} {Q : Value → Shared → Prop} (N : News h₀ L s.heap news)
    (hm : (l, listOf #[.int 0 t0, .str (Str.ofString "a") t1, .ref tp, .int (-1) t3] 0) ∈ news) (ht : (tp, tupOf [.int 1 t2]) ∈ news) (h0 : 0 ≤ j) (h1 : j < 4)
    (h : ∀ k v, k < 4 → KeyIn [(tp, tupOf [.int 1 t2])] k v → Q v s) (hs : subscripted slice false (.ref l) (.int j u) = operate [.ref l, .int j u] (getItem (.ref l) (.int j u))) :
    wpAny (model prog w) A (subscriptTail value slice (.ref l) (.int j u)) Q E s := by
  have hl : s.heap.IsList l #[.int 0 t0, .str (Str.ofString "a") t1, .ref tp, .int (-1) t3] := ⟨_, (N _ hm).1, rfl, 0, rfl⟩
  have key : ∀ (k : Nat) (v : Value), #[Value.int 0 t0, .str (Str.ofString "a") t1, .ref tp, .int (-1) t3][k]? = some v → k < 4 → j.toNat = k → KeyIn [(tp, tupOf [.int 1 t2])] k v → wpAny (model prog w) A (subscriptTail value slice (.ref l) (.int j u)) Q E s := fun k v hv hk hj hK =>
    tail_any hl.typeIs slot_list_getitem.lookup (wpAny_getItem_list hl h0 (by omega) (by rw [hj]; exact hv) (h k v hk hK)) hs
  have cases : j.toNat = 0 ∨ j.toNat = 1 ∨ j.toNat = 2 ∨ j.toNat = 3 := by omega
  rcases cases with hj | hj | hj | hj
  · exact key 0 _ rfl (by decide) hj ⟨by decide, .int _ _⟩
  · exact key 1 _ rfl (by decide) hj ⟨by decide, .str _ _⟩
  · exact key 2 _ rfl (by decide) hj ⟨by decide, .tuple (.head _) (.cons (.int _ _) .nil)⟩
  · exact key 3 _ rfl (by decide) hj ⟨by decide, .int _ _⟩
theorem fmod4 (x : Int) : 0 ≤ x.fmod 4 := Int.fmod_nonneg_of_pos _ (by decide)
theorem fmod4' (x : Int) : x.fmod 4 < 4 := Int.fmod_lt_of_pos _ (by decide)

/-- what the frame names in a turn -/
def turnM (op key now told want ask vi : Value) (m : Str → Option Value) : Str → Option Value := fun y =>
  if y = Str.ofString "op" then some op else if y = Str.ofString "key" then some key else if y = Str.ofString "now" then some now else if y = Str.ofString "told" then some told else if y = Str.ofString "want" then some want else if y = Str.ofString "ask" then some ask else
  if y = Str.ofString "i" then some vi else m y
theorem canon_self {aQ aK aH : Addr} {vN : Value} {m : Str → Option Value} (h1 : m (Str.ofString "shelf") = some (.ref aQ)) (h2 : m (Str.ofString "stock") = some (.ref aK)) (h3 : m (Str.ofString "held") = some (.ref aH)) (h4 : m (Str.ofString "count") = some vN) :
    m = canon aQ aK aH vN m := by
  funext y
  unfold canon
  by_cases e1 : y = Str.ofString "shelf"
  · rw [if_pos e1, e1, h1]
  by_cases e2 : y = Str.ofString "stock"
  · rw [if_neg e1, if_pos e2, e2, h2]
  by_cases e3 : y = Str.ofString "held"
  · rw [if_neg e1, if_neg e2, if_pos e3, e3, h3]
  by_cases e4 : y = Str.ofString "count"
  · rw [if_neg e1, if_neg e2, if_neg e3, if_pos e4, e4, h4]
  rw [if_neg e1, if_neg e2, if_neg e3, if_neg e4]
theorem turn_self {op key now told want ask vi : Value} {m : Str → Option Value} (h1 : m (Str.ofString "op") = some op) (h2 : m (Str.ofString "key") = some key) (h3 : m (Str.ofString "now") = some now) (h4 : m (Str.ofString "told") = some told) (h5 : m (Str.ofString "want") = some want) (h6 : m (Str.ofString "ask") = some ask)
    (h7 : m (Str.ofString "i") = some vi) : m = turnM op key now told want ask vi m := by
  funext y
  unfold turnM
  by_cases e1 : y = Str.ofString "op"
  · rw [if_pos e1, e1, h1]
  by_cases e2 : y = Str.ofString "key"
  · rw [if_neg e1, if_pos e2, e2, h2]
  by_cases e3 : y = Str.ofString "now"
  · rw [if_neg e1, if_neg e2, if_pos e3, e3, h3]
  by_cases e4 : y = Str.ofString "told"
  · rw [if_neg e1, if_neg e2, if_neg e3, if_pos e4, e4, h4]
  by_cases e5 : y = Str.ofString "want"
  · rw [if_neg e1, if_neg e2, if_neg e3, if_neg e4, if_pos e5, e5, h5]
  by_cases e6 : y = Str.ofString "ask"
  · rw [if_neg e1, if_neg e2, if_neg e3, if_neg e4, if_neg e5, if_pos e6, e6, h6]
  by_cases e7 : y = Str.ofString "i"
  · rw [if_neg e1, if_neg e2, if_neg e3, if_neg e4, if_neg e5, if_neg e6, if_pos e7, e7, h7]
  rw [if_neg e1, if_neg e2, if_neg e3, if_neg e4, if_neg e5, if_neg e6, if_neg e7]
/-- the frame in a turn's form -/
theorem Fr.turn {base h : Heap} {L : Addr} {m : Str → Option Value} {aQ aK aH : Addr} {vN op key now told want ask vi : Value} (F : Fr base L h m)
    (g1 : m (Str.ofString "shelf") = some (.ref aQ)) (g2 : m (Str.ofString "stock") = some (.ref aK)) (g3 : m (Str.ofString "held") = some (.ref aH)) (g4 : m (Str.ofString "count") = some vN)
    (h1 : m (Str.ofString "op") = some op) (h2 : m (Str.ofString "key") = some key) (h3 : m (Str.ofString "now") = some now) (h4 : m (Str.ofString "told") = some told) (h5 : m (Str.ofString "want") = some want) (h6 : m (Str.ofString "ask") = some ask)
    (h7 : m (Str.ofString "i") = some vi) : Fr base L h (turnM op key now told want ask vi (canon aQ aK aH vN m)) := by
  have e1 := canon_self g1 g2 g3 g4
  have e2 := turn_self h1 h2 h3 h4 h5 h6 h7
  have e : turnM op key now told want ask vi (canon aQ aK aH vN m) = m := Eq.trans (congrArg (turnM op key now told want ask vi) (Eq.symm e1)) (Eq.symm e2)
  exact Eq.mp (congrArg (Fr base L h) e.symm) F

/-- add is new, off own and off what may turn -/
structure Grown (q : Par) (add own : List (Addr × Obj)) : Prop where
  sep : ∀ p ∈ add, ∀ x ∈ own, p.1 ≠ x.1
  new : ∀ p ∈ add, q.aH < p.1
def ownOK (q : Par) (own : List (Addr × Obj)) : Prop := ∀ p ∈ own, p.1 ≠ q.aS ∧ p.1 ≠ q.aM ∧ p.1 ≠ q.aB ∧ p.1 ≠ q.aR ∧ p.1 ≠ q.aK ∧ p.1 ≠ q.aH
theorem allLt_mem {d : Addr} {l : List (Addr × Obj)} (h : AllLt d l) : ∀ p ∈ l, p.1 < d := by
  induction l with
  | nil => intro p hp; cases hp
  | cons x r ih =>
    intro p hp
    rcases List.mem_cons.mp hp with rfl | hp
    · exact h.1
    · exact ih h.2 p hp

def LtOwn (own : List (Addr × Obj)) (d : Addr) : Prop := ∀ p ∈ own, p.1 < d
theorem ltOwn {q : Par} {own news : List (Addr × Obj)} {d : Addr} (O : ownOK q own) (h : ∀ p ∈ news, p.1 < d) (hs : ∀ p ∈ own, p ∈ news) : LtOwn own d := fun p hp => h p (hs p hp)
theorem Grown.nil {q : Par} {own : List (Addr × Obj)} : Grown q [] own := ⟨fun _ h => (nomatch h), fun _ h => (nomatch h)⟩
theorem Grown.cons {q : Par} {own add : List (Addr × Obj)} {a : Addr} {o : Obj} (h1 : LtOwn own a) (h2 : @LT.lt Nat _ q.aH a) (G : Grown q add own) : Grown q ((a, o) :: add) own := by
  refine ⟨fun p hp x hx => ?_, fun p hp => ?_⟩
  · rcases List.mem_cons.mp hp with rfl | hp
    · exact Nat.ne_of_gt (h1 x hx)
    · exact G.sep p hp x hx
  · rcases List.mem_cons.mp hp with rfl | hp
    · exact h2
    · exact G.new p hp
theorem Grown.trans {q : Par} {own add add' : List (Addr × Obj)} (G : Grown q add own) (G' : Grown q add' (add ++ own)) : Grown q (add' ++ add) own := by
  refine ⟨fun p hp x hx => ?_, fun p hp => ?_⟩
  · rcases List.mem_append.mp hp with hp | hp
    · exact G'.sep p hp x (List.mem_append_right _ hx)
    · exact G.sep p hp x hx
  · rcases List.mem_append.mp hp with hp | hp
    · exact G'.new p hp
    · exact G.new p hp
theorem reorder {b h : Heap} {L : Addr} {add mid own : List (Addr × Obj)} (N : News b L h (add ++ (mid ++ own))) : News b L h (mid ++ (add ++ own)) := fun p hp => N p (by
  rcases List.mem_append.mp hp with hp | hp
  · exact List.mem_append_right _ (List.mem_append_left _ hp)
  · rcases List.mem_append.mp hp with hp | hp
    · exact List.mem_append_left _ hp
    · exact List.mem_append_right _ (List.mem_append_right _ hp))
theorem ownOK.grow {q : Par} {add own : List (Addr × Obj)} (O : ownOK q own) (G : Grown q add own) (h : q.aS < q.aM ∧ q.aM < q.aB ∧ q.aB < q.aR ∧ q.aR < q.aK ∧ q.aK < q.aH) : ownOK q (add ++ own) := by
  intro p hp
  rcases List.mem_append.mp hp with hp | hp
  · have h1 := G.new p hp
    obtain ⟨a, b, c, d, e⟩ := h
    have x5 : q.aK < p.1 := Nat.lt_trans e h1
    have x4 : q.aR < p.1 := Nat.lt_trans d x5
    have x3 : q.aB < p.1 := Nat.lt_trans c x4
    have x2 : q.aM < p.1 := Nat.lt_trans b x3
    have x1 : q.aS < p.1 := Nat.lt_trans a x2
    exact ⟨Nat.ne_of_gt x1, Nat.ne_of_gt x2, Nat.ne_of_gt x3, Nat.ne_of_gt x4, Nat.ne_of_gt x5, Nat.ne_of_gt h1⟩
  · exact O p hp
end Mine
end

section
open PySem PySem.W PySem.Calls PyProof.Rows
set_option Elab.async false
set_option maxRecDepth 100000
set_option linter.unusedVariables false
namespace Mine
theorem instN {h₀ h : Heap} {L x dx C : Addr} {news : List (Addr × Obj)} {es : Array DictEntry} {n nd : Nat} {ed : DictEntry} (N : News h₀ L h news) (hm : (x, bankObj C dx es n) ∈ news) (hx : (dx, dictOf [ed] nd) ∈ news) : InstAt h x (bankObj C dx es n) C (some (dictOf [ed] nd)) := ⟨(N _ hm).1, rfl, rfl, (N _ hx).1⟩
theorem DLike.plainN {M : Model} {h₀ h : Heap} {L d : Addr} {news : List (Addr × Obj)} {o : Obj} (N : News h₀ L h news) (hm : (d, o) ∈ news) (hc : o.cls = .type "dict") (hn : (d == sysModules) = false) : DLike M h d := DLike.plain (N _ hm).1 hc hn

section
variable {prog : Program} {w : World} {A : Around} {E : Value → Shared → Prop} {s : Shared} {h₀ : Heap} {L d : Addr} {news l : List (Addr × Obj)} {o : Obj} {es : Array DictEntry} {ep k : Nat} {key : Value} {xs : List (Nat × Dat)}
theorem inL_t {y : Dat} {Q : Value → Shared → Prop} (hu : A.in1.units + 2 < cLine) (D : DLike (model prog w) s.heap d) (N : News h₀ L s.heap news) (hl : ∀ p ∈ l, p ∈ news) (hm : (d, o) ∈ news) (hd : o.data = .dict es ep) (hkey : KeyIn l k key) (T : TabL w l es xs) (hy : lkp xs k = some y)
    (h : ∀ tk, Q (.bool true) { s with toks := tk }) : wpAny (model prog w) A (compareOp .In key (.ref d)) Q E s := inL hu D N hl hm hd hkey T (by rw [hy]; exact h)
theorem inL_f {Q : Value → Shared → Prop} (hu : A.in1.units + 2 < cLine) (D : DLike (model prog w) s.heap d) (N : News h₀ L s.heap news) (hl : ∀ p ∈ l, p ∈ news) (hm : (d, o) ∈ news) (hd : o.data = .dict es ep) (hkey : KeyIn l k key) (T : TabL w l es xs) (hy : lkp xs k = none)
    (h : ∀ tk, Q (.bool false) { s with toks := tk }) : wpAny (model prog w) A (compareOp .In key (.ref d)) Q E s := inL hu D N hl hm hd hkey T (by rw [hy]; exact h)
theorem notInL_t {Q : Value → Shared → Prop} (hu : A.in1.units + 2 < cLine) (D : DLike (model prog w) s.heap d) (N : News h₀ L s.heap news) (hl : ∀ p ∈ l, p ∈ news) (hm : (d, o) ∈ news) (hd : o.data = .dict es ep) (hkey : KeyIn l k key) (T : TabL w l es xs) (hy : lkp xs k = none)
    (h : ∀ tk, Q (.bool true) { s with toks := tk }) : wpAny (model prog w) A (compareOp .NotIn key (.ref d)) Q E s := notInL hu D N hl hm hd hkey T (by rw [hy]; exact h)
theorem notInL_f {y : Dat} {Q : Value → Shared → Prop} (hu : A.in1.units + 2 < cLine) (D : DLike (model prog w) s.heap d) (N : News h₀ L s.heap news) (hl : ∀ p ∈ l, p ∈ news) (hm : (d, o) ∈ news) (hd : o.data = .dict es ep) (hkey : KeyIn l k key) (T : TabL w l es xs) (hy : lkp xs k = some y)
    (h : ∀ tk, Q (.bool false) { s with toks := tk }) : wpAny (model prog w) A (compareOp .NotIn key (.ref d)) Q E s := notInL hu D N hl hm hd hkey T (by rw [hy]; exact h)
end
theorem dictM {prog : Program} {w : World} {A : Around} {E : Value → Shared → Prop} {s : Shared} {h₀ : Heap} {L d : Addr} {news : List (Addr × Obj)} {o : Obj} {name : Str} {id : String} {pl : Sem Bool} {Q : Value × List Value → Shared → Prop} (slot : Slot "dict" name id) (ty : typeOf (.builtin id) = pure (.type "method_descriptor"))
    (N : News h₀ L s.heap news) (hm : (d, o) ∈ news) (hc : o.cls = .type "dict") (hn : o.dict = none) (h : Q (.builtin id, [.ref d]) s) : wpAny (model prog w) A (getMethod (.ref d) name pl) Q E s :=
  getMethod_builtin ⟨_, (N _ hm).1, hc⟩ PySem.F.plainAttrs_dict slot ty (fun a e => by cases e; exact ⟨_, (N _ hm).1, hn⟩) h
theorem lkp_put {xs : List (Nat × Dat)} {k : Nat} {y : Dat} : lkp (put xs k y) k = some y := by
  unfold put
  split
  · rename_i h
    obtain ⟨z, hz⟩ := Option.isSome_iff_exists.mp h
    unfold lkp at hz ⊢
    induction xs with
    | nil => simp at hz
    | cons p r ih =>
      by_cases e : p.1 = k
      · simp [e]
      · have h' : (lkp r k).isSome = true := by
          unfold lkp at h ⊢
          simpa [e] using h
        have hz' : Option.map (fun x => x.snd) (List.find? (fun p => decide (p.fst = k)) r) = some z := by simpa [e] using hz
        have := ih h' hz'
        simpa [e] using this
  · rename_i h
    have hn : lkp xs k = none := by simpa using h
    unfold lkp at hn ⊢
    have : List.find? (fun p => decide (p.fst = k)) xs = none := by simpa using hn
    rw [List.find?_append, this]
    simp
section
variable {prog : Program} {w : World} {A : Around} {E : Value → Shared → Prop} {K : Frag} {s : Shared} {h₀ : Heap} {L d a x dx C : Addr} {m : Str → Option Value} {news l : List (Addr × Obj)} {g : Obj → List (Addr × Obj)} {o : Obj} {es : Array DictEntry} {ep k : Nat} {key : Value} {xs : List (Nat × Dat)} {vs : List Value} {ds : List Dat}
theorem keyDat {v : Value} (h : KeyIn l k v) : DatIn l v (kdat k) := h.2
theorem tupNew (hvs : DatAll l vs ds) : DatIn ((a, tupOf vs) :: l) (.ref a) (.tuple ds) := .tuple (.head _) (DatAll.mono (fun _ h => .tail _ h) hvs)
theorem newSub (hm2 : (a, tupOf vs) ∈ news) (hl : ∀ p ∈ l, p ∈ news) : ∀ p ∈ (a, tupOf vs) :: l, p ∈ news := fun p hp => by
  rcases List.mem_cons.mp hp with rfl | hp
  · exact hm2
  · exact hl p hp
theorem subNew {q : Addr × Obj} : ∀ p ∈ l, p ∈ q :: l := fun _ h => .tail _ h
theorem getL_t {dflt : Value} {y : Dat} {Q : Value → Shared → Prop} (hu : A.in1.units + 2 < cLine) (D : DLike (model prog w) s.heap d) (N : News h₀ L s.heap news) (hl : ∀ p ∈ l, p ∈ news) (hm : (d, o) ∈ news) (hd : o.data = .dict es ep) (hkey : KeyIn l k key) (T : TabL w l es xs) (hy : lkp xs k = some y)
    (h : ∀ v tk, DatIn l v y → Q v { s with toks := tk }) : wpAny (model prog w) A (call (.builtin "dict.get") [.ref d, key, dflt]) Q E s :=
  getL3 hu D N hl hm hd hkey T (fun v y' tk h1 h2 => by rw [hy] at h1; cases h1; exact h v tk h2) fun h0 => by rw [hy] at h0; cases h0
theorem getL_f {dflt : Value} {Q : Value → Shared → Prop} (hu : A.in1.units + 2 < cLine) (D : DLike (model prog w) s.heap d) (N : News h₀ L s.heap news) (hl : ∀ p ∈ l, p ∈ news) (hm : (d, o) ∈ news) (hd : o.data = .dict es ep) (hkey : KeyIn l k key) (T : TabL w l es xs) (hy : lkp xs k = none)
    (h : ∀ tk, Q dflt { s with toks := tk }) : wpAny (model prog w) A (call (.builtin "dict.get") [.ref d, key, dflt]) Q E s :=
  getL3 hu D N hl hm hd hkey T (fun v y' tk h1 h2 => by rw [hy] at h1; cases h1) fun _ => h
/-- a new tuple stored -/
theorem setLN {Q : Unit → Shared → Prop} (hu : A.in1.units + 2 < cLine) (D : DLike (model prog w) s.heap d) (F : Fr h₀ L s.heap m) (N : News h₀ L s.heap news) (hl : ∀ p ∈ l, p ∈ news) (U : UpdF d o news g) (hd : o.data = .dict es ep) (hkey : KeyIn l k key) (hm2 : (a, tupOf vs) ∈ news) (hvs : DatAll l vs ds) (T : TabL w l es xs) (hz : xs.length ≤ 1000)
    (h : ∀ h' es' ep' tk, Fr h₀ L h' m → News h₀ L h' (g { o with data := .dict es' ep' }) → TabL w ((a, tupOf vs) :: l) es' (put xs k (.tuple ds)) → Q () { s with heap := h', toks := tk }) : wpAny (model prog w) A (setItem (.ref d) key (.ref a)) Q E s :=
  setL hu D F N (newSub hm2 hl) U hd (hkey.mono subNew) (tupNew hvs) (T.mono subNew) hz h
theorem setdefLN {Q : Value → Shared → Prop} (hu : A.in1.units + 2 < cLine) (D : DLike (model prog w) s.heap d) (F : Fr h₀ L s.heap m) (N : News h₀ L s.heap news) (hl : ∀ p ∈ l, p ∈ news) (U : UpdF d o news g) (hd : o.data = .dict es ep) (hkey : KeyIn l k key) (hm2 : (a, tupOf vs) ∈ news) (hvs : DatAll l vs ds) (T : TabL w l es xs) (hz : xs.length ≤ 1000) (hn : lkp xs k = none)
    (h : ∀ h' es' ep' tk, Fr h₀ L h' m → News h₀ L h' (g { o with data := .dict es' ep' }) → TabL w ((a, tupOf vs) :: l) es' (put xs k (.tuple ds)) → Q (.ref a) { s with heap := h', toks := tk }) :
    wpAny (model prog w) A (call (.builtin "dict.setdefault") [.ref d, key, .ref a]) Q E s :=
  setdefL hu D F N (newSub hm2 hl) U hd (hkey.mono subNew) (tupNew hvs) (T.mono subNew) hz hn h
theorem bankOwnV {pl : Sem Bool} {name : Str} {es : Array DictEntry} {n nd : Nat} {ed : DictEntry} {f : Addr} {Q : Value × List Value → Shared → Prop} (X : K.In s.heap) (N : News h₀ L s.heap news) (hm : (x, bankObj C dx es n) ∈ news) (hx : (dx, dictOf [ed] nd) ∈ news)
    (hga : findIn K (.ref C) "__getattribute__" = some (some (.builtin "dict.__getattribute__"))) (hk : findIn K (.ref C) "__getattr__" = some none) (hf : findIn K (.ref C) name = some none) (hh : hasDictIn K C = true) (hs : subIn K (.ref C) (.type "dict") = some true)
    (hed : ed.key.isStr name = true) (hval : ed.val = .ref f) (h : ∀ tk, Q (.ref f, []) { s with toks := tk }) : wpAny (model prog w) A (getMethod (.ref x) name pl) Q E s :=
  bankOwn X (instN N hm hx) hga hk hf hh hs hed (by rw [hval]; rfl) (by rw [hval]; exact h)
theorem bankMeth {pl : Sem Bool} {name : Str} {id : String} {es : Array DictEntry} {n nd : Nat} {ed : DictEntry} {cr : Str} {Q : Value × List Value → Shared → Prop} (X : K.In s.heap) (N : News h₀ L s.heap news) (hm : (x, bankObj C dx es n) ∈ news) (hx : (dx, dictOf [ed] nd) ∈ news)
    (hga : findIn K (.ref C) "__getattribute__" = some (some (.builtin "dict.__getattribute__"))) (hk : findIn K (.ref C) "__getattr__" = some none) (hf : findIn K (.ref C) name = some (some (.builtin id))) (ht : typeIn K (.builtin id) = some (.type "method_descriptor"))
    (hed : ∃ t, ed.key = .str cr t) (hne : (cr == name) = false) (h : Q (.builtin id, [.ref x]) s) : wpAny (model prog w) A (getMethod (.ref x) name pl) Q E s := bankMethod X (instN N hm hx) hga hk hf ht hed hne h
theorem bankMissV {value slice : Expr} {n nd : Nat} {ed : DictEntry} {fM : Addr} {Q : Value → Shared → Prop} (hu : A.in1.units + 2 < cLine) (D : DLike (model prog w) s.heap x) (X : K.In s.heap) (N : News h₀ L s.heap news) (hm : (x, bankObj C dx es n) ∈ news) (hx : (dx, dictOf [ed] nd) ∈ news)
    (hmi : findIn K (.ref C) "__missing__" = some (some (.ref fM))) (hf : isFn K (.ref fM) = true) (hl : ∀ p ∈ l, p ∈ news) (hkey : KeyIn l k key) (T : TabL w l es xs) (hy : lkp xs k = none)
    (h : ∀ tk, codeAny (model prog w) A.in1 (.call (.ref fM) ⟨[.ref x, key], []⟩) (fun r s' => match r with | .ok (.ret v) => Q v s' | .ok _ => False | .error e => E e s') { s with toks := tk })
    (hs : subscripted slice false (.ref x) key = operate [.ref x, key] (getItem (.ref x) key)) : wpAny (model prog w) A (subscriptTail value slice (.ref x) key) Q E s :=
  bankMiss hu D X (instN N hm hx) hmi hf N hl hkey T hy h hs
end
theorem appL {prog : Program} {w : World} {A : Around} {E : Value → Shared → Prop} {s : Shared} {h₀ : Heap} {L d : Addr} {m : Str → Option Value} {news : List (Addr × Obj)} {g : Obj → List (Addr × Obj)} {vs : List Value} {n : Nat} {x : Value} {Q : Value → Shared → Prop} (F : Fr h₀ L s.heap m) (N : News h₀ L s.heap news)
    (U : UpdF d (listOf vs.toArray n) news g) (hz : vs.length ≤ 1000) (h : ∀ h', Fr h₀ L h' m → News h₀ L h' (g (listOf (vs ++ [x]).toArray (n + 1))) → Q .none { s with heap := h' }) : wpAny (model prog w) A (call (.builtin "list.append") [.ref d, x]) Q E s := by
  obtain ⟨pre, post, rfl, hg, a, b⟩ := U.split
  have z := N (d, listOf vs.toArray n) (List.mem_append.mpr (.inr (.head _)))
  refine append_at (hsz := ?_) z.1 fun h' hs ho' => h h' (F.change hs z.2.1 z.2.2) ?_
  · rw [hg, show (vs ++ [x]).toArray = vs.toArray.push x by simp]
    exact news_set N a b hs ho'
  · have : (1000 : Nat) ≤ sizeLine := by rw [sizeLine_eq]; exact Nat.le_of_ble_eq_true rfl
    simpa using Nat.le_trans hz this
theorem addL {prog : Program} {w : World} {A : Around} {E : Value → Shared → Prop} {s : Shared} {h₀ : Heap} {L a b : Addr} {m : Str → Option Value} {news l : List (Addr × Obj)} {vs ws : List Value} {n k : Nat} {Q : Value → Shared → Prop} (F : Fr h₀ L s.heap m) (N : News h₀ L s.heap news)
    (hm : (a, listOf vs.toArray n) ∈ l) (hl : ∀ p ∈ l, p ∈ news) (hb : (b, listOf ws.toArray k) ∈ news) (hz : vs.length + ws.length ≤ 1000)
    (h : ∀ (c : Addr) h', Fr h₀ L h' m → News h₀ L h' ((c, listOf (vs ++ ws).toArray 0) :: news) → (∀ q ∈ news, q.1 < c) → Q (.ref c) { s with heap := h' }) : wpAny (model prog w) A (binaryOp .Add (.ref a) (.ref b)) Q E s := by
  refine add_arrays F N (its := vs.toArray) (its2 := ws.toArray) ⟨_, (N _ (hl _ hm)).1, rfl, n, rfl⟩ ⟨_, (N _ hb).1, rfl, k, rfl⟩ (fun h' F' N' => h _ h' F' ?_ fun q hq => Heap.lt_size (N q hq).1) ?_
  · simpa using N'
  · have : (1000 : Nat) ≤ sizeLine := by rw [sizeLine_eq]; exact Nat.le_of_ble_eq_true rfl
    simpa using Nat.le_trans hz this
theorem lenL {prog : Program} {w : World} {A : Around} {E : Value → Shared → Prop} {s : Shared} {h₀ : Heap} {L d : Addr} {news : List (Addr × Obj)} {vs : List Value} {n : Nat} {Q : Value → Shared → Prop} (N : News h₀ L s.heap news)
    (hm : (d, listOf vs.toArray n) ∈ news) (hz : vs.length ≤ 1000) (h : ∀ t tk, Q (.int (vs.length : Int) t) { s with toks := tk }) : wpAny (model prog w) A (call (.builtin "len") [.ref d]) Q E s := by
  have hl : s.heap.IsList d vs.toArray := ⟨_, (N _ hm).1, rfl, n, rfl⟩
  have e : vs.toArray.size = vs.length := by rw [List.size_toArray]
  exact len_list hl (by rw [e]; omega) (by rw [e]; exact h _ _)
/-- the bank behaves as a dict -/
theorem DLike.bankN {prog : Program} {w : World} {h₀ h : Heap} {K : Frag} {L x dx C : Addr} {m : Str → Option Value} {news : List (Addr × Obj)} {es : Array DictEntry} {n nd : Nat} {ed : DictEntry} (F : Fr h₀ L h m) (X₀ : K.In h₀) (N : News h₀ L h news) (hm : (x, bankObj C dx es n) ∈ news) (hx : (dx, dictOf [ed] nd) ∈ news)
    (hi : subIn K (.ref C) (.type "dict") = some true) (ho : subIn K (.ref C) (.type "collections.OrderedDict") = some false)
    (hq : noSeq K C = true) (g1 : findIn K (.ref C) "__getitem__" = some (some (.builtin "dict.__getitem__"))) (g2 : findIn K (.ref C) "__setitem__" = some (some (.builtin "dict.__setitem__"))) (g3 : findIn K (.ref C) "__delitem__" = some (some (.builtin "dict.__delitem__")))
    (g4 : findIn K (.ref C) "__contains__" = some (some (.builtin "dict.__contains__"))) (g5 : findIn K (.ref C) "__len__" = some (some (.builtin "dict.__len__"))) (hn : (x == sysModules) = false) : DLike (model prog w) h x :=
  DLike.own (X₀.keeps F.keep) (instN N hm hx) hi ho hq g1 g2 g3 g4 g5 hn
theorem nsys_of {a : Nat} (h : 1 < a) : ((a : Addr) == sysModules) = false := by
  have : a ≠ 1 := by omega
  exact beq_eq_false_iff_ne.mpr this
end Mine
end

section
open PySem PySem.W PySem.Calls PyProof.Rows PyProof.V PySem.Spec
set_option Elab.async false
set_option maxRecDepth 100000
set_option linter.unusedVariables false
namespace Mine

/-- what is told besides the library's data: a bool, or a tuple that a bool leads -/
def led1 : Nat → Dat → Bool
  | _, .bool _ => true
  | n + 1, .tuple (.bool _ :: ds) => ds.all (kqdOk n)
  | _, _ => false
def dok (n : Nat) (d : Dat) : Bool := kqdOk n d || led1 n d
theorem dokOf {n : Nat} {d : Dat} (h : kqdOk n d = true) : dok n d = true := by rw [dok, h]; rfl
theorem dokReads {h₀ h : Heap} {L : Addr} {news : List (Addr × Obj)} {v : Value} {d : Dat} {n : Nat} (N : News h₀ L h news) (hv : DatIn news v d) (hk : dok n d = true) : ∃ as, Reads h v (kqdP d) as := by
  replace hk := (Bool.or_eq_true _ _).mp hk
  rcases hk with hk | hk
  · exact kqd_in N n hv hk
  · unfold led1 at hk
    split at hk
    · cases hv
      exact ⟨_, Reads.bool _⟩
    · cases hv with
      | tuple hm r =>
        cases r with
        | cons hb r =>
          cases hb
          obtain ⟨as, q⟩ := kqd_all N _ r (List.all_eq_true.mp hk)
          rw [kqdP, kqdPs, kqdP]
          exact ⟨_, reads_tuple_at (N.get hm) rfl rfl (by simpa using ReadsAll.cons (Reads.bool _) q)⟩
    · cases hk
theorem dokLay {n : Nat} {d : Dat} (hk : dok n d = true) : (kqdP d).canLay0 = true ∧ (kqdP d).depth ≤ n := by
  replace hk := (Bool.or_eq_true _ _).mp hk
  rcases hk with hk | hk
  · exact kqd_lay n d hk
  · unfold led1 at hk
    split at hk
    · simp [kqdP, PyData.canLay0, PyData.depth]
    · rename_i n b ds
      have q := kqd_lay (n + 1) (.tuple ds) (by rw [kqdOk]; exact hk)
      rw [kqdP, PyData.canLay0, PyData.depth] at q
      rw [kqdP, kqdPs, kqdP, PyData.canLay0, PyData.depth, PyData.canLayAll0, PyData.depthAll, q.1, PyData.canLay0, PyData.depth]
      have q2 := q.2
      exact ⟨rfl, by omega⟩
    · cases hk
mutual
theorem eqvSelf : ∀ d : Dat, PyData.eqv (kqdP d) (kqdP d) = true
  | .none => by simp [kqdP, PyData.eqv]
  | .bool b => by simp [kqdP, PyData.eqv]
  | .int i => by simp [kqdP, PyData.eqv]
  | .str x => by simp [kqdP, PyData.eqv]
  | .bytes b => by simp [kqdP, PyData.eqv]
  | .tuple ds => by rw [kqdP, PyData.eqv]; exact eqvSelfAll ds
  | .list ds => by rw [kqdP, PyData.eqv]; exact eqvSelfAll ds
theorem eqvSelfAll : ∀ ds : List Dat, PyData.eqvAll (kqdPs ds) (kqdPs ds) = true
  | [] => by simp [kqdPs, PyData.eqvAll]
  | d :: ds => by rw [kqdPs, PyData.eqvAll, eqvSelf d, eqvSelfAll ds]; rfl
end
theorem kqdUp : ∀ {n : Nat} {d : Dat}, kqdOk n d = true → kqdOk (n + 1) d = true
  | 0, d, h => by cases d <;> simp_all [kqdOk]
  | n + 1, d, h => by
    cases d <;> simp_all [kqdOk] <;> exact fun x hx => kqdUp (h x hx)
theorem dokUp {n : Nat} {d : Dat} (h : dok n d = true) : dok (n + 1) d = true := by
  rcases (Bool.or_eq_true _ _).mp h with h | h
  · exact dokOf (kqdUp h)
  · refine (Bool.or_eq_true _ _).mpr (.inr ?_)
    unfold led1 at h
    split at h
    · rfl
    · exact List.all_eq_true.mpr fun x hx => kqdUp (List.all_eq_true.mp h x hx)
    · cases h
theorem dokKey (k : Nat) : kqdOk 1 (kdat k) = true := by
  have s1 : PyData.strOk (Str.ofString "a") = true := by decide +kernel
  have s2 : PyData.strOk (Str.ofString "new") = true := by decide +kernel
  match k with
  | 0 => rfl
  | 1 => simpa [kdat, kqdOk] using s1
  | 2 => rfl
  | 3 => rfl
  | 4 => simpa [kdat, kqdOk] using s2
  | _ + 5 => rfl

def Inv (xs : List (Nat × Dat)) : Prop := ∀ p ∈ xs, p.1 < 4 ∧ kqdOk 2 p.2 = true
def itemsD (xs : List (Nat × Dat)) : Dat := .list (xs.map fun p => .tuple [kdat p.1, p.2])
theorem Inv.items {xs : List (Nat × Dat)} (I : Inv xs) : dok 4 (itemsD xs) = true := by
  refine dokOf ?_
  unfold itemsD kqdOk
  rw [List.all_eq_true]
  intro d hd
  obtain ⟨p, hp, rfl⟩ := List.mem_map.mp hd
  simp [kqdOk, kqdUp (dokKey p.1), (I p hp).2]
theorem okList {ds : List Dat} (h : ∀ d ∈ ds, kqdOk 1 d = true) : dok 4 (.list ds) = true := by
  refine dokOf ?_
  unfold kqdOk
  rw [List.all_eq_true]
  exact fun d hd => kqdUp (kqdUp (h d hd))
theorem Inv.nil : Inv [] := fun _ h => nomatch h
theorem Inv.put {xs : List (Nat × Dat)} {k : Nat} {y : Dat} (I : Inv xs) (hk : k < 4) (hy : kqdOk 2 y = true) : Inv (put xs k y) := by
  unfold Mine.put
  split
  · intro p hp
    obtain ⟨q, hq, rfl⟩ := List.mem_map.mp hp
    have := I q hq
    split
    · exact ⟨this.1, hy⟩
    · exact this
  · intro p hp
    rcases List.mem_append.mp hp with hp | hp
    · exact I p hp
    · rw [List.mem_singleton.mp hp]; exact ⟨hk, hy⟩
theorem Inv.del {xs : List (Nat × Dat)} {k : Nat} (I : Inv xs) : Inv (del xs k) := fun p hp => I p (List.mem_filter.mp hp).1
theorem Inv.getK {xs : List (Nat × Dat)} {k : Nat} {y : Dat} (I : Inv xs) (h : lkp xs k = some y) : kqdOk 2 y = true := by
  unfold lkp at h
  obtain ⟨p, hp, rfl⟩ := Option.map_eq_some_iff.mp h
  exact (I p (List.mem_of_find?_eq_some hp)).2
theorem Inv.get {xs : List (Nat × Dat)} {k : Nat} {y : Dat} (I : Inv xs) (h : lkp xs k = some y) : dok 2 y = true := dokOf (I.getK h)
theorem Inv.none4 {xs : List (Nat × Dat)} {k : Nat} (I : Inv xs) (hk : 4 ≤ k) : lkp xs k = none := by
  unfold lkp
  rw [Option.map_eq_none_iff, List.find?_eq_none]
  intro p hp q
  have h1 := (I p hp).1
  have h2 : p.1 = k := by simpa using q
  omega
theorem nodup_lt : ∀ (n : Nat) (l : List Nat), l.Nodup → (∀ x ∈ l, x < n) → l.length ≤ n
  | 0, [], _, _ => Nat.le_refl _
  | 0, x :: _, _, h => absurd (h x (.head _)) (Nat.not_lt_zero _)
  | n + 1, l, hn, h => by
    by_cases hm : n ∈ l
    · have h1 := List.length_erase_of_mem hm
      have h2 := nodup_lt n (l.erase n) (hn.erase n) fun x hx => by
        have a := h x (List.mem_of_mem_erase hx)
        have b : x ≠ n := fun e => by
          rw [e] at hx
          exact (List.Nodup.not_mem_erase hn) hx
        omega
      omega
    · have h2 := nodup_lt n l hn fun x hx => by
        have a := h x hx
        have b : x ≠ n := fun e => hm (e ▸ hx)
        omega
      omega
theorem Inv.len {w : World} {l : List (Addr × Obj)} {es : Array DictEntry} {xs : List (Nat × Dat)} (I : Inv xs) (T : TabL w l es xs) : xs.length ≤ 4 := by
  have h := nodup_lt 4 (xs.map (·.1)) T.nodup fun x hx => by
    obtain ⟨p, hp, rfl⟩ := List.mem_map.mp hx
    exact (I p hp).1
  rwa [List.length_map] at h

inductive TailF (own : List (Addr × Obj)) : List (Addr × Obj) → (List (Addr × Obj) → List (Addr × Obj)) → Prop
  | here : TailF own own (fun t => t)
  | cons {p r g} : TailF own r g → TailF own (p :: r) (fun t => p :: g t)
theorem TailF.split {own l : List (Addr × Obj)} {g : List (Addr × Obj) → List (Addr × Obj)} (x : TailF own l g) : ∃ pre, l = pre ++ own ∧ ∀ t, g t = pre ++ t := by
  induction x with
  | here => exact ⟨[], rfl, fun _ => rfl⟩
  | cons _ ih =>
    obtain ⟨pre, rfl, h⟩ := ih
    exact ⟨_ :: pre, rfl, fun t => congrArg (List.cons _) (h t)⟩

section
variable {prog : Program} {w : World} {A : Around} {E : Value → Shared → Prop} {s : Shared} {h₀ : Heap} {L d : Addr} {m : Str → Option Value} {news l l' : List (Addr × Obj)} {o : Obj} {es : Array DictEntry} {ep k : Nat} {xs : List (Nat × Dat)}

theorem neD {a b : Value} {y : Dat} {Q : Value → Shared → Prop} (N : News h₀ L s.heap news) (h1 : DatIn l a y) (h2 : DatIn l' b y) (hl : ∀ p ∈ l, p ∈ news) (hl' : ∀ p ∈ l', p ∈ news) (hok : dok 4 y = true) (hu : A.units + 64 < cLine)
    (h : Q (.bool false) s) : wpAny (model prog w) A (compareOp .NotEq a b) Q E s := by
  obtain ⟨as, ra⟩ := dokReads N (h1.mono hl) hok
  obtain ⟨bs, rb⟩ := dokReads N (h2.mono hl') hok
  have q := dokLay hok
  have q2 := q.2
  refine SeqAt.compareNe_reads ra rb q.1 q.1 (by rw [Nat.min_self]; omega) ?_
  rw [eqvSelf]
  exact h
theorem eqD {a b : Value} {y : Dat} {Q : Value → Shared → Prop} (N : News h₀ L s.heap news) (h1 : DatIn l a y) (h2 : DatIn l' b y) (hl : ∀ p ∈ l, p ∈ news) (hl' : ∀ p ∈ l', p ∈ news) (hok : dok 4 y = true) (hu : A.units + 64 < cLine)
    (h : Q (.bool true) s) : wpAny (model prog w) A (compareOp .Eq a b) Q E s := by
  obtain ⟨as, ra⟩ := dokReads N (h1.mono hl) hok
  obtain ⟨bs, rb⟩ := dokReads N (h2.mono hl') hok
  have q := dokLay hok
  have q2 := q.2
  refine SeqAt.compareEq_reads ra rb q.1 q.1 (by rw [Nat.min_self]; omega) ?_
  rw [eqvSelf]
  exact h
/-- the keys compared, whatever they be -/
theorem eqKeys {a b : Value} {k' : Nat} {Q : Value → Shared → Prop} (N : News h₀ L s.heap news) (h1 : KeyIn l k a) (h2 : KeyIn l' k' b) (hl : ∀ p ∈ l, p ∈ news) (hl' : ∀ p ∈ l', p ∈ news) (hu : A.units + 64 < cLine)
    (h : ∀ r, Q (.bool r) s) : wpAny (model prog w) A (compareOp .Eq a b) Q E s := by
  obtain ⟨as, ra⟩ := dokReads N (h1.2.mono hl) (dokOf (dokKey k))
  obtain ⟨bs, rb⟩ := dokReads N (h2.2.mono hl') (dokOf (dokKey k'))
  have q := dokLay (dokOf (dokKey k))
  have q' := dokLay (dokOf (dokKey k'))
  have q2 := q.2
  exact SeqAt.compareEq_reads ra rb q.1 q'.1 (by have := Nat.min_le_left (kqdP (kdat k)).depth (kqdP (kdat k')).depth; omega) (h _)
theorem eqKeyT {a b : Value} {Q : Value → Shared → Prop} (N : News h₀ L s.heap news) (h1 : KeyIn l k a) (h2 : KeyIn l' k b) (hl : ∀ p ∈ l, p ∈ news) (hl' : ∀ p ∈ l', p ∈ news) (hu : A.units + 64 < cLine)
    (h : Q (.bool true) s) : wpAny (model prog w) A (compareOp .Eq a b) Q E s := eqD N h1.2 h2.2 hl hl' (dokUp (dokUp (dokUp (dokOf (dokKey k))))) hu h
theorem listIn {a : Addr} {vs : List Value} {n : Nat} {ds : List Dat} (hm : (a, W.listOf vs.toArray n) ∈ news) (hl : ∀ p ∈ l, p ∈ news) (hd : DatAll l vs ds) : DatIn news (.ref a) (.list ds) := .list hm (DatAll.mono hl hd)
theorem neMade {a : Addr} {vs : List Value} {n : Nat} {b : Value} {ds : List Dat} {Q : Value → Shared → Prop} (N : News h₀ L s.heap news) (hm : (a, W.listOf vs.toArray n) ∈ news) (hd : DatAll l vs ds) (h2 : DatIn l' b (.list ds)) (hl : ∀ p ∈ l, p ∈ news) (hl' : ∀ p ∈ l', p ∈ news)
    (hok : dok 4 (.list ds) = true) (hu : A.units + 64 < cLine) (h : Q (.bool false) s) : wpAny (model prog w) A (compareOp .NotEq (.ref a) b) Q E s :=
  neD N (listIn hm hl hd) h2 (fun _ h => h) hl' hok hu h

theorem keyNew {t : Tok} : KeyIn l 4 (.str (Str.ofString "new") t) := ⟨by decide, .str _ _⟩
theorem okNew (n : Int) : dok 4 (.tuple [kdat 4, .int n]) = true := by
  have s1 : PyData.strOk (Str.ofString "new") = true := by decide +kernel
  exact dokOf (by simp [kqdOk, kdat, s1])
theorem newIn {b : Addr} {n : Int} {t t' : Tok} (hm : (b, tupOf [.str (Str.ofString "new") t, .int n t']) ∈ news) : DatIn news (.ref b) (.tuple [kdat 4, .int n]) := .tuple hm (.cons (.str _ _) (.cons (.int _ _) .nil))
theorem neTT {a b : Addr} {n n' : Int} {t1 t2 t3 t4 : Tok} {Q : Value → Shared → Prop} (N : News h₀ L s.heap news) (hm : (a, tupOf [.str (Str.ofString "new") t1, .int n t2]) ∈ news) (hm2 : (b, tupOf [.str (Str.ofString "new") t3, .int n' t4]) ∈ news) (e : n = n') (hu : A.units + 64 < cLine)
    (h : Q (.bool false) s) : wpAny (model prog w) A (compareOp .NotEq (.ref a) (.ref b)) Q E s := by
  subst e
  exact neD N (newIn hm) (newIn hm2) (fun _ h => h) (fun _ h => h) (okNew _) hu h
theorem neDT {a : Value} {b : Addr} {n n' : Int} {t3 t4 : Tok} {Q : Value → Shared → Prop} (N : News h₀ L s.heap news) (h1 : DatIn l a (.tuple [kdat 4, .int n])) (hl : ∀ p ∈ l, p ∈ news) (hm2 : (b, tupOf [.str (Str.ofString "new") t3, .int n' t4]) ∈ news) (e : n = n') (hu : A.units + 64 < cLine)
    (h : Q (.bool false) s) : wpAny (model prog w) A (compareOp .NotEq a (.ref b)) Q E s := by
  subst e
  exact neD N h1 (newIn hm2) hl (fun _ h => h) (okNew _) hu h
theorem memSub {x : Addr × Obj} (h : x ∈ l) (hl : ∀ p ∈ l, p ∈ news) : x ∈ news := hl x h
theorem neT {a b : Addr} {v : Value} {n n' : Int} {t2 t3 t4 : Tok} {Q : Value → Shared → Prop} (N : News h₀ L s.heap news) (hm : (a, tupOf [v, .int n t2]) ∈ news) (hv : KeyIn l 4 v) (hl : ∀ p ∈ l, p ∈ news) (hm2 : (b, tupOf [.str (Str.ofString "new") t3, .int n' t4]) ∈ news) (e : n = n') (hu : A.units + 64 < cLine)
    (h : Q (.bool false) s) : wpAny (model prog w) A (compareOp .NotEq (.ref a) (.ref b)) Q E s := by
  subst e
  exact neD N (.tuple hm (.cons (hv.2.mono hl) (.cons (.int _ _) .nil))) (newIn hm2) (fun _ h => h) (fun _ h => h) (okNew _) hu h
/-- d.items() -/
theorem itemsL {Q : Value → Shared → Prop} (D : DLike (model prog w) s.heap d) (F : Fr h₀ L s.heap m) (N : News h₀ L s.heap news)
    (h : ∀ (v : Addr) h', Fr h₀ L h' m → News h₀ L h' ((v, { cls := .type "dict_items", data := .fields #[.ref d] }) :: news) → (∀ q ∈ news, q.1 < v) → Q (.ref v) { s with heap := h' }) :
    wpAny (model prog w) A (call (.builtin "dict.items") [.ref d]) Q E s := by
  refine callD D (by decide +kernel) PySem.F.entry_dict_items (.inl (by decide +kernel)) (n := "items") (by decide +kernel) (PySem.F.args_dict_items_1 _) ?_
  unfold Builtin.«dict.items»
  refine wpAny_bind ?_
  unfold Builtin.Dict.noArgs
  refine wpAny_bind ((D.nord "items" []).here ?_)
  show wpAny _ _ (pure d) _ _ s
  refine wpAny_pure ?_
  show wpAny _ _ (Builtin.Dict.showsAll d >>= _) _ _ s
  unfold Builtin.Dict.showsAll
  rw [if_neg (by rw [D.nsys]; exact Bool.false_ne_true)]
  refine wpAny_bind (wpAny_pure (wpAny_bind (wpAny_newObj_type (wpAny_pure ⟨_, rfl, h _ _ (F.push _) (N.push F _) fun q hq => Heap.lt_size (N q hq).1⟩))))

/-- list(d.items()), all that it made laid into the ledger's tail -/
theorem listItemsL {own l₀ : List (Addr × Obj)} {v : Addr} {g : List (Addr × Obj) → List (Addr × Obj)} {Q : Value → Shared → Prop} (hh : A.handled = none) (F : Fr h₀ L s.heap m) (N : News h₀ L s.heap news) (hv : (v, { cls := .type "dict_items", data := .fields #[.ref d] }) ∈ news) (hm : (d, o) ∈ news) (hd : o.data = .dict es ep)
    (T₀ : TabL w l₀ es xs) (hlo : ∀ p ∈ l₀, p ∈ own) (hz : xs.length ≤ 1000) (Tl : TailF own news g)
    (h : ∀ (S : Addr) h' tk own', Fr h₀ L h' m → News h₀ L h' (g own') → (∀ p ∈ own, p ∈ own') → DatIn own' (.ref S) (itemsD xs) → Q (.ref S) { s with heap := h', toks := tk }) :
    wpAny (model prog w) A (call (.type "list") [.ref v]) Q E s := by
  have T := T₀.mono hlo
  refine itemList hh ⟨_, (N _ hv).1, rfl, rfl⟩ (N _ hm).1 hd (by rw [T.len]; exact hz) fun h' tk acc c as hk hS hl hG hacc => ?_
  obtain ⟨pre, rfl, hg⟩ := Tl.split
  have sub : ∀ p ∈ own, p ∈ pre ++ own := fun p hp => List.mem_append_right _ hp
  have fresh : ∀ a, s.heap.objs.size ≤ a → a ≠ L ∧ h₀.get? a = none := fun a ha => by
    have h1 : L < s.heap.objs.size := F.ns.lt
    exact ⟨Nat.ne_of_gt (Nat.lt_of_lt_of_le h1 ha), Heap.get?_none_of_le (Nat.le_trans F.above (Nat.le_trans (Nat.le_of_lt h1) ha))⟩
  let obj : Nat → Obj := fun j => match es[j]? with
    | some e => tupOf [e.key, e.val]
    | none => tupOf []
  let tups : List (Addr × Obj) := (List.range as.length).map fun j => ((as[j]?).getD 0, obj j)
  have hT : ∀ p ∈ tups, h'.get? p.1 = some p.2 ∧ s.heap.objs.size ≤ p.1 := fun p hp => by
    obtain ⟨j, hj, rfl⟩ := List.mem_map.mp hp
    have hj' : j < as.length := List.mem_range.mp hj
    have ha : as[j]? = some as[j] := List.getElem?_eq_getElem hj'
    obtain ⟨e, e1, e2⟩ := hG.each j _ ha
    show h'.get? ((as[j]?).getD 0) = some (obj j) ∧ _ ≤ ((as[j]?).getD 0)
    rw [ha]
    refine ⟨?_, Nat.le_of_lt (hG.above _ (List.getElem_mem hj'))⟩
    show h'.get? as[j] = some (obj j)
    rw [e2]
    show _ = some (match es[j]? with | some e => tupOf [e.key, e.val] | none => tupOf [])
    rw [e1]
  let own' := (s.heap.objs.size, W.listOf acc c) :: (tups ++ own)
  have s₁ : ∀ p ∈ own, p ∈ own' := fun p hp => .tail _ (List.mem_append_right _ hp)
  have N' : News h₀ L h' (g own') := fun p hp => by
    rw [hg] at hp
    rcases List.mem_append.mp hp with hp | hp
    · have z := N p (List.mem_append_left _ hp)
      exact ⟨hk _ _ z.1, z.2⟩
    · rcases List.mem_cons.mp hp with rfl | hp
      · exact ⟨hS, fresh _ (Nat.le_refl _)⟩
      · rcases List.mem_append.mp hp with hp | hp
        · obtain ⟨z1, z2⟩ := hT p hp
          exact ⟨z1, fresh _ z2⟩
        · have z := N p (sub p hp)
          exact ⟨hk _ _ z.1, z.2⟩
  refine h _ h' tk own' (F.keeps hk) N' s₁ ?_
  have hlen : as.length = xs.length := by rw [hl, T.len]
  have all : ∀ (n : Nat), n ≤ as.length → DatAll own' ((as.drop (as.length - n)).map Value.ref) ((xs.drop (as.length - n)).map fun p => Dat.tuple [kdat p.1, p.2]) := by
    intro n
    induction n with
    | zero =>
      intro _
      rw [Nat.sub_zero, List.drop_length, hlen, List.drop_length]
      exact .nil
    | succ n ih =>
      intro hn
      have hj : as.length - (n + 1) < as.length := by omega
      have hj2 : as.length - (n + 1) < xs.length := by omega
      have e1 : as.length - n = (as.length - (n + 1)) + 1 := by omega
      have ih' := ih (by omega)
      rw [e1] at ih'
      rw [List.drop_eq_getElem_cons hj, List.drop_eq_getElem_cons hj2]
      refine .cons ?_ ih'
      have hje : as.length - (n + 1) < es.size := by omega
      have hee : es[as.length - (n + 1)]? = some es[as.length - (n + 1)] := Array.getElem?_eq_getElem hje
      obtain ⟨_, t2, t3⟩ := T.each _ _ _ hee (List.getElem?_eq_getElem hj2)
      have hmem : (as[as.length - (n + 1)], tupOf [es[as.length - (n + 1)].key, es[as.length - (n + 1)].val]) ∈ own' := by
        refine .tail _ (List.mem_append_left _ (List.mem_map.mpr ⟨as.length - (n + 1), List.mem_range.mpr hj, ?_⟩))
        show ((as[as.length - (n + 1)]?).getD 0, (match es[as.length - (n + 1)]? with | some e => tupOf [e.key, e.val] | none => tupOf [])) = _
        rw [hee, List.getElem?_eq_getElem hj]
        rfl
      exact .tuple hmem (.cons (t2.2.mono s₁) (.cons (t3.mono s₁) .nil))
  have a := all as.length (Nat.le_refl _)
  rw [Nat.sub_self, List.drop_zero, List.drop_zero, ← hacc] at a
  exact .list (vs := acc.toList) (n := c) (.head _) a
end
end Mine
end

section
open PySem PySem.W PySem.Calls PyProof.Rows PyProof.V PySem.Spec
set_option Elab.async false
set_option maxRecDepth 100000
set_option linter.unusedVariables false
namespace Mine
section
variable {prog : Program} {w : World} {A : Around} {E : Value → Shared → Prop} {s : Shared} {h₀ : Heap} {L d : Addr} {m : Str → Option Value} {news l l' : List (Addr × Obj)} {o : Obj} {es : Array DictEntry} {ep k : Nat} {xs : List (Nat × Dat)}
theorem lenD {Q : Value → Shared → Prop} (D : DLike (model prog w) s.heap d) (N : News h₀ L s.heap news) (hm : (d, o) ∈ news) (hd : o.data = .dict es ep) (T : TabL w l es xs) (hz : xs.length ≤ 1000) (h : ∀ t tk, Q (.int (xs.length : Int) t) { s with toks := tk }) :
    wpAny (model prog w) A (call (.builtin "len") [.ref d]) Q E s := by
  have ho := (N _ hm).1
  refine Calls.call_function_entry kind_len plain_len entry_len (args_len1 _) ?_
  unfold Builtin.«len»
  refine wpAny_bind (m := oneArg "len" _) (wpAny_pure ?_)
  refine wpAny_bind (m := callSpecial? (.ref d) (Str.ofString "__len__")) (specD D (.tail _ (.tail _ (.tail _ (.tail _ (.head _))))) ?_)
  refine callD D (by decide +kernel) PySem.F.entry_dict_len (.inr (by decide +kernel)) (n := "__len__") (by decide +kernel) (PySem.F.args_dict_len_1 _) ?_
  unfold Builtin.«dict.__len__»
  refine wpAny_bind ?_
  unfold Builtin.Dict.dictSlotNone
  refine wpAny_bind ((D.nord "__len__" []).here ?_)
  refine wpAny_bind (wpAny_pure ?_)
  refine wpAny_pure ?_
  refine wpAny_bind (wpAny_pure ?_)
  unfold dictSize
  refine wpAny_bind (wpAny_bind (wpAny_dictEntries ho hd (wpAny_pure ?_)))
  refine wpAny_bind (wpAny_pendingCount_other D.nsys ?_)
  refine wpAny_bind (wpAny_mkInt (wpAny_pure ⟨_, rfl, ?_⟩))
  refine wpAny_bind (wpAny_holding (wpAny_pure ?_))
  refine wpAny_bind (wpAny_letGo ?_)
  have e : ((es.size : Nat) : Int) + ((0 : Nat) : Int) = (xs.length : Int) := by rw [T.len]; simp
  show wpAny _ _ (if ((es.size : Nat) : Int) + ((0 : Nat) : Int) < 0 then _ else _) _ _ _
  rw [if_neg (by omega)]
  show wpAny _ _ (if ((es.size : Nat) : Int) + ((0 : Nat) : Int) ≥ 2 ^ 63 then _ else _) _ _ _
  rw [if_neg (by omega), e]
  exact wpAny_bind (wpAny_mkInt (wpAny_pure ⟨_, rfl, h _ _⟩))
/-- made == count + ['new'] -/
theorem eqMade {a b : Addr} {vs ws : List Value} {n n' : Nat} {t : Tok} {ds es' : List Dat} {Q : Value → Shared → Prop} (N : News h₀ L s.heap news) (hm : (a, W.listOf vs.toArray n) ∈ news) (hm2 : (b, W.listOf (ws ++ [Value.str (Str.ofString "new") t]).toArray n') ∈ news) (hd : DatAll l vs ds) (hd2 : DatAll l ws es') (hl : ∀ p ∈ l, p ∈ news) (e : ds = es' ++ [kdat 4])
    (hok : ∀ d ∈ ds, kqdOk 1 d = true) (hu : A.units + 64 < cLine) (h : Q (.bool true) s) : wpAny (model prog w) A (compareOp .Eq (.ref a) (.ref b)) Q E s := by
  subst e
  refine eqD N (listIn hm hl hd) (.list hm2 ?_) (fun _ h => h) (fun _ h => h) (okList hok) hu h
  have snoc : ∀ {vs : List Value} {ds : List Dat}, DatAll l vs ds → DatAll news (vs ++ [Value.str (Str.ofString "new") t]) (ds ++ [kdat 4]) := by
    intro vs
    induction vs with
    | nil => intro ds h; cases h; exact .cons (.str _ _) .nil
    | cons v vs ih =>
      intro ds h
      cases h with
      | cons h1 h2 => exact .cons (h1.mono hl) (ih h2)
  exact snoc hd2
end
end Mine
end

section
open PySem PySem.W PySem.Calls PyProof.Rows
set_option Elab.async false
set_option maxRecDepth 100000
set_option linter.unusedVariables false
namespace Mine
/-- what the two sides hold: bank and stock, registry and held, the made ones and their count, the key of the scope -/
structure Rel (w : World) (own : List (Addr × Obj)) (σ : Sta) (vN : Value) (b k0 : Nat) (xsB xsK ys yh : List (Nat × Dat)) (dsM dsN : List Dat) : Prop where
  kS : KeyIn own k0 σ.vS
  tB : TabL w own σ.esB xsB
  tK : TabL w own σ.esK xsK
  tR : TabL w own σ.esR ys
  tH : TabL w own σ.esH yh
  dM : DatAll own σ.vsM dsM
  dN : DatIn own vN (.list dsN)
  k4 : k0 < 4
  iB : Inv xsB
  iK : Inv xsK
  iR : Inv ys
  iH : Inv yh
  iM : ∀ d ∈ dsM, kqdOk 1 d = true
  iN : ∀ d ∈ dsN, kqdOk 1 d = true
  lM : dsM.length ≤ b
  lN : dsN.length ≤ b
theorem Rel.mono {w : World} {own own' : List (Addr × Obj)} {σ : Sta} {vN : Value} {b k0 : Nat} {xsB xsK ys yh : List (Nat × Dat)} {dsM dsN : List Dat} (R : Rel w own σ vN b k0 xsB xsK ys yh dsM dsN) (hs : ∀ p ∈ own, p ∈ own') : Rel w own' σ vN b k0 xsB xsK ys yh dsM dsN :=
  ⟨R.kS.mono hs, R.tB.mono hs, R.tK.mono hs, R.tR.mono hs, R.tH.mono hs, DatAll.mono hs R.dM, R.dN.mono hs, R.k4, R.iB, R.iK, R.iR, R.iH, R.iM, R.iN, R.lM, R.lN⟩
theorem snocIn {l l' : List (Addr × Obj)} {v : Value} {d : Dat} (hs : ∀ p ∈ l, p ∈ l') (hd : DatIn l' v d) : ∀ {vs : List Value} {ds : List Dat}, DatAll l vs ds → DatAll l' (vs ++ [v]) (ds ++ [d])
  | _, _, .nil => .cons hd .nil
  | _, _, .cons h r => .cons (h.mono hs) (snocIn hs hd r)
theorem snocOk {n : Nat} {ds : List Dat} {d : Dat} (h : ∀ x ∈ ds, kqdOk n x = true) (hd : kqdOk n d = true) : ∀ x ∈ ds ++ [d], kqdOk n x = true := fun x hx => by
  rcases List.mem_append.mp hx with hx | hx
  · exact h x hx
  · rw [List.mem_singleton.mp hx]; exact hd
theorem okTup (k : Nat) (n : Int) : kqdOk 2 (.tuple [kdat k, .int n]) = true := by simp [kqdOk, dokKey k]
theorem okSet (n : Int) : kqdOk 2 (.tuple [.str (Str.ofString "set"), .int n]) = true := by
  have s1 : PyData.strOk (Str.ofString "set") = true := by decide +kernel
  simp [kqdOk, s1]

theorem dropN {b h : Heap} {L : Addr} {t : Addr × Obj} {r : List (Addr × Obj)} (N : News b L h (t :: r)) : News b L h r := fun p hp => N p (.tail _ hp)
theorem sub2 {l : List (Addr × Obj)} {t t' : Addr × Obj} : ∀ p ∈ l, p ∈ t :: t' :: l := fun _ h => .tail _ (.tail _ h)
theorem subMid {l : List (Addr × Obj)} {t t' : Addr × Obj} : ∀ p ∈ t :: l, p ∈ t :: t' :: l := fun p hp => by
  rcases List.mem_cons.mp hp with rfl | hp
  · exact .head _
  · exact .tail _ (.tail _ hp)
theorem pack0 {b h : Heap} {L : Addr} {q : Par} {own : List (Addr × Obj)} {vS : Value} {vsM : List Value} {nM nB nR nK nH : Nat} {esB esR esK esH : Array DictEntry}
    (N : News b L h ((q.aS, listOf [vS].toArray 0) :: (q.aM, listOf vsM.toArray nM) :: (q.aB, bankObj 38 q.dB esB nB) :: (q.aR, dArr esR nR) :: (q.aK, dArr esK nK) :: (q.aH, dArr esH nH) :: (consts q ++ own))) :
    News b L h (muts q ⟨vS, vsM, nM, esB, nB, esR, nR, esK, nK, esH, nH⟩ ++ consts q ++ ([] ++ own)) := N
theorem pack1 {b h : Heap} {L : Addr} {q : Par} {t : Addr × Obj} {own : List (Addr × Obj)} {vS : Value} {vsM : List Value} {nM nB nR nK nH : Nat} {esB esR esK esH : Array DictEntry}
    (N : News b L h (t :: (q.aS, listOf [vS].toArray 0) :: (q.aM, listOf vsM.toArray nM) :: (q.aB, bankObj 38 q.dB esB nB) :: (q.aR, dArr esR nR) :: (q.aK, dArr esK nK) :: (q.aH, dArr esH nH) :: (consts q ++ own))) :
    News b L h (muts q ⟨vS, vsM, nM, esB, nB, esR, nR, esK, nK, esH, nH⟩ ++ consts q ++ ([t] ++ own)) := reorder (add := [t]) (mid := muts q ⟨vS, vsM, nM, esB, nB, esR, nR, esK, nK, esH, nH⟩ ++ consts q) N
theorem pack2 {b h : Heap} {L : Addr} {q : Par} {t t' : Addr × Obj} {own : List (Addr × Obj)} {vS : Value} {vsM : List Value} {nM nB nR nK nH : Nat} {esB esR esK esH : Array DictEntry}
    (N : News b L h (t :: t' :: (q.aS, listOf [vS].toArray 0) :: (q.aM, listOf vsM.toArray nM) :: (q.aB, bankObj 38 q.dB esB nB) :: (q.aR, dArr esR nR) :: (q.aK, dArr esK nK) :: (q.aH, dArr esH nH) :: (consts q ++ own))) :
    News b L h (muts q ⟨vS, vsM, nM, esB, nB, esR, nR, esK, nK, esH, nH⟩ ++ consts q ++ ([t, t'] ++ own)) := reorder (add := [t, t']) (mid := muts q ⟨vS, vsM, nM, esB, nB, esR, nR, esK, nK, esH, nH⟩ ++ consts q) N
theorem pack3 {b h : Heap} {L : Addr} {q : Par} {t t' t'' : Addr × Obj} {own : List (Addr × Obj)} {vS : Value} {vsM : List Value} {nM nB nR nK nH : Nat} {esB esR esK esH : Array DictEntry}
    (N : News b L h (t :: t' :: t'' :: (q.aS, listOf [vS].toArray 0) :: (q.aM, listOf vsM.toArray nM) :: (q.aB, bankObj 38 q.dB esB nB) :: (q.aR, dArr esR nR) :: (q.aK, dArr esK nK) :: (q.aH, dArr esH nH) :: (consts q ++ own))) :
    News b L h (muts q ⟨vS, vsM, nM, esB, nB, esR, nR, esK, nK, esH, nH⟩ ++ consts q ++ ([t, t', t''] ++ own)) := reorder (add := [t, t', t'']) (mid := muts q ⟨vS, vsM, nM, esB, nB, esR, nR, esK, nK, esH, nH⟩ ++ consts q) N
theorem sub3 {l : List (Addr × Obj)} {t t' t'' : Addr × Obj} : ∀ p ∈ l, p ∈ t :: t' :: t'' :: l := fun _ h => .tail _ (.tail _ (.tail _ h))
theorem subMid2 {l : List (Addr × Obj)} {t t' t'' : Addr × Obj} : ∀ p ∈ t :: l, p ∈ t :: t' :: t'' :: l := fun p hp => by
  rcases List.mem_cons.mp hp with rfl | hp
  · exact .head _
  · exact .tail _ (.tail _ (.tail _ hp))
theorem thin {b h : Heap} {L : Addr} {t t' : Addr × Obj} {mid own own' : List (Addr × Obj)} (N : News b L h (t :: t' :: (mid ++ own'))) (hs : ∀ p ∈ own, p ∈ own') : News b L h (mid ++ own) := fun p hp => N p (.tail _ (.tail _ (by
  rcases List.mem_append.mp hp with hp | hp
  · exact List.mem_append_left _ hp
  · exact List.mem_append_right _ (hs p hp))))
theorem canonFr {base h : Heap} {L : Addr} {m : Str → Option Value} {aQ aK aH : Addr} {vN : Value} (F : Fr base L h m) (g1 : m (Str.ofString "shelf") = some (.ref aQ)) (g2 : m (Str.ofString "stock") = some (.ref aK)) (g3 : m (Str.ofString "held") = some (.ref aH)) (g4 : m (Str.ofString "count") = some vN) : Fr base L h (canon aQ aK aH vN m) :=
  Eq.mp (congrArg (Fr base L h) (canon_self g1 g2 g3 g4)) F
theorem okNone : dok 4 (.tuple [.bool false, .str (Str.ofString "none")]) = true := by
  have s1 : PyData.strOk (Str.ofString "none") = true := by decide +kernel
  simp [dok, led1, kqdOk, s1]
/-- the way on, behind a deed: the deed's two tellings are the same datum -/
def Then5 (w : World) (base : Heap) (q : Par) (own led : List (Addr × Obj)) (Q : Flow → Shared → Prop) (i : Int) (u : Tok) (b : Nat) (s : Shared) : Prop :=
  ∀ (σ' : Sta) h tk m add vN' op key now told want ask k0' xs' ys' ds' d, Rel w (add ++ own) σ' vN' (b + 1) k0' xs' xs' ys' ys' ds' ds' → DatIn (add ++ own) told d → DatIn (add ++ own) want d → dok 4 d = true → Grown q add led →
    Fr base q.L h (turnM op key now told want ask (.int i u) (canon q.aQ q.aK q.aH vN' m)) → News base q.L h (muts q σ' ++ consts q ++ (add ++ led)) →
    Q .next { s with heap := h, toks := tk }
end Mine
end

section
open PySem PySem.W PySem.Calls PyProof.Rows
set_option Elab.async false
set_option maxRecDepth 100000
set_option linter.unusedVariables false
namespace Mine
theorem fillA : hd.heap_39 = hd.heap_39 ∧ PySem.Challenge.rw_eu0027_01 = PySem.Challenge.rw_eu0027_01 := by
  k_fill
  w_top off
  exact ⟨rfl, rfl⟩
local macro_rules | `(tactic| walk_at "subscriptTail") => `(tactic| (k_here; (with_reducible show wpAny _ _ (subscriptTail _ _ (Value.ref _) (Value.int _ _)) _ _ _); k_dflt (refine' Mine.scopesItem ?k1 ?k2 ?k3 ?k4 ?k5 ?_ ?k6; (case k1 => k_asm); (case k2 => k_mem); (case k3 => k_mem); (case k4 => exact Mine.fmod4 _); (case k5 => exact Mine.fmod4' _); (case k6 => with_unfolding_all rfl); k_whole); intro k1 v1 hk1 hK1))

local macro_rules | `(tactic| k_lt $h:ident) => `(tactic| ((try (have hLO := Mine.ltOwn (by with_reducible assumption) $h (by intro p hp; repeat (first | exact hp | apply List.mem_cons_of_mem)))); replace $h := allLt_of $h; simp only [AllLt, and_true] at $h:ident))

set_option maxHeartbeats 8000000 in
theorem segA {w : World} {base : Heap} {q : Par} {loose : List Str} {mean : ExcName → Option Value} {mg mb : Str → Option Value} (C : Cx w base q loose mean mg mb) {σ : Sta} {own : List (Addr × Obj)} {s : Shared} {vN : Value} {m₀ : Str → Option Value} {n i : Int} {t u : Tok}
    {Q : Flow → Shared → Prop} {E : Value → Shared → Prop} {rest : List Stmt} (hi0 : 0 ≤ i) (hi1 : i < 64) (O : ownOK q own)
    (F : Fr base q.L s.heap (fun y => if y = Str.ofString "x" then some (.int n t) else if y = Str.ofString "i" then some (.int i u) else canon q.aQ q.aK q.aH vN m₀ y)) (N : News base q.L s.heap (muts q σ ++ consts q ++ own))
    (k : ∀ h tk m add k1 v1 to va, k1 < 4 → KeyIn add k1 v1 → (va = if n.fmod 9 = 1 ∨ n.fmod 9 = 2 then σ.vS else v1) → Grown q add own →
      Fr base q.L h (turnM (.int (n.fmod 9) to) v1 σ.vS .none .none va (.int i u) (canon q.aQ q.aK q.aH vN m)) → News base q.L h (muts q σ ++ consts q ++ (add ++ own)) →
      wpAny (model PRG w) (callerA.deeper (lawEnv q.L q.fa)) (execs rest (lawEnv q.L q.fa)) Q E { s with heap := h, toks := tk }) :
    wpAny (model PRG w) (callerA.deeper (lawEnv q.L q.fa)) (execs (pick 0 loopBody :: pick 1 loopBody :: pick 2 loopBody :: pick 3 loopBody :: rest) (lawEnv q.L q.fa)) Q E s := by
  obtain ⟨X, T, B, CD, cS, cM, cB, ⟨vsF, tF, hF1, hF2⟩, ⟨vsH, tH, hH1, hH2⟩, ⟨vsC, tC, hC1, hC2⟩, ⟨eB1, eB2, eB3⟩, ord⟩ := C
  obtain ⟨o1, o2, o3, o4, o5, o6, o7, o8, o9, o10, o11, o12, o13, o14, o15, o16⟩ := ord
  obtain ⟨hh, g, dr, tk, os⟩ := s
  dsimp only [muts, consts, madeFn, lawEnv, loopBody, pick, forBody, lawBody, lawScope, createS, hereS, freshS, defArgs, defBody, defScope, PySem.Challenge.pw_eu0027_01, List.cons_append, List.nil_append] at F N hF2 hH2 hC2 ⊢
  k_steps
  all_goals dsimp only
  all_goals (rename Fr _ _ _ _ => FF; rename News _ _ _ _ => NN; rename KeyIn _ _ _ => hK)
  all_goals refine k _ _ _ [_, _, _, _] _ _ _ _ (by assumption) (KeyIn.mono ?_ hK) ?_ ?_ (Fr.turn FF rfl rfl rfl rfl rfl rfl rfl rfl rfl rfl rfl) (reorder NN)
  all_goals first
    | exact Grown.cons (by assumption) (by omega) (Grown.cons (by assumption) (by omega) (Grown.cons (by assumption) (by omega) (Grown.cons (by assumption) (by omega) Grown.nil)))
    | (intro p hp; rw [List.mem_singleton.mp hp]; k_mem)
    | (rw [if_pos (by first | exact .inl (by assumption) | exact .inr (by assumption))])
    | (rw [if_neg (by intro hh; rcases hh with hh | hh <;> contradiction)])
end Mine
end

section
open PySem PySem.W PySem.Calls PyProof.Rows
set_option Elab.async false
set_option maxRecDepth 100000
set_option linter.unusedVariables false
namespace Mine
local macro_rules | `(tactic| k_lt $h:ident) => `(tactic| ((try (have hLO := Mine.ltOwn (by with_reducible assumption) $h (by intro p hp; (repeat (first | exact hp | exact (by assumption : ∀ p ∈ _, p ∈ _) p hp | apply List.mem_cons_of_mem)); done))); replace $h := allLt_of $h; simp only [AllLt, and_true] at $h:ident))
local macro_rules | `(tactic| walk_at "getMethod ref") => `(tactic| (k_here; (with_reducible show wpAny _ _ (getMethod (Value.ref _) _ _) _ _ _); k_dflt (refine' Mine.slotMethod ?k1 ?k2 ?k3 ?k4 ?k5 ?k6 ?k7 ?k8 ?k9 ?k10 ?k11 ?k12 ?_; (case k1 => k_asm); (case k2 => k_asm); (case k3 => k_inst); (case k4 => k_is); (case k5 => k_is); (case k6 => k_is); (case k7 => k_is); (case k8 => k_is); (case k9 => k_is); (case k10 => k_is); (case k11 => k_slotget); (case k12 => k_handed); k_whole); (try dsimp only)))
local macro_rules | `(tactic| walk_at "subscriptTail") => `(tactic| (k_here; (with_reducible show wpAny _ _ (subscriptTail _ _ (Value.ref _) _) _ _ _); k_dflt (refine' Mine.itemL ?hu ?D ?N ?hl ?hm ?hd ?hkey ?T ?hy ?_ ?hs; (case N => k_asm); (case hm => k_mem); (case hd => rfl); (case T => assumption); (case hy => (first | assumption | exact Mine.lkp_put)); (case hkey => (first | assumption | exact Mine.keyNew)); (case hl => (first | (intro p hp; (repeat (first | exact hp | exact (by assumption : ∀ p ∈ _, p ∈ _) p hp | apply List.mem_cons_of_mem)); done) | exact Mine.newSub (by k_mem) (by (intro p hp; (repeat (first | exact hp | exact (by assumption : ∀ p ∈ _, p ∈ _) p hp | apply List.mem_cons_of_mem)); done)))); (case hu => k_units); (case D => (first | (refine' Mine.DLike.plainN ?dda ?ddb ?ddc ?ddd; (case dda => k_asm); (case ddb => k_mem); (case ddc => rfl); (case ddd => assumption)) | (refine' Mine.DLike.bankN ?dda ?ddX ?ddb ?ddm ?ddx ?dde1 ?dde2 ?dde3 ?dde4 ?dde5 ?dde6 ?dde7 ?dde8 ?ddd; (case dda => k_asm); (case ddX => k_asm); (case ddb => k_asm); (case ddm => k_mem); (case ddx => k_mem); (case dde1 => k_is); (case dde2 => k_is); (case dde3 => k_is); (case dde4 => k_is); (case dde5 => k_is); (case dde6 => k_is); (case dde7 => k_is); (case dde8 => k_is); (case ddd => assumption)))); (case hs => with_unfolding_all rfl); k_whole); intro v tk hv; (try dsimp only)))
local macro_rules | `(tactic| walk_at "subscriptTail") => `(tactic| (k_here; (with_reducible show wpAny _ _ (subscriptTail _ _ (Value.ref _) _) _ _ _); k_dflt (refine' Mine.itemL_miss ?hh ?hu ?D ?N ?hl ?hm ?hc ?hd ?hkey ?T ?hy ?_ ?hs; (case hh => rfl); (case N => k_asm); (case hm => k_mem); (case hd => rfl); (case T => assumption); (case hy => (first | assumption | exact Mine.lkp_put)); (case hkey => (first | assumption | exact Mine.keyNew)); (case hl => (first | (intro p hp; (repeat (first | exact hp | exact (by assumption : ∀ p ∈ _, p ∈ _) p hp | apply List.mem_cons_of_mem)); done) | exact Mine.newSub (by k_mem) (by (intro p hp; (repeat (first | exact hp | exact (by assumption : ∀ p ∈ _, p ∈ _) p hp | apply List.mem_cons_of_mem)); done)))); (case hu => k_units); (case D => (first | (refine' Mine.DLike.plainN ?dda ?ddb ?ddc ?ddd; (case dda => k_asm); (case ddb => k_mem); (case ddc => rfl); (case ddd => assumption)) | (refine' Mine.DLike.bankN ?dda ?ddX ?ddb ?ddm ?ddx ?dde1 ?dde2 ?dde3 ?dde4 ?dde5 ?dde6 ?dde7 ?dde8 ?ddd; (case dda => k_asm); (case ddX => k_asm); (case ddb => k_asm); (case ddm => k_mem); (case ddx => k_mem); (case dde1 => k_is); (case dde2 => k_is); (case dde3 => k_is); (case dde4 => k_is); (case dde5 => k_is); (case dde6 => k_is); (case dde7 => k_is); (case dde8 => k_is); (case ddd => assumption)))); (case hc => rfl); (case hs => with_unfolding_all rfl); k_whole); intro h' e' tk hX; (try dsimp only at hX); (try dsimp only)))
local macro_rules | `(tactic| walk_at "compareOp In") => `(tactic| (k_here; (with_reducible show wpAny _ _ (compareOp CmpOp.In _ (Value.ref _)) _ _ _); k_dflt (refine' Mine.inL ?hu ?D ?N ?hl ?hm ?hd ?hkey ?T ?_; (case N => k_asm); (case hm => k_mem); (case hd => rfl); (case T => assumption); (case hkey => (first | assumption | exact Mine.keyNew)); (case hl => (first | (intro p hp; (repeat (first | exact hp | exact (by assumption : ∀ p ∈ _, p ∈ _) p hp | apply List.mem_cons_of_mem)); done) | exact Mine.newSub (by k_mem) (by (intro p hp; (repeat (first | exact hp | exact (by assumption : ∀ p ∈ _, p ∈ _) p hp | apply List.mem_cons_of_mem)); done)))); (case hu => k_units); (case D => (first | (refine' Mine.DLike.plainN ?dda ?ddb ?ddc ?ddd; (case dda => k_asm); (case ddb => k_mem); (case ddc => rfl); (case ddd => assumption)) | (refine' Mine.DLike.bankN ?dda ?ddX ?ddb ?ddm ?ddx ?dde1 ?dde2 ?dde3 ?dde4 ?dde5 ?dde6 ?dde7 ?dde8 ?ddd; (case dda => k_asm); (case ddX => k_asm); (case ddb => k_asm); (case ddm => k_mem); (case ddx => k_mem); (case dde1 => k_is); (case dde2 => k_is); (case dde3 => k_is); (case dde4 => k_is); (case dde5 => k_is); (case dde6 => k_is); (case dde7 => k_is); (case dde8 => k_is); (case ddd => assumption)))); k_whole); intro tk; (try dsimp only)))
local macro_rules | `(tactic| walk_at "compareOp NotIn") => `(tactic| (k_here; (with_reducible show wpAny _ _ (compareOp CmpOp.NotIn _ (Value.ref _)) _ _ _); k_dflt (refine' Mine.notInL ?hu ?D ?N ?hl ?hm ?hd ?hkey ?T ?_; (case N => k_asm); (case hm => k_mem); (case hd => rfl); (case T => assumption); (case hkey => (first | assumption | exact Mine.keyNew)); (case hl => (first | (intro p hp; (repeat (first | exact hp | exact (by assumption : ∀ p ∈ _, p ∈ _) p hp | apply List.mem_cons_of_mem)); done) | exact Mine.newSub (by k_mem) (by (intro p hp; (repeat (first | exact hp | exact (by assumption : ∀ p ∈ _, p ∈ _) p hp | apply List.mem_cons_of_mem)); done)))); (case hu => k_units); (case D => (first | (refine' Mine.DLike.plainN ?dda ?ddb ?ddc ?ddd; (case dda => k_asm); (case ddb => k_mem); (case ddc => rfl); (case ddd => assumption)) | (refine' Mine.DLike.bankN ?dda ?ddX ?ddb ?ddm ?ddx ?dde1 ?dde2 ?dde3 ?dde4 ?dde5 ?dde6 ?dde7 ?dde8 ?ddd; (case dda => k_asm); (case ddX => k_asm); (case ddb => k_asm); (case ddm => k_mem); (case ddx => k_mem); (case dde1 => k_is); (case dde2 => k_is); (case dde3 => k_is); (case dde4 => k_is); (case dde5 => k_is); (case dde6 => k_is); (case dde7 => k_is); (case dde8 => k_is); (case ddd => assumption)))); k_whole); intro tk; (try dsimp only)))
local macro_rules | `(tactic| walk_at "compareOp In") => `(tactic| (k_here; (with_reducible show wpAny _ _ (compareOp CmpOp.In _ (Value.ref _)) _ _ _); k_dflt (refine' Mine.inL_t ?hu ?D ?N ?hl ?hm ?hd ?hkey ?T ?hy ?_; (case N => k_asm); (case hm => k_mem); (case hd => rfl); (case T => assumption); (case hy => (first | assumption | exact Mine.lkp_put)); (case hkey => (first | assumption | exact Mine.keyNew)); (case hl => (first | (intro p hp; (repeat (first | exact hp | exact (by assumption : ∀ p ∈ _, p ∈ _) p hp | apply List.mem_cons_of_mem)); done) | exact Mine.newSub (by k_mem) (by (intro p hp; (repeat (first | exact hp | exact (by assumption : ∀ p ∈ _, p ∈ _) p hp | apply List.mem_cons_of_mem)); done)))); (case hu => k_units); (case D => (first | (refine' Mine.DLike.plainN ?dda ?ddb ?ddc ?ddd; (case dda => k_asm); (case ddb => k_mem); (case ddc => rfl); (case ddd => assumption)) | (refine' Mine.DLike.bankN ?dda ?ddX ?ddb ?ddm ?ddx ?dde1 ?dde2 ?dde3 ?dde4 ?dde5 ?dde6 ?dde7 ?dde8 ?ddd; (case dda => k_asm); (case ddX => k_asm); (case ddb => k_asm); (case ddm => k_mem); (case ddx => k_mem); (case dde1 => k_is); (case dde2 => k_is); (case dde3 => k_is); (case dde4 => k_is); (case dde5 => k_is); (case dde6 => k_is); (case dde7 => k_is); (case dde8 => k_is); (case ddd => assumption)))); k_whole); intro tk; (try dsimp only)))
local macro_rules | `(tactic| walk_at "compareOp In") => `(tactic| (k_here; (with_reducible show wpAny _ _ (compareOp CmpOp.In _ (Value.ref _)) _ _ _); k_dflt (refine' Mine.inL_f ?hu ?D ?N ?hl ?hm ?hd ?hkey ?T ?hy ?_; (case N => k_asm); (case hm => k_mem); (case hd => rfl); (case T => assumption); (case hy => (first | assumption | exact Mine.lkp_put)); (case hkey => (first | assumption | exact Mine.keyNew)); (case hl => (first | (intro p hp; (repeat (first | exact hp | exact (by assumption : ∀ p ∈ _, p ∈ _) p hp | apply List.mem_cons_of_mem)); done) | exact Mine.newSub (by k_mem) (by (intro p hp; (repeat (first | exact hp | exact (by assumption : ∀ p ∈ _, p ∈ _) p hp | apply List.mem_cons_of_mem)); done)))); (case hu => k_units); (case D => (first | (refine' Mine.DLike.plainN ?dda ?ddb ?ddc ?ddd; (case dda => k_asm); (case ddb => k_mem); (case ddc => rfl); (case ddd => assumption)) | (refine' Mine.DLike.bankN ?dda ?ddX ?ddb ?ddm ?ddx ?dde1 ?dde2 ?dde3 ?dde4 ?dde5 ?dde6 ?dde7 ?dde8 ?ddd; (case dda => k_asm); (case ddX => k_asm); (case ddb => k_asm); (case ddm => k_mem); (case ddx => k_mem); (case dde1 => k_is); (case dde2 => k_is); (case dde3 => k_is); (case dde4 => k_is); (case dde5 => k_is); (case dde6 => k_is); (case dde7 => k_is); (case dde8 => k_is); (case ddd => assumption)))); k_whole); intro tk; (try dsimp only)))
local macro_rules | `(tactic| walk_at "compareOp NotIn") => `(tactic| (k_here; (with_reducible show wpAny _ _ (compareOp CmpOp.NotIn _ (Value.ref _)) _ _ _); k_dflt (refine' Mine.notInL_t ?hu ?D ?N ?hl ?hm ?hd ?hkey ?T ?hy ?_; (case N => k_asm); (case hm => k_mem); (case hd => rfl); (case T => assumption); (case hy => (first | assumption | exact Mine.lkp_put)); (case hkey => (first | assumption | exact Mine.keyNew)); (case hl => (first | (intro p hp; (repeat (first | exact hp | exact (by assumption : ∀ p ∈ _, p ∈ _) p hp | apply List.mem_cons_of_mem)); done) | exact Mine.newSub (by k_mem) (by (intro p hp; (repeat (first | exact hp | exact (by assumption : ∀ p ∈ _, p ∈ _) p hp | apply List.mem_cons_of_mem)); done)))); (case hu => k_units); (case D => (first | (refine' Mine.DLike.plainN ?dda ?ddb ?ddc ?ddd; (case dda => k_asm); (case ddb => k_mem); (case ddc => rfl); (case ddd => assumption)) | (refine' Mine.DLike.bankN ?dda ?ddX ?ddb ?ddm ?ddx ?dde1 ?dde2 ?dde3 ?dde4 ?dde5 ?dde6 ?dde7 ?dde8 ?ddd; (case dda => k_asm); (case ddX => k_asm); (case ddb => k_asm); (case ddm => k_mem); (case ddx => k_mem); (case dde1 => k_is); (case dde2 => k_is); (case dde3 => k_is); (case dde4 => k_is); (case dde5 => k_is); (case dde6 => k_is); (case dde7 => k_is); (case dde8 => k_is); (case ddd => assumption)))); k_whole); intro tk; (try dsimp only)))
local macro_rules | `(tactic| walk_at "compareOp NotIn") => `(tactic| (k_here; (with_reducible show wpAny _ _ (compareOp CmpOp.NotIn _ (Value.ref _)) _ _ _); k_dflt (refine' Mine.notInL_f ?hu ?D ?N ?hl ?hm ?hd ?hkey ?T ?hy ?_; (case N => k_asm); (case hm => k_mem); (case hd => rfl); (case T => assumption); (case hy => (first | assumption | exact Mine.lkp_put)); (case hkey => (first | assumption | exact Mine.keyNew)); (case hl => (first | (intro p hp; (repeat (first | exact hp | exact (by assumption : ∀ p ∈ _, p ∈ _) p hp | apply List.mem_cons_of_mem)); done) | exact Mine.newSub (by k_mem) (by (intro p hp; (repeat (first | exact hp | exact (by assumption : ∀ p ∈ _, p ∈ _) p hp | apply List.mem_cons_of_mem)); done)))); (case hu => k_units); (case D => (first | (refine' Mine.DLike.plainN ?dda ?ddb ?ddc ?ddd; (case dda => k_asm); (case ddb => k_mem); (case ddc => rfl); (case ddd => assumption)) | (refine' Mine.DLike.bankN ?dda ?ddX ?ddb ?ddm ?ddx ?dde1 ?dde2 ?dde3 ?dde4 ?dde5 ?dde6 ?dde7 ?dde8 ?ddd; (case dda => k_asm); (case ddX => k_asm); (case ddb => k_asm); (case ddm => k_mem); (case ddx => k_mem); (case dde1 => k_is); (case dde2 => k_is); (case dde3 => k_is); (case dde4 => k_is); (case dde5 => k_is); (case dde6 => k_is); (case dde7 => k_is); (case dde8 => k_is); (case ddd => assumption)))); k_whole); intro tk; (try dsimp only)))
local macro_rules | `(tactic| walk_at "getMethod ref") => `(tactic| (k_here; (with_reducible show wpAny _ _ (getMethod (Value.ref _) (PySem.Str.ofString "get") _) _ _ _); k_dflt (refine' Mine.dictM PySem.F.slot_dict_get PySem.F.type_dict_get ?N ?m ?c ?n ?_; (case N => k_asm); (case m => k_mem); (case c => rfl); (case n => rfl); k_whole); (try dsimp only)))
local macro_rules | `(tactic| walk_at "getMethod ref") => `(tactic| (k_here; (with_reducible show wpAny _ _ (getMethod (Value.ref _) (PySem.Str.ofString "pop") _) _ _ _); k_dflt (refine' Mine.dictM PySem.F.slot_dict_pop PySem.F.type_dict_pop ?N ?m ?c ?n ?_; (case N => k_asm); (case m => k_mem); (case c => rfl); (case n => rfl); k_whole); (try dsimp only)))
local macro_rules | `(tactic| walk_at "getMethod ref") => `(tactic| (k_here; (with_reducible show wpAny _ _ (getMethod (Value.ref _) (PySem.Str.ofString "setdefault") _) _ _ _); k_dflt (refine' Mine.dictM PySem.F.slot_dict_setdefault PySem.F.type_dict_setdefault ?N ?m ?c ?n ?_; (case N => k_asm); (case m => k_mem); (case c => rfl); (case n => rfl); k_whole); (try dsimp only)))
local macro_rules | `(tactic| walk_at "call builtin:dict.setdefault") => `(tactic| (k_here; (with_reducible show wpAny _ _ (call (Value.builtin "dict.setdefault") [Value.ref _, _, _]) _ _ _); k_dflt (refine' Mine.setdefL ?hu ?D ?F ?N ?hl ?U ?hd ?hkey ?hv ?T ?hz ?hn ?_; (case F => k_asm); (case N => k_asm); (case U => k_updF); (case hd => rfl); (case T => assumption); (case hkey => (first | assumption | exact Mine.keyNew)); (case hl => (first | (intro p hp; (repeat (first | exact hp | exact (by assumption : ∀ p ∈ _, p ∈ _) p hp | apply List.mem_cons_of_mem)); done) | exact Mine.newSub (by k_mem) (by (intro p hp; (repeat (first | exact hp | exact (by assumption : ∀ p ∈ _, p ∈ _) p hp | apply List.mem_cons_of_mem)); done)))); (case hz => (first | assumption | omega)); (case hu => k_units); (case D => (first | (refine' Mine.DLike.plainN ?dda ?ddb ?ddc ?ddd; (case dda => k_asm); (case ddb => k_mem); (case ddc => rfl); (case ddd => assumption)) | (refine' Mine.DLike.bankN ?dda ?ddX ?ddb ?ddm ?ddx ?dde1 ?dde2 ?dde3 ?dde4 ?dde5 ?dde6 ?dde7 ?dde8 ?ddd; (case dda => k_asm); (case ddX => k_asm); (case ddb => k_asm); (case ddm => k_mem); (case ddx => k_mem); (case dde1 => k_is); (case dde2 => k_is); (case dde3 => k_is); (case dde4 => k_is); (case dde5 => k_is); (case dde6 => k_is); (case dde7 => k_is); (case dde8 => k_is); (case ddd => assumption)))); (case hv => assumption); (case hn => assumption); k_whole); intro h' es' ep' tk F' N' T'; (try dsimp only at N'); (try dsimp only)))
local macro_rules | `(tactic| walk_at "setItem ref") => `(tactic| (k_here; (with_reducible show wpAny _ _ (setItem (Value.ref _) _ _) _ _ _); k_dflt (refine' Mine.setL ?hu ?D ?F ?N ?hl ?U ?hd ?hkey ?hv ?T ?hz ?_; (case F => k_asm); (case N => k_asm); (case U => k_updF); (case hd => rfl); (case T => assumption); (case hkey => (first | assumption | exact Mine.keyNew)); (case hl => (first | (intro p hp; (repeat (first | exact hp | exact (by assumption : ∀ p ∈ _, p ∈ _) p hp | apply List.mem_cons_of_mem)); done) | exact Mine.newSub (by k_mem) (by (intro p hp; (repeat (first | exact hp | exact (by assumption : ∀ p ∈ _, p ∈ _) p hp | apply List.mem_cons_of_mem)); done)))); (case hz => (first | assumption | omega)); (case hu => k_units); (case D => (first | (refine' Mine.DLike.plainN ?dda ?ddb ?ddc ?ddd; (case dda => k_asm); (case ddb => k_mem); (case ddc => rfl); (case ddd => assumption)) | (refine' Mine.DLike.bankN ?dda ?ddX ?ddb ?ddm ?ddx ?dde1 ?dde2 ?dde3 ?dde4 ?dde5 ?dde6 ?dde7 ?dde8 ?ddd; (case dda => k_asm); (case ddX => k_asm); (case ddb => k_asm); (case ddm => k_mem); (case ddx => k_mem); (case dde1 => k_is); (case dde2 => k_is); (case dde3 => k_is); (case dde4 => k_is); (case dde5 => k_is); (case dde6 => k_is); (case dde7 => k_is); (case dde8 => k_is); (case ddd => assumption)))); (case hv => assumption); k_whole); intro h' es' ep' tk F' N' T'; (try dsimp only at N'); (try dsimp only)))
local macro_rules | `(tactic| k_enter) => `(tactic| (kts_any; (refine' Mine.enterT ?k1 ?k2 ?k3 ?k4 ?k5 ?kA ?kF ?kK ?k6 ?k7 ?k8 ?k9 ?kB ?_ ?c2 ?c3 ?c4 ?c5; (case kA => exact rfl); (case kF => exact rfl); (case kK => exact rfl); (case k1 => k_asm); (case k2 => k_asm); (case k3 => k_asm); (case k4 => k_asm); (case k5 => k_asm); (case k6 => k_is); (case k7 => k_is); (case k8 => k_room); (case k9 => first | exact BindsTo.of_eq rfl | exact binds_K (by k_in) rfl (by k_is) rfl rfl rfl); (case kB => exact locs rfl); (case c2 => exact rfl); (case c3 => exact rfl); (case c4 => exact rfl); (case c5 => decide); k_whole; intro g' L' h' FG' F' N' B' X' T'; (try dsimp only); (try k_lift B'); (try k_fold))))
local macro_rules | `(tactic| walk_at "noteFrame ref") => `(tactic| (k_here; (with_reducible rename Heap.NewExc _ _ _ _ => chX'); k_dflt (refine' Mine.caughtNew (T' := "KeyError") ?hx ?F ?N ?K ?XB ?TB ?T0 ?ex PyProof.Rows.Boot.«KeyError» ?hn kr_isExc_KeyError kr_notTuple_KeyError ?hs ?_; (case hx => assumption); (case F => assumption); (case N => assumption); (case K => assumption); (case XB => assumption); (case TB => assumption); (case T0 => first | assumption | exact KtsTurn.refl); (case hs => kts_sub); (case ex => k_is); (case hn => decide); k_whole); clear chX'; intro h' g' T' F' N' K' X' P'; (try k_lift K'); (try k_sweep)))
local macro_rules | `(tactic| k_all) => `(tactic| assumption)
local macro_rules | `(tactic| walk_at "setItem ref") => `(tactic| (k_here; (with_reducible show wpAny _ _ (setItem (Value.ref _) _ (Value.ref _)) _ _ _); k_dflt (refine' Mine.setLN ?hu ?D ?F ?N ?hl ?U ?hd ?hkey ?hm2 ?hvs ?T ?hz ?_; (case F => k_asm); (case N => k_asm); (case U => k_updF); (case hd => rfl); (case T => assumption); (case hkey => (first | assumption | exact Mine.keyNew)); (case hl => (first | (intro p hp; (repeat (first | exact hp | exact (by assumption : ∀ p ∈ _, p ∈ _) p hp | apply List.mem_cons_of_mem)); done) | exact Mine.newSub (by k_mem) (by (intro p hp; (repeat (first | exact hp | exact (by assumption : ∀ p ∈ _, p ∈ _) p hp | apply List.mem_cons_of_mem)); done)))); (case hz => (first | assumption | omega)); (case hu => k_units); (case D => (first | (refine' Mine.DLike.plainN ?dda ?ddb ?ddc ?ddd; (case dda => k_asm); (case ddb => k_mem); (case ddc => rfl); (case ddd => assumption)) | (refine' Mine.DLike.bankN ?dda ?ddX ?ddb ?ddm ?ddx ?dde1 ?dde2 ?dde3 ?dde4 ?dde5 ?dde6 ?dde7 ?dde8 ?ddd; (case dda => k_asm); (case ddX => k_asm); (case ddb => k_asm); (case ddm => k_mem); (case ddx => k_mem); (case dde1 => k_is); (case dde2 => k_is); (case dde3 => k_is); (case dde4 => k_is); (case dde5 => k_is); (case dde6 => k_is); (case dde7 => k_is); (case dde8 => k_is); (case ddd => assumption)))); (case hm2 => k_mem); (case hvs => (first | exact DatAll.cons (Mine.keyDat (by assumption)) (DatAll.cons (DatIn.int _ _) DatAll.nil) | exact DatAll.cons (DatIn.str _ _) (DatAll.cons (DatIn.int _ _) DatAll.nil))); k_whole); intro h' es' ep' tk F' N' T'; (try dsimp only at N'); (try dsimp only)))
local macro_rules | `(tactic| walk_at "call builtin:dict.setdefault") => `(tactic| (k_here; (with_reducible show wpAny _ _ (call (Value.builtin "dict.setdefault") [Value.ref _, _, Value.ref _]) _ _ _); k_dflt (refine' Mine.setdefLN ?hu ?D ?F ?N ?hl ?U ?hd ?hkey ?hm2 ?hvs ?T ?hz ?hn ?_; (case F => k_asm); (case N => k_asm); (case U => k_updF); (case hd => rfl); (case T => assumption); (case hkey => (first | assumption | exact Mine.keyNew)); (case hl => (first | (intro p hp; (repeat (first | exact hp | exact (by assumption : ∀ p ∈ _, p ∈ _) p hp | apply List.mem_cons_of_mem)); done) | exact Mine.newSub (by k_mem) (by (intro p hp; (repeat (first | exact hp | exact (by assumption : ∀ p ∈ _, p ∈ _) p hp | apply List.mem_cons_of_mem)); done)))); (case hz => (first | assumption | omega)); (case hu => k_units); (case D => (first | (refine' Mine.DLike.plainN ?dda ?ddb ?ddc ?ddd; (case dda => k_asm); (case ddb => k_mem); (case ddc => rfl); (case ddd => assumption)) | (refine' Mine.DLike.bankN ?dda ?ddX ?ddb ?ddm ?ddx ?dde1 ?dde2 ?dde3 ?dde4 ?dde5 ?dde6 ?dde7 ?dde8 ?ddd; (case dda => k_asm); (case ddX => k_asm); (case ddb => k_asm); (case ddm => k_mem); (case ddx => k_mem); (case dde1 => k_is); (case dde2 => k_is); (case dde3 => k_is); (case dde4 => k_is); (case dde5 => k_is); (case dde6 => k_is); (case dde7 => k_is); (case dde8 => k_is); (case ddd => assumption)))); (case hm2 => k_mem); (case hvs => (first | exact DatAll.cons (Mine.keyDat (by assumption)) (DatAll.cons (DatIn.int _ _) DatAll.nil) | exact DatAll.cons (DatIn.str _ _) (DatAll.cons (DatIn.int _ _) DatAll.nil))); (case hn => assumption); k_whole); intro h' es' ep' tk F' N' T'; (try dsimp only at N'); (try dsimp only)))
local macro_rules | `(tactic| walk_at "getMethod ref") => `(tactic| (k_here; (with_reducible show wpAny _ _ (getMethod (Value.ref _) _ _) _ _ _); k_dflt (refine' Mine.bankOwnV ?X ?N ?hm ?hx ?hga ?hk ?hf ?hh ?hs ?hed ?hval ?_; (case X => k_in); (case N => k_asm); (case hm => k_mem); (case hx => k_mem); (case hga => k_is); (case hk => k_is); (case hf => k_is); (case hh => k_is); (case hs => k_is); (case hed => assumption); (case hval => assumption); k_whole); intro tk; (try dsimp only)))
local macro_rules | `(tactic| walk_at "getMethod ref") => `(tactic| (k_here; (with_reducible show wpAny _ _ (getMethod (Value.ref _) _ _) _ _ _); k_dflt (refine' Mine.bankMeth ?X ?N ?hm ?hx ?hga ?hk ?hf ?ht ?hed ?hne ?_; (case X => k_in); (case N => k_asm); (case hm => k_mem); (case hx => k_mem); (case hga => k_is); (case hk => k_is); (case hf => k_is); (case ht => k_is); (case hed => assumption); (case hne => decide); k_whole); skip; (try dsimp only)))
local macro_rules | `(tactic| walk_at "subscriptTail") => `(tactic| (k_here; (with_reducible show wpAny _ _ (subscriptTail _ _ (Value.ref _) _) _ _ _); k_dflt (refine' Mine.bankMissV ?hu ?D ?X ?N ?hm ?hx ?hmi ?hf ?hl ?hkey ?T ?hy ?_ ?hs; (case hu => k_units); (case D => (first | (refine' Mine.DLike.plainN ?dda ?ddb ?ddc ?ddd; (case dda => k_asm); (case ddb => k_mem); (case ddc => rfl); (case ddd => assumption)) | (refine' Mine.DLike.bankN ?dda ?ddX ?ddb ?ddm ?ddx ?dde1 ?dde2 ?dde3 ?dde4 ?dde5 ?dde6 ?dde7 ?dde8 ?ddd; (case dda => k_asm); (case ddX => k_asm); (case ddb => k_asm); (case ddm => k_mem); (case ddx => k_mem); (case dde1 => k_is); (case dde2 => k_is); (case dde3 => k_is); (case dde4 => k_is); (case dde5 => k_is); (case dde6 => k_is); (case dde7 => k_is); (case dde8 => k_is); (case ddd => assumption)))); (case X => k_in); (case N => k_asm); (case hm => k_mem); (case hx => k_mem); (case hmi => k_is); (case hf => k_is); (case T => assumption); (case hy => assumption); (case hl => (first | (intro p hp; (repeat (first | exact hp | exact (by assumption : ∀ p ∈ _, p ∈ _) p hp | apply List.mem_cons_of_mem)); done) | exact Mine.newSub (by k_mem) (by (intro p hp; (repeat (first | exact hp | exact (by assumption : ∀ p ∈ _, p ∈ _) p hp | apply List.mem_cons_of_mem)); done)))); (case hkey => (first | assumption | exact Mine.keyNew)); (case hs => with_unfolding_all rfl); k_whole); intro tk; k_enter; (try dsimp only)))
local macro_rules | `(tactic| walk_at "call builtin:list.append") => `(tactic| (k_here; (with_reducible show wpAny _ _ (call (Value.builtin "list.append") [Value.ref _, _]) _ _ _); k_dflt (refine' Mine.appL ?F ?N ?U ?hz ?_; (case F => k_asm); (case N => k_asm); (case U => k_updF); (case hz => (first | assumption | omega)); k_whole); intro h' F' N'; (try dsimp only at N'); (try dsimp only)))
local macro_rules | `(tactic| walk_at "call builtin:len") => `(tactic| (k_here; (with_reducible show wpAny _ _ (call (Value.builtin "len") [Value.ref _]) _ _ _); k_dflt (refine' Mine.lenL ?N ?hm ?hz ?_; (case N => k_asm); (case hm => (first | k_mem | exact Mine.memSub (by assumption) (by (first | (intro p hp; (repeat (first | exact hp | exact (by assumption : ∀ p ∈ _, p ∈ _) p hp | apply List.mem_cons_of_mem)); done) | exact Mine.newSub (by k_mem) (by (intro p hp; (repeat (first | exact hp | exact (by assumption : ∀ p ∈ _, p ∈ _) p hp | apply List.mem_cons_of_mem)); done)))))); (case hz => (first | assumption | omega | (simp only [List.length_append, List.length_cons, List.length_nil]; omega))); k_whole); intro t tk; (try dsimp only)))
local macro_rules | `(tactic| walk_at "delItem ref") => `(tactic| (k_here; (with_reducible show wpAny _ _ (delItem (Value.ref _) _) _ _ _); k_dflt (refine' Mine.delL ?hu ?D ?F ?N ?hl ?U ?hd ?hkey ?T ?hz ?hy ?_; (case F => k_asm); (case N => k_asm); (case U => k_updF); (case hd => rfl); (case T => assumption); (case hy => assumption); (case hkey => (first | assumption | exact Mine.keyNew)); (case hl => (first | (intro p hp; (repeat (first | exact hp | exact (by assumption : ∀ p ∈ _, p ∈ _) p hp | apply List.mem_cons_of_mem)); done) | exact Mine.newSub (by k_mem) (by (intro p hp; (repeat (first | exact hp | exact (by assumption : ∀ p ∈ _, p ∈ _) p hp | apply List.mem_cons_of_mem)); done)))); (case hz => (first | assumption | omega)); (case hu => k_units); (case D => (first | (refine' Mine.DLike.plainN ?dda ?ddb ?ddc ?ddd; (case dda => k_asm); (case ddb => k_mem); (case ddc => rfl); (case ddd => assumption)) | (refine' Mine.DLike.bankN ?dda ?ddX ?ddb ?ddm ?ddx ?dde1 ?dde2 ?dde3 ?dde4 ?dde5 ?dde6 ?dde7 ?dde8 ?ddd; (case dda => k_asm); (case ddX => k_asm); (case ddb => k_asm); (case ddm => k_mem); (case ddx => k_mem); (case dde1 => k_is); (case dde2 => k_is); (case dde3 => k_is); (case dde4 => k_is); (case dde5 => k_is); (case dde6 => k_is); (case dde7 => k_is); (case dde8 => k_is); (case ddd => assumption)))); k_whole); intro h' es' ep' tk F' N' T'; (try dsimp only at N'); (try dsimp only)))
local macro_rules | `(tactic| walk_at "delItem ref") => `(tactic| (k_here; (with_reducible show wpAny _ _ (delItem (Value.ref _) _) _ _ _); k_dflt (refine' Mine.delL_miss ?hh ?hu ?D ?N ?hl ?hm ?hd ?hkey ?T ?hz ?hy ?_; (case hh => rfl); (case N => k_asm); (case hm => k_mem); (case hd => rfl); (case T => assumption); (case hy => assumption); (case hkey => (first | assumption | exact Mine.keyNew)); (case hl => (first | (intro p hp; (repeat (first | exact hp | exact (by assumption : ∀ p ∈ _, p ∈ _) p hp | apply List.mem_cons_of_mem)); done) | exact Mine.newSub (by k_mem) (by (intro p hp; (repeat (first | exact hp | exact (by assumption : ∀ p ∈ _, p ∈ _) p hp | apply List.mem_cons_of_mem)); done)))); (case hu => k_units); (case D => (first | (refine' Mine.DLike.plainN ?dda ?ddb ?ddc ?ddd; (case dda => k_asm); (case ddb => k_mem); (case ddc => rfl); (case ddd => assumption)) | (refine' Mine.DLike.bankN ?dda ?ddX ?ddb ?ddm ?ddx ?dde1 ?dde2 ?dde3 ?dde4 ?dde5 ?dde6 ?dde7 ?dde8 ?ddd; (case dda => k_asm); (case ddX => k_asm); (case ddb => k_asm); (case ddm => k_mem); (case ddx => k_mem); (case dde1 => k_is); (case dde2 => k_is); (case dde3 => k_is); (case dde4 => k_is); (case dde5 => k_is); (case dde6 => k_is); (case dde7 => k_is); (case dde8 => k_is); (case ddd => assumption)))); (case hz => (first | assumption | omega)); k_whole); intro h' e' tk hX; (try dsimp only at hX); (try dsimp only)))
local macro_rules | `(tactic| walk_at "call builtin:dict.pop") => `(tactic| (k_here; (with_reducible show wpAny _ _ (call (Value.builtin "dict.pop") [Value.ref _, _, _]) _ _ _); k_dflt (refine' Mine.popL3 ?hu ?D ?F ?N ?hl ?U ?hd ?hkey ?T ?hz ?_; (case F => k_asm); (case N => k_asm); (case U => k_updF); (case hd => rfl); (case T => assumption); (case hkey => (first | assumption | exact Mine.keyNew)); (case hl => (first | (intro p hp; (repeat (first | exact hp | exact (by assumption : ∀ p ∈ _, p ∈ _) p hp | apply List.mem_cons_of_mem)); done) | exact Mine.newSub (by k_mem) (by (intro p hp; (repeat (first | exact hp | exact (by assumption : ∀ p ∈ _, p ∈ _) p hp | apply List.mem_cons_of_mem)); done)))); (case hz => (first | assumption | omega)); (case hu => k_units); (case D => (first | (refine' Mine.DLike.plainN ?dda ?ddb ?ddc ?ddd; (case dda => k_asm); (case ddb => k_mem); (case ddc => rfl); (case ddd => assumption)) | (refine' Mine.DLike.bankN ?dda ?ddX ?ddb ?ddm ?ddx ?dde1 ?dde2 ?dde3 ?dde4 ?dde5 ?dde6 ?dde7 ?dde8 ?ddd; (case dda => k_asm); (case ddX => k_asm); (case ddb => k_asm); (case ddm => k_mem); (case ddx => k_mem); (case dde1 => k_is); (case dde2 => k_is); (case dde3 => k_is); (case dde4 => k_is); (case dde5 => k_is); (case dde6 => k_is); (case dde7 => k_is); (case dde8 => k_is); (case ddd => assumption)))); k_whole); intro v h' es' ep' tk F' N' T'; (try dsimp only at N'); (try dsimp only)))
local macro_rules | `(tactic| walk_at "call builtin:dict.pop") => `(tactic| (k_here; (with_reducible show wpAny _ _ (call (Value.builtin "dict.pop") [Value.ref _, _]) _ _ _); k_dflt (refine' Mine.popL2 ?hu ?D ?F ?N ?hl ?U ?hd ?hkey ?T ?hz ?hy ?_; (case F => k_asm); (case N => k_asm); (case U => k_updF); (case hd => rfl); (case T => assumption); (case hy => assumption); (case hkey => (first | assumption | exact Mine.keyNew)); (case hl => (first | (intro p hp; (repeat (first | exact hp | exact (by assumption : ∀ p ∈ _, p ∈ _) p hp | apply List.mem_cons_of_mem)); done) | exact Mine.newSub (by k_mem) (by (intro p hp; (repeat (first | exact hp | exact (by assumption : ∀ p ∈ _, p ∈ _) p hp | apply List.mem_cons_of_mem)); done)))); (case hz => (first | assumption | omega)); (case hu => k_units); (case D => (first | (refine' Mine.DLike.plainN ?dda ?ddb ?ddc ?ddd; (case dda => k_asm); (case ddb => k_mem); (case ddc => rfl); (case ddd => assumption)) | (refine' Mine.DLike.bankN ?dda ?ddX ?ddb ?ddm ?ddx ?dde1 ?dde2 ?dde3 ?dde4 ?dde5 ?dde6 ?dde7 ?dde8 ?ddd; (case dda => k_asm); (case ddX => k_asm); (case ddb => k_asm); (case ddm => k_mem); (case ddx => k_mem); (case dde1 => k_is); (case dde2 => k_is); (case dde3 => k_is); (case dde4 => k_is); (case dde5 => k_is); (case dde6 => k_is); (case dde7 => k_is); (case dde8 => k_is); (case ddd => assumption)))); k_whole); intro v h' es' ep' tk hv F' N' T'; (try dsimp only at N'); (try dsimp only)))
local macro_rules | `(tactic| walk_at "call builtin:dict.get") => `(tactic| (k_here; (with_reducible show wpAny _ _ (call (Value.builtin "dict.get") [Value.ref _, _, _]) _ _ _); k_dflt (refine' Mine.getL_t ?hu ?D ?N ?hl ?hm ?hd ?hkey ?T ?hy ?_; (case N => k_asm); (case hm => k_mem); (case hd => rfl); (case T => assumption); (case hy => assumption); (case hkey => (first | assumption | exact Mine.keyNew)); (case hl => (first | (intro p hp; (repeat (first | exact hp | exact (by assumption : ∀ p ∈ _, p ∈ _) p hp | apply List.mem_cons_of_mem)); done) | exact Mine.newSub (by k_mem) (by (intro p hp; (repeat (first | exact hp | exact (by assumption : ∀ p ∈ _, p ∈ _) p hp | apply List.mem_cons_of_mem)); done)))); (case hu => k_units); (case D => (first | (refine' Mine.DLike.plainN ?dda ?ddb ?ddc ?ddd; (case dda => k_asm); (case ddb => k_mem); (case ddc => rfl); (case ddd => assumption)) | (refine' Mine.DLike.bankN ?dda ?ddX ?ddb ?ddm ?ddx ?dde1 ?dde2 ?dde3 ?dde4 ?dde5 ?dde6 ?dde7 ?dde8 ?ddd; (case dda => k_asm); (case ddX => k_asm); (case ddb => k_asm); (case ddm => k_mem); (case ddx => k_mem); (case dde1 => k_is); (case dde2 => k_is); (case dde3 => k_is); (case dde4 => k_is); (case dde5 => k_is); (case dde6 => k_is); (case dde7 => k_is); (case dde8 => k_is); (case ddd => assumption)))); k_whole); intro v tk hv; (try dsimp only)))
local macro_rules | `(tactic| walk_at "call builtin:dict.get") => `(tactic| (k_here; (with_reducible show wpAny _ _ (call (Value.builtin "dict.get") [Value.ref _, _, _]) _ _ _); k_dflt (refine' Mine.getL_f ?hu ?D ?N ?hl ?hm ?hd ?hkey ?T ?hy ?_; (case N => k_asm); (case hm => k_mem); (case hd => rfl); (case T => assumption); (case hy => assumption); (case hkey => (first | assumption | exact Mine.keyNew)); (case hl => (first | (intro p hp; (repeat (first | exact hp | exact (by assumption : ∀ p ∈ _, p ∈ _) p hp | apply List.mem_cons_of_mem)); done) | exact Mine.newSub (by k_mem) (by (intro p hp; (repeat (first | exact hp | exact (by assumption : ∀ p ∈ _, p ∈ _) p hp | apply List.mem_cons_of_mem)); done)))); (case hu => k_units); (case D => (first | (refine' Mine.DLike.plainN ?dda ?ddb ?ddc ?ddd; (case dda => k_asm); (case ddb => k_mem); (case ddc => rfl); (case ddd => assumption)) | (refine' Mine.DLike.bankN ?dda ?ddX ?ddb ?ddm ?ddx ?dde1 ?dde2 ?dde3 ?dde4 ?dde5 ?dde6 ?dde7 ?dde8 ?ddd; (case dda => k_asm); (case ddX => k_asm); (case ddb => k_asm); (case ddm => k_mem); (case ddx => k_mem); (case dde1 => k_is); (case dde2 => k_is); (case dde3 => k_is); (case dde4 => k_is); (case dde5 => k_is); (case dde6 => k_is); (case dde7 => k_is); (case dde8 => k_is); (case ddd => assumption)))); k_whole); intro tk; (try dsimp only)))
local macro_rules | `(tactic| walk_at "binaryOp Add") => `(tactic| (k_here; (with_reducible show wpAny _ _ (binaryOp Operator.Add (Value.ref _) (Value.ref _)) _ _ _); k_dflt (refine' Mine.addL ?F ?N ?hm ?hl ?hb ?hz ?_; (case F => k_asm); (case N => k_asm); (case hb => k_mem); (case hm => assumption); (case hl => (first | (intro p hp; (repeat (first | exact hp | exact (by assumption : ∀ p ∈ _, p ∈ _) p hp | apply List.mem_cons_of_mem)); done) | exact Mine.newSub (by k_mem) (by (intro p hp; (repeat (first | exact hp | exact (by assumption : ∀ p ∈ _, p ∈ _) p hp | apply List.mem_cons_of_mem)); done)))); (case hz => (simp only [List.length_append, List.length_cons, List.length_nil]; omega)); k_whole); intro c' h' F' N' l1; (try k_lt l1); (try dsimp only)))
local macro_rules | `(tactic| walk_at "compareOp Eq") => `(tactic| (k_here; (with_reducible show wpAny _ _ (compareOp CmpOp.Eq _ _) _ _ _); k_dflt (refine' Mine.eqKeys ?N ?h1 ?h2 ?hl ?hl' ?hu ?_; (case N => k_asm); (case h1 => assumption); (case h2 => assumption); (case hl => (first | (intro p hp; (repeat (first | exact hp | exact (by assumption : ∀ p ∈ _, p ∈ _) p hp | apply List.mem_cons_of_mem)); done) | exact Mine.newSub (by k_mem) (by (intro p hp; (repeat (first | exact hp | exact (by assumption : ∀ p ∈ _, p ∈ _) p hp | apply List.mem_cons_of_mem)); done)))); (case hl' => (first | (intro p hp; (repeat (first | exact hp | exact (by assumption : ∀ p ∈ _, p ∈ _) p hp | apply List.mem_cons_of_mem)); done) | exact Mine.newSub (by k_mem) (by (intro p hp; (repeat (first | exact hp | exact (by assumption : ∀ p ∈ _, p ∈ _) p hp | apply List.mem_cons_of_mem)); done)))); (case hu => k_units); k_whole); intro r; (try dsimp only)))
local macro_rules | `(tactic| walk_at "compareOp Eq") => `(tactic| (k_here; (with_reducible show wpAny _ _ (compareOp CmpOp.Eq _ _) _ _ _); k_dflt (refine' Mine.eqKeyT ?N ?h1 ?h2 ?hl ?hl' ?hu ?_; (case N => k_asm); (case h1 => assumption); (case h2 => assumption); (case hl => (first | (intro p hp; (repeat (first | exact hp | exact (by assumption : ∀ p ∈ _, p ∈ _) p hp | apply List.mem_cons_of_mem)); done) | exact Mine.newSub (by k_mem) (by (intro p hp; (repeat (first | exact hp | exact (by assumption : ∀ p ∈ _, p ∈ _) p hp | apply List.mem_cons_of_mem)); done)))); (case hl' => (first | (intro p hp; (repeat (first | exact hp | exact (by assumption : ∀ p ∈ _, p ∈ _) p hp | apply List.mem_cons_of_mem)); done) | exact Mine.newSub (by k_mem) (by (intro p hp; (repeat (first | exact hp | exact (by assumption : ∀ p ∈ _, p ∈ _) p hp | apply List.mem_cons_of_mem)); done)))); (case hu => k_units); k_whole); skip; (try dsimp only)))
local macro_rules | `(tactic| walk_at "compareOp NotEq") => `(tactic| (k_here; (with_reducible show wpAny _ _ (compareOp CmpOp.NotEq _ _) _ _ _); k_dflt (refine' Mine.neD ?N ?h1 ?h2 ?hl ?hl' ?hok ?hu ?_; (case N => k_asm); (case h1 => assumption); (case h2 => assumption); (case hl => (intro p hp; repeat (first | exact hp | exact (by assumption : ∀ p ∈ _, p ∈ _) p hp | apply List.mem_cons_of_mem))); (case hl' => (intro p hp; repeat (first | exact hp | exact (by assumption : ∀ p ∈ _, p ∈ _) p hp | apply List.mem_cons_of_mem))); (case hok => assumption); (case hu => k_units); k_whole); skip; (try dsimp only)))
local macro_rules | `(tactic| walk_at "compareOp NotEq ref") => `(tactic| (k_here; (with_reducible show wpAny _ _ (compareOp CmpOp.NotEq _ _) _ _ _); k_dflt (refine' Mine.neD ?N ?h1 ?h2 ?hl ?hl' ?hok ?hu ?_; (case N => k_asm); (case h1 => assumption); (case h2 => assumption); (case hl => (intro p hp; repeat (first | exact hp | exact (by assumption : ∀ p ∈ _, p ∈ _) p hp | apply List.mem_cons_of_mem))); (case hl' => (intro p hp; repeat (first | exact hp | exact (by assumption : ∀ p ∈ _, p ∈ _) p hp | apply List.mem_cons_of_mem))); (case hok => assumption); (case hu => k_units); k_whole); skip; (try dsimp only)))
local macro_rules | `(tactic| walk_at "compareOp NotEq ref ref") => `(tactic| (k_here; (with_reducible show wpAny _ _ (compareOp CmpOp.NotEq _ _) _ _ _); k_dflt (refine' Mine.neD ?N ?h1 ?h2 ?hl ?hl' ?hok ?hu ?_; (case N => k_asm); (case h1 => assumption); (case h2 => assumption); (case hl => (intro p hp; repeat (first | exact hp | exact (by assumption : ∀ p ∈ _, p ∈ _) p hp | apply List.mem_cons_of_mem))); (case hl' => (intro p hp; repeat (first | exact hp | exact (by assumption : ∀ p ∈ _, p ∈ _) p hp | apply List.mem_cons_of_mem))); (case hok => assumption); (case hu => k_units); k_whole); skip; (try dsimp only)))
local macro_rules | `(tactic| walk_at "compareOp NotEq ref") => `(tactic| (k_here; (with_reducible show wpAny _ _ (compareOp CmpOp.NotEq (Value.ref _) _) _ _ _); k_dflt (refine' Mine.neMade ?N ?hm ?hd ?h2 ?hl ?hl' ?hok ?hu ?_; (case N => k_asm); (case hm => k_mem); (case hd => assumption); (case h2 => assumption); (case hl => (intro p hp; repeat (first | exact hp | exact (by assumption : ∀ p ∈ _, p ∈ _) p hp | apply List.mem_cons_of_mem))); (case hl' => (intro p hp; repeat (first | exact hp | exact (by assumption : ∀ p ∈ _, p ∈ _) p hp | apply List.mem_cons_of_mem))); (case hok => assumption); (case hu => k_units); k_whole); skip; (try dsimp only)))
local macro_rules | `(tactic| walk_at "compareOp NotEq ref ref") => `(tactic| (k_here; (with_reducible show wpAny _ _ (compareOp CmpOp.NotEq (Value.ref _) _) _ _ _); k_dflt (refine' Mine.neMade ?N ?hm ?hd ?h2 ?hl ?hl' ?hok ?hu ?_; (case N => k_asm); (case hm => k_mem); (case hd => assumption); (case h2 => assumption); (case hl => (intro p hp; repeat (first | exact hp | exact (by assumption : ∀ p ∈ _, p ∈ _) p hp | apply List.mem_cons_of_mem))); (case hl' => (intro p hp; repeat (first | exact hp | exact (by assumption : ∀ p ∈ _, p ∈ _) p hp | apply List.mem_cons_of_mem))); (case hok => assumption); (case hu => k_units); k_whole); skip; (try dsimp only)))
local macro_rules | `(tactic| walk_at "getMethod ref") => `(tactic| (k_here; (with_reducible show wpAny _ _ (getMethod (Value.ref _) (PySem.Str.ofString "items") _) _ _ _); k_dflt (refine' Mine.dictM PySem.F.slot_dict_items PySem.F.type_dict_items ?N ?m ?c ?n ?_; (case N => k_asm); (case m => k_mem); (case c => rfl); (case n => rfl); k_whole); (try dsimp only)))
local macro_rules | `(tactic| walk_at "call builtin:dict.items") => `(tactic| (k_here; (with_reducible show wpAny _ _ (call (Value.builtin "dict.items") [Value.ref _]) _ _ _); k_dflt (refine' Mine.itemsL ?D ?F ?N ?_; (case D => (first | (refine' Mine.DLike.plainN ?dda ?ddb ?ddc ?ddd; (case dda => k_asm); (case ddb => k_mem); (case ddc => rfl); (case ddd => assumption)) | (refine' Mine.DLike.bankN ?dda ?ddX ?ddb ?ddm ?ddx ?dde1 ?dde2 ?dde3 ?dde4 ?dde5 ?dde6 ?dde7 ?dde8 ?ddd; (case dda => k_asm); (case ddX => k_asm); (case ddb => k_asm); (case ddm => k_mem); (case ddx => k_mem); (case dde1 => k_is); (case dde2 => k_is); (case dde3 => k_is); (case dde4 => k_is); (case dde5 => k_is); (case dde6 => k_is); (case dde7 => k_is); (case dde8 => k_is); (case ddd => assumption)))); (case F => k_asm); (case N => k_asm); k_whole); intro v' h' F' N' l1; (try k_lt l1); (try dsimp only)))
local macro_rules | `(tactic| walk_at "call type:list") => `(tactic| (k_here; (with_reducible show wpAny _ _ (call (Value.type "list") [Value.ref _]) _ _ _); k_dflt (refine' Mine.listItemsL ?hh ?F ?N ?hv ?hm ?hd ?T ?hlo ?hz ?Tl ?_; (case hh => rfl); (case F => k_asm); (case N => k_asm); (case hv => k_mem); (case hm => k_mem); (case hd => rfl); (case T => assumption); (case Tl => ((repeat apply Mine.TailF.cons); exact Mine.TailF.here)); (case hlo => (first | assumption | exact (fun _ h => h) | exact fun p hp => (by assumption : ∀ p ∈ _, p ∈ _) p ((by assumption : ∀ p ∈ _, p ∈ _) p hp))); (case hz => assumption); k_whole); intro S' h' tk own' F' N' hs' hd'; (try dsimp only at N'); (try dsimp only)))
local macro_rules | `(tactic| walk_at "compareOp NotEq ref ref") => `(tactic| (k_here; (with_reducible show wpAny _ _ (compareOp CmpOp.NotEq (Value.ref _) (Value.ref _)) _ _ _); k_dflt (refine' Mine.neT ?N ?hm ?hv ?hl ?hm2 ?e ?hu ?_; (case N => k_asm); (case hm => k_mem); (case hm2 => k_mem); (case hv => assumption); (case hl => (first | (intro p hp; (repeat (first | exact hp | exact (by assumption : ∀ p ∈ _, p ∈ _) p hp | apply List.mem_cons_of_mem)); done) | exact Mine.newSub (by k_mem) (by (intro p hp; (repeat (first | exact hp | exact (by assumption : ∀ p ∈ _, p ∈ _) p hp | apply List.mem_cons_of_mem)); done)))); (case e => (first | omega | (simp only [List.length_append, List.length_cons, List.length_nil]; omega))); (case hu => k_units); k_whole); skip; (try dsimp only)))
local macro_rules | `(tactic| walk_at "compareOp NotEq") => `(tactic| (k_here; (with_reducible show wpAny _ _ (compareOp CmpOp.NotEq _ (Value.ref _)) _ _ _); k_dflt (refine' Mine.neDT ?N ?h1 ?hl ?hm2 ?e ?hu ?_; (case N => k_asm); (case hm2 => k_mem); (case h1 => assumption); (case hl => (first | (intro p hp; (repeat (first | exact hp | exact (by assumption : ∀ p ∈ _, p ∈ _) p hp | apply List.mem_cons_of_mem)); done) | exact Mine.newSub (by k_mem) (by (intro p hp; (repeat (first | exact hp | exact (by assumption : ∀ p ∈ _, p ∈ _) p hp | apply List.mem_cons_of_mem)); done)))); (case e => (first | omega | (simp only [List.length_append, List.length_cons, List.length_nil]; omega))); (case hu => k_units); k_whole); skip; (try dsimp only)))
local macro_rules | `(tactic| walk_at "compareOp In str ref") => `(tactic| (k_here; (with_reducible show wpAny _ _ (compareOp CmpOp.In _ (Value.ref _)) _ _ _); k_dflt (refine' Mine.inL_t ?hu ?D ?N ?hl ?hm ?hd ?hkey ?T ?hy ?_; (case N => k_asm); (case hm => k_mem); (case hd => rfl); (case T => assumption); (case hy => (first | assumption | exact Mine.lkp_put)); (case hkey => (first | assumption | exact Mine.keyNew)); (case hl => (first | (intro p hp; (repeat (first | exact hp | exact (by assumption : ∀ p ∈ _, p ∈ _) p hp | apply List.mem_cons_of_mem)); done) | exact Mine.newSub (by k_mem) (by (intro p hp; (repeat (first | exact hp | exact (by assumption : ∀ p ∈ _, p ∈ _) p hp | apply List.mem_cons_of_mem)); done)))); (case hu => k_units); (case D => (first | (refine' Mine.DLike.plainN ?dda ?ddb ?ddc ?ddd; (case dda => k_asm); (case ddb => k_mem); (case ddc => rfl); (case ddd => assumption)) | (refine' Mine.DLike.bankN ?dda ?ddX ?ddb ?ddm ?ddx ?dde1 ?dde2 ?dde3 ?dde4 ?dde5 ?dde6 ?dde7 ?dde8 ?ddd; (case dda => k_asm); (case ddX => k_asm); (case ddb => k_asm); (case ddm => k_mem); (case ddx => k_mem); (case dde1 => k_is); (case dde2 => k_is); (case dde3 => k_is); (case dde4 => k_is); (case dde5 => k_is); (case dde6 => k_is); (case dde7 => k_is); (case dde8 => k_is); (case ddd => assumption)))); k_whole); intro tk; (try dsimp only)))
local macro_rules | `(tactic| walk_at "compareOp In str ref") => `(tactic| (k_here; (with_reducible show wpAny _ _ (compareOp CmpOp.In _ (Value.ref _)) _ _ _); k_dflt (refine' Mine.inL_f ?hu ?D ?N ?hl ?hm ?hd ?hkey ?T ?hy ?_; (case N => k_asm); (case hm => k_mem); (case hd => rfl); (case T => assumption); (case hy => (first | assumption | exact Mine.lkp_put)); (case hkey => (first | assumption | exact Mine.keyNew)); (case hl => (first | (intro p hp; (repeat (first | exact hp | exact (by assumption : ∀ p ∈ _, p ∈ _) p hp | apply List.mem_cons_of_mem)); done) | exact Mine.newSub (by k_mem) (by (intro p hp; (repeat (first | exact hp | exact (by assumption : ∀ p ∈ _, p ∈ _) p hp | apply List.mem_cons_of_mem)); done)))); (case hu => k_units); (case D => (first | (refine' Mine.DLike.plainN ?dda ?ddb ?ddc ?ddd; (case dda => k_asm); (case ddb => k_mem); (case ddc => rfl); (case ddd => assumption)) | (refine' Mine.DLike.bankN ?dda ?ddX ?ddb ?ddm ?ddx ?dde1 ?dde2 ?dde3 ?dde4 ?dde5 ?dde6 ?dde7 ?dde8 ?ddd; (case dda => k_asm); (case ddX => k_asm); (case ddb => k_asm); (case ddm => k_mem); (case ddx => k_mem); (case dde1 => k_is); (case dde2 => k_is); (case dde3 => k_is); (case dde4 => k_is); (case dde5 => k_is); (case dde6 => k_is); (case dde7 => k_is); (case dde8 => k_is); (case ddd => assumption)))); k_whole); intro tk; (try dsimp only)))
local macro_rules | `(tactic| walk_at "compareOp NotIn str ref") => `(tactic| (k_here; (with_reducible show wpAny _ _ (compareOp CmpOp.NotIn _ (Value.ref _)) _ _ _); k_dflt (refine' Mine.notInL_t ?hu ?D ?N ?hl ?hm ?hd ?hkey ?T ?hy ?_; (case N => k_asm); (case hm => k_mem); (case hd => rfl); (case T => assumption); (case hy => (first | assumption | exact Mine.lkp_put)); (case hkey => (first | assumption | exact Mine.keyNew)); (case hl => (first | (intro p hp; (repeat (first | exact hp | exact (by assumption : ∀ p ∈ _, p ∈ _) p hp | apply List.mem_cons_of_mem)); done) | exact Mine.newSub (by k_mem) (by (intro p hp; (repeat (first | exact hp | exact (by assumption : ∀ p ∈ _, p ∈ _) p hp | apply List.mem_cons_of_mem)); done)))); (case hu => k_units); (case D => (first | (refine' Mine.DLike.plainN ?dda ?ddb ?ddc ?ddd; (case dda => k_asm); (case ddb => k_mem); (case ddc => rfl); (case ddd => assumption)) | (refine' Mine.DLike.bankN ?dda ?ddX ?ddb ?ddm ?ddx ?dde1 ?dde2 ?dde3 ?dde4 ?dde5 ?dde6 ?dde7 ?dde8 ?ddd; (case dda => k_asm); (case ddX => k_asm); (case ddb => k_asm); (case ddm => k_mem); (case ddx => k_mem); (case dde1 => k_is); (case dde2 => k_is); (case dde3 => k_is); (case dde4 => k_is); (case dde5 => k_is); (case dde6 => k_is); (case dde7 => k_is); (case dde8 => k_is); (case ddd => assumption)))); k_whole); intro tk; (try dsimp only)))
local macro_rules | `(tactic| walk_at "compareOp NotIn str ref") => `(tactic| (k_here; (with_reducible show wpAny _ _ (compareOp CmpOp.NotIn _ (Value.ref _)) _ _ _); k_dflt (refine' Mine.notInL_f ?hu ?D ?N ?hl ?hm ?hd ?hkey ?T ?hy ?_; (case N => k_asm); (case hm => k_mem); (case hd => rfl); (case T => assumption); (case hy => (first | assumption | exact Mine.lkp_put)); (case hkey => (first | assumption | exact Mine.keyNew)); (case hl => (first | (intro p hp; (repeat (first | exact hp | exact (by assumption : ∀ p ∈ _, p ∈ _) p hp | apply List.mem_cons_of_mem)); done) | exact Mine.newSub (by k_mem) (by (intro p hp; (repeat (first | exact hp | exact (by assumption : ∀ p ∈ _, p ∈ _) p hp | apply List.mem_cons_of_mem)); done)))); (case hu => k_units); (case D => (first | (refine' Mine.DLike.plainN ?dda ?ddb ?ddc ?ddd; (case dda => k_asm); (case ddb => k_mem); (case ddc => rfl); (case ddd => assumption)) | (refine' Mine.DLike.bankN ?dda ?ddX ?ddb ?ddm ?ddx ?dde1 ?dde2 ?dde3 ?dde4 ?dde5 ?dde6 ?dde7 ?dde8 ?ddd; (case dda => k_asm); (case ddX => k_asm); (case ddb => k_asm); (case ddm => k_mem); (case ddx => k_mem); (case dde1 => k_is); (case dde2 => k_is); (case dde3 => k_is); (case dde4 => k_is); (case dde5 => k_is); (case dde6 => k_is); (case dde7 => k_is); (case dde8 => k_is); (case ddd => assumption)))); k_whole); intro tk; (try dsimp only)))
local macro_rules | `(tactic| walk_at "compareOp In int ref") => `(tactic| (k_here; (with_reducible show wpAny _ _ (compareOp CmpOp.In _ (Value.ref _)) _ _ _); k_dflt (refine' Mine.inL_t ?hu ?D ?N ?hl ?hm ?hd ?hkey ?T ?hy ?_; (case N => k_asm); (case hm => k_mem); (case hd => rfl); (case T => assumption); (case hy => (first | assumption | exact Mine.lkp_put)); (case hkey => (first | assumption | exact Mine.keyNew)); (case hl => (first | (intro p hp; (repeat (first | exact hp | exact (by assumption : ∀ p ∈ _, p ∈ _) p hp | apply List.mem_cons_of_mem)); done) | exact Mine.newSub (by k_mem) (by (intro p hp; (repeat (first | exact hp | exact (by assumption : ∀ p ∈ _, p ∈ _) p hp | apply List.mem_cons_of_mem)); done)))); (case hu => k_units); (case D => (first | (refine' Mine.DLike.plainN ?dda ?ddb ?ddc ?ddd; (case dda => k_asm); (case ddb => k_mem); (case ddc => rfl); (case ddd => assumption)) | (refine' Mine.DLike.bankN ?dda ?ddX ?ddb ?ddm ?ddx ?dde1 ?dde2 ?dde3 ?dde4 ?dde5 ?dde6 ?dde7 ?dde8 ?ddd; (case dda => k_asm); (case ddX => k_asm); (case ddb => k_asm); (case ddm => k_mem); (case ddx => k_mem); (case dde1 => k_is); (case dde2 => k_is); (case dde3 => k_is); (case dde4 => k_is); (case dde5 => k_is); (case dde6 => k_is); (case dde7 => k_is); (case dde8 => k_is); (case ddd => assumption)))); k_whole); intro tk; (try dsimp only)))
local macro_rules | `(tactic| walk_at "compareOp In int ref") => `(tactic| (k_here; (with_reducible show wpAny _ _ (compareOp CmpOp.In _ (Value.ref _)) _ _ _); k_dflt (refine' Mine.inL_f ?hu ?D ?N ?hl ?hm ?hd ?hkey ?T ?hy ?_; (case N => k_asm); (case hm => k_mem); (case hd => rfl); (case T => assumption); (case hy => (first | assumption | exact Mine.lkp_put)); (case hkey => (first | assumption | exact Mine.keyNew)); (case hl => (first | (intro p hp; (repeat (first | exact hp | exact (by assumption : ∀ p ∈ _, p ∈ _) p hp | apply List.mem_cons_of_mem)); done) | exact Mine.newSub (by k_mem) (by (intro p hp; (repeat (first | exact hp | exact (by assumption : ∀ p ∈ _, p ∈ _) p hp | apply List.mem_cons_of_mem)); done)))); (case hu => k_units); (case D => (first | (refine' Mine.DLike.plainN ?dda ?ddb ?ddc ?ddd; (case dda => k_asm); (case ddb => k_mem); (case ddc => rfl); (case ddd => assumption)) | (refine' Mine.DLike.bankN ?dda ?ddX ?ddb ?ddm ?ddx ?dde1 ?dde2 ?dde3 ?dde4 ?dde5 ?dde6 ?dde7 ?dde8 ?ddd; (case dda => k_asm); (case ddX => k_asm); (case ddb => k_asm); (case ddm => k_mem); (case ddx => k_mem); (case dde1 => k_is); (case dde2 => k_is); (case dde3 => k_is); (case dde4 => k_is); (case dde5 => k_is); (case dde6 => k_is); (case dde7 => k_is); (case dde8 => k_is); (case ddd => assumption)))); k_whole); intro tk; (try dsimp only)))
local macro_rules | `(tactic| walk_at "compareOp NotIn int ref") => `(tactic| (k_here; (with_reducible show wpAny _ _ (compareOp CmpOp.NotIn _ (Value.ref _)) _ _ _); k_dflt (refine' Mine.notInL_t ?hu ?D ?N ?hl ?hm ?hd ?hkey ?T ?hy ?_; (case N => k_asm); (case hm => k_mem); (case hd => rfl); (case T => assumption); (case hy => (first | assumption | exact Mine.lkp_put)); (case hkey => (first | assumption | exact Mine.keyNew)); (case hl => (first | (intro p hp; (repeat (first | exact hp | exact (by assumption : ∀ p ∈ _, p ∈ _) p hp | apply List.mem_cons_of_mem)); done) | exact Mine.newSub (by k_mem) (by (intro p hp; (repeat (first | exact hp | exact (by assumption : ∀ p ∈ _, p ∈ _) p hp | apply List.mem_cons_of_mem)); done)))); (case hu => k_units); (case D => (first | (refine' Mine.DLike.plainN ?dda ?ddb ?ddc ?ddd; (case dda => k_asm); (case ddb => k_mem); (case ddc => rfl); (case ddd => assumption)) | (refine' Mine.DLike.bankN ?dda ?ddX ?ddb ?ddm ?ddx ?dde1 ?dde2 ?dde3 ?dde4 ?dde5 ?dde6 ?dde7 ?dde8 ?ddd; (case dda => k_asm); (case ddX => k_asm); (case ddb => k_asm); (case ddm => k_mem); (case ddx => k_mem); (case dde1 => k_is); (case dde2 => k_is); (case dde3 => k_is); (case dde4 => k_is); (case dde5 => k_is); (case dde6 => k_is); (case dde7 => k_is); (case dde8 => k_is); (case ddd => assumption)))); k_whole); intro tk; (try dsimp only)))
local macro_rules | `(tactic| walk_at "compareOp NotIn int ref") => `(tactic| (k_here; (with_reducible show wpAny _ _ (compareOp CmpOp.NotIn _ (Value.ref _)) _ _ _); k_dflt (refine' Mine.notInL_f ?hu ?D ?N ?hl ?hm ?hd ?hkey ?T ?hy ?_; (case N => k_asm); (case hm => k_mem); (case hd => rfl); (case T => assumption); (case hy => (first | assumption | exact Mine.lkp_put)); (case hkey => (first | assumption | exact Mine.keyNew)); (case hl => (first | (intro p hp; (repeat (first | exact hp | exact (by assumption : ∀ p ∈ _, p ∈ _) p hp | apply List.mem_cons_of_mem)); done) | exact Mine.newSub (by k_mem) (by (intro p hp; (repeat (first | exact hp | exact (by assumption : ∀ p ∈ _, p ∈ _) p hp | apply List.mem_cons_of_mem)); done)))); (case hu => k_units); (case D => (first | (refine' Mine.DLike.plainN ?dda ?ddb ?ddc ?ddd; (case dda => k_asm); (case ddb => k_mem); (case ddc => rfl); (case ddd => assumption)) | (refine' Mine.DLike.bankN ?dda ?ddX ?ddb ?ddm ?ddx ?dde1 ?dde2 ?dde3 ?dde4 ?dde5 ?dde6 ?dde7 ?dde8 ?ddd; (case dda => k_asm); (case ddX => k_asm); (case ddb => k_asm); (case ddm => k_mem); (case ddx => k_mem); (case dde1 => k_is); (case dde2 => k_is); (case dde3 => k_is); (case dde4 => k_is); (case dde5 => k_is); (case dde6 => k_is); (case dde7 => k_is); (case dde8 => k_is); (case ddd => assumption)))); k_whole); intro tk; (try dsimp only)))
local macro_rules | `(tactic| walk_at "compareOp In ref ref") => `(tactic| (k_here; (with_reducible show wpAny _ _ (compareOp CmpOp.In _ (Value.ref _)) _ _ _); k_dflt (refine' Mine.inL_t ?hu ?D ?N ?hl ?hm ?hd ?hkey ?T ?hy ?_; (case N => k_asm); (case hm => k_mem); (case hd => rfl); (case T => assumption); (case hy => (first | assumption | exact Mine.lkp_put)); (case hkey => (first | assumption | exact Mine.keyNew)); (case hl => (first | (intro p hp; (repeat (first | exact hp | exact (by assumption : ∀ p ∈ _, p ∈ _) p hp | apply List.mem_cons_of_mem)); done) | exact Mine.newSub (by k_mem) (by (intro p hp; (repeat (first | exact hp | exact (by assumption : ∀ p ∈ _, p ∈ _) p hp | apply List.mem_cons_of_mem)); done)))); (case hu => k_units); (case D => (first | (refine' Mine.DLike.plainN ?dda ?ddb ?ddc ?ddd; (case dda => k_asm); (case ddb => k_mem); (case ddc => rfl); (case ddd => assumption)) | (refine' Mine.DLike.bankN ?dda ?ddX ?ddb ?ddm ?ddx ?dde1 ?dde2 ?dde3 ?dde4 ?dde5 ?dde6 ?dde7 ?dde8 ?ddd; (case dda => k_asm); (case ddX => k_asm); (case ddb => k_asm); (case ddm => k_mem); (case ddx => k_mem); (case dde1 => k_is); (case dde2 => k_is); (case dde3 => k_is); (case dde4 => k_is); (case dde5 => k_is); (case dde6 => k_is); (case dde7 => k_is); (case dde8 => k_is); (case ddd => assumption)))); k_whole); intro tk; (try dsimp only)))
local macro_rules | `(tactic| walk_at "compareOp In ref ref") => `(tactic| (k_here; (with_reducible show wpAny _ _ (compareOp CmpOp.In _ (Value.ref _)) _ _ _); k_dflt (refine' Mine.inL_f ?hu ?D ?N ?hl ?hm ?hd ?hkey ?T ?hy ?_; (case N => k_asm); (case hm => k_mem); (case hd => rfl); (case T => assumption); (case hy => (first | assumption | exact Mine.lkp_put)); (case hkey => (first | assumption | exact Mine.keyNew)); (case hl => (first | (intro p hp; (repeat (first | exact hp | exact (by assumption : ∀ p ∈ _, p ∈ _) p hp | apply List.mem_cons_of_mem)); done) | exact Mine.newSub (by k_mem) (by (intro p hp; (repeat (first | exact hp | exact (by assumption : ∀ p ∈ _, p ∈ _) p hp | apply List.mem_cons_of_mem)); done)))); (case hu => k_units); (case D => (first | (refine' Mine.DLike.plainN ?dda ?ddb ?ddc ?ddd; (case dda => k_asm); (case ddb => k_mem); (case ddc => rfl); (case ddd => assumption)) | (refine' Mine.DLike.bankN ?dda ?ddX ?ddb ?ddm ?ddx ?dde1 ?dde2 ?dde3 ?dde4 ?dde5 ?dde6 ?dde7 ?dde8 ?ddd; (case dda => k_asm); (case ddX => k_asm); (case ddb => k_asm); (case ddm => k_mem); (case ddx => k_mem); (case dde1 => k_is); (case dde2 => k_is); (case dde3 => k_is); (case dde4 => k_is); (case dde5 => k_is); (case dde6 => k_is); (case dde7 => k_is); (case dde8 => k_is); (case ddd => assumption)))); k_whole); intro tk; (try dsimp only)))
local macro_rules | `(tactic| walk_at "compareOp NotIn ref ref") => `(tactic| (k_here; (with_reducible show wpAny _ _ (compareOp CmpOp.NotIn _ (Value.ref _)) _ _ _); k_dflt (refine' Mine.notInL_t ?hu ?D ?N ?hl ?hm ?hd ?hkey ?T ?hy ?_; (case N => k_asm); (case hm => k_mem); (case hd => rfl); (case T => assumption); (case hy => (first | assumption | exact Mine.lkp_put)); (case hkey => (first | assumption | exact Mine.keyNew)); (case hl => (first | (intro p hp; (repeat (first | exact hp | exact (by assumption : ∀ p ∈ _, p ∈ _) p hp | apply List.mem_cons_of_mem)); done) | exact Mine.newSub (by k_mem) (by (intro p hp; (repeat (first | exact hp | exact (by assumption : ∀ p ∈ _, p ∈ _) p hp | apply List.mem_cons_of_mem)); done)))); (case hu => k_units); (case D => (first | (refine' Mine.DLike.plainN ?dda ?ddb ?ddc ?ddd; (case dda => k_asm); (case ddb => k_mem); (case ddc => rfl); (case ddd => assumption)) | (refine' Mine.DLike.bankN ?dda ?ddX ?ddb ?ddm ?ddx ?dde1 ?dde2 ?dde3 ?dde4 ?dde5 ?dde6 ?dde7 ?dde8 ?ddd; (case dda => k_asm); (case ddX => k_asm); (case ddb => k_asm); (case ddm => k_mem); (case ddx => k_mem); (case dde1 => k_is); (case dde2 => k_is); (case dde3 => k_is); (case dde4 => k_is); (case dde5 => k_is); (case dde6 => k_is); (case dde7 => k_is); (case dde8 => k_is); (case ddd => assumption)))); k_whole); intro tk; (try dsimp only)))
local macro_rules | `(tactic| walk_at "compareOp NotIn ref ref") => `(tactic| (k_here; (with_reducible show wpAny _ _ (compareOp CmpOp.NotIn _ (Value.ref _)) _ _ _); k_dflt (refine' Mine.notInL_f ?hu ?D ?N ?hl ?hm ?hd ?hkey ?T ?hy ?_; (case N => k_asm); (case hm => k_mem); (case hd => rfl); (case T => assumption); (case hy => (first | assumption | exact Mine.lkp_put)); (case hkey => (first | assumption | exact Mine.keyNew)); (case hl => (first | (intro p hp; (repeat (first | exact hp | exact (by assumption : ∀ p ∈ _, p ∈ _) p hp | apply List.mem_cons_of_mem)); done) | exact Mine.newSub (by k_mem) (by (intro p hp; (repeat (first | exact hp | exact (by assumption : ∀ p ∈ _, p ∈ _) p hp | apply List.mem_cons_of_mem)); done)))); (case hu => k_units); (case D => (first | (refine' Mine.DLike.plainN ?dda ?ddb ?ddc ?ddd; (case dda => k_asm); (case ddb => k_mem); (case ddc => rfl); (case ddd => assumption)) | (refine' Mine.DLike.bankN ?dda ?ddX ?ddb ?ddm ?ddx ?dde1 ?dde2 ?dde3 ?dde4 ?dde5 ?dde6 ?dde7 ?dde8 ?ddd; (case dda => k_asm); (case ddX => k_asm); (case ddb => k_asm); (case ddm => k_mem); (case ddx => k_mem); (case dde1 => k_is); (case dde2 => k_is); (case dde3 => k_is); (case dde4 => k_is); (case dde5 => k_is); (case dde6 => k_is); (case dde7 => k_is); (case dde8 => k_is); (case ddd => assumption)))); k_whole); intro tk; (try dsimp only)))
local macro_rules | `(tactic| walk_at "compareOp NotEq") => `(tactic| (k_here; (with_reducible show wpAny _ _ (compareOp CmpOp.NotEq (Value.bool _) (Value.bool _)) _ _ _); k_dflt (refine' Mine.neD (l := []) (l' := []) ?N ?h1 ?h2 ?hl ?hl' ?hok ?hu ?_; (case N => k_asm); (case h1 => exact DatIn.bool _); (case h2 => exact DatIn.bool _); (case hl => exact (fun _ h => nomatch h)); (case hl' => exact (fun _ h => nomatch h)); (case hok => exact rfl); (case hu => k_units); k_whole); skip; (try dsimp only)))
local macro_rules | `(tactic| walk_at "compareOp NotEq bool") => `(tactic| (k_here; (with_reducible show wpAny _ _ (compareOp CmpOp.NotEq (Value.bool _) (Value.bool _)) _ _ _); k_dflt (refine' Mine.neD (l := []) (l' := []) ?N ?h1 ?h2 ?hl ?hl' ?hok ?hu ?_; (case N => k_asm); (case h1 => exact DatIn.bool _); (case h2 => exact DatIn.bool _); (case hl => exact (fun _ h => nomatch h)); (case hl' => exact (fun _ h => nomatch h)); (case hok => exact rfl); (case hu => k_units); k_whole); skip; (try dsimp only)))
local macro_rules | `(tactic| walk_at "compareOp NotEq bool bool") => `(tactic| (k_here; (with_reducible show wpAny _ _ (compareOp CmpOp.NotEq (Value.bool _) (Value.bool _)) _ _ _); k_dflt (refine' Mine.neD (l := []) (l' := []) ?N ?h1 ?h2 ?hl ?hl' ?hok ?hu ?_; (case N => k_asm); (case h1 => exact DatIn.bool _); (case h2 => exact DatIn.bool _); (case hl => exact (fun _ h => nomatch h)); (case hl' => exact (fun _ h => nomatch h)); (case hok => exact rfl); (case hu => k_units); k_whole); skip; (try dsimp only)))
local macro_rules | `(tactic| walk_at "call builtin:len") => `(tactic| (k_here; (with_reducible show wpAny _ _ (call (Value.builtin "len") [Value.ref _]) _ _ _); k_dflt (refine' Mine.lenD ?D ?N ?hm ?hd ?T ?hz ?_; (case N => k_asm); (case hm => k_mem); (case hd => rfl); (case T => assumption); (case hz => assumption); (case D => (first | (refine' Mine.DLike.plainN ?dda ?ddb ?ddc ?ddd; (case dda => k_asm); (case ddb => k_mem); (case ddc => rfl); (case ddd => assumption)) | (refine' Mine.DLike.bankN ?dda ?ddX ?ddb ?ddm ?ddx ?dde1 ?dde2 ?dde3 ?dde4 ?dde5 ?dde6 ?dde7 ?dde8 ?ddd; (case dda => k_asm); (case ddX => k_asm); (case ddb => k_asm); (case ddm => k_mem); (case ddx => k_mem); (case dde1 => k_is); (case dde2 => k_is); (case dde3 => k_is); (case dde4 => k_is); (case dde5 => k_is); (case dde6 => k_is); (case dde7 => k_is); (case dde8 => k_is); (case ddd => assumption)))); k_whole); intro t tk; (try dsimp only)))
local macro_rules | `(tactic| walk_at "compareOp Eq") => `(tactic| (k_here; (with_reducible show wpAny _ _ (compareOp CmpOp.Eq (Value.ref _) (Value.ref _)) _ _ _); k_dflt (refine' Mine.eqMade ?N ?hm ?hm2 ?hd ?hd2 ?hl ?e ?hok ?hu ?_; (case N => k_asm); (case hm => k_mem); (case hm2 => k_mem); (case hd => assumption); (case hd2 => assumption); (case hl => (first | (intro p hp; (repeat (first | exact hp | exact (by assumption : ∀ p ∈ _, p ∈ _) p hp | apply List.mem_cons_of_mem)); done) | exact Mine.newSub (by k_mem) (by (intro p hp; (repeat (first | exact hp | exact (by assumption : ∀ p ∈ _, p ∈ _) p hp | apply List.mem_cons_of_mem)); done)))); (case e => assumption); (case hok => assumption); (case hu => k_units); k_whole); skip; (try dsimp only)))
local macro_rules | `(tactic| walk_at "compareOp Eq ref") => `(tactic| (k_here; (with_reducible show wpAny _ _ (compareOp CmpOp.Eq (Value.ref _) (Value.ref _)) _ _ _); k_dflt (refine' Mine.eqMade ?N ?hm ?hm2 ?hd ?hd2 ?hl ?e ?hok ?hu ?_; (case N => k_asm); (case hm => k_mem); (case hm2 => k_mem); (case hd => assumption); (case hd2 => assumption); (case hl => (first | (intro p hp; (repeat (first | exact hp | exact (by assumption : ∀ p ∈ _, p ∈ _) p hp | apply List.mem_cons_of_mem)); done) | exact Mine.newSub (by k_mem) (by (intro p hp; (repeat (first | exact hp | exact (by assumption : ∀ p ∈ _, p ∈ _) p hp | apply List.mem_cons_of_mem)); done)))); (case e => assumption); (case hok => assumption); (case hu => k_units); k_whole); skip; (try dsimp only)))
local macro_rules | `(tactic| walk_at "compareOp Eq ref ref") => `(tactic| (k_here; (with_reducible show wpAny _ _ (compareOp CmpOp.Eq (Value.ref _) (Value.ref _)) _ _ _); k_dflt (refine' Mine.eqMade ?N ?hm ?hm2 ?hd ?hd2 ?hl ?e ?hok ?hu ?_; (case N => k_asm); (case hm => k_mem); (case hm2 => k_mem); (case hd => assumption); (case hd2 => assumption); (case hl => (first | (intro p hp; (repeat (first | exact hp | exact (by assumption : ∀ p ∈ _, p ∈ _) p hp | apply List.mem_cons_of_mem)); done) | exact Mine.newSub (by k_mem) (by (intro p hp; (repeat (first | exact hp | exact (by assumption : ∀ p ∈ _, p ∈ _) p hp | apply List.mem_cons_of_mem)); done)))); (case e => assumption); (case hok => assumption); (case hu => k_units); k_whole); skip; (try dsimp only)))

set_option maxHeartbeats 8000000 in
theorem s5a {w : World} {base : Heap} {q : Par} {loose : List Str} {mean : ExcName → Option Value} {mg mb : Str → Option Value} (C : Cx w base q loose mean mg mb) {σ : Sta} {own : List (Addr × Obj)} {s : Shared} {vN : Value} {m₀ : Str → Option Value} {i : Int} {u : Tok} {vo v1 va : Value} {b k0 : Nat} {xs ys : List (Nat × Dat)} {ds : List Dat}
    {Q : Flow → Shared → Prop} {E : Value → Shared → Prop} (hi0 : 0 ≤ i) (hi1 : i < 64) (hb : b ≤ 100) {led : List (Addr × Obj)} (hs : ∀ p ∈ own, p ∈ led) (O : ownOK q led) (R : Rel w own σ vN b k0 xs xs ys ys ds ds) {y : Dat} (hy : lkp ys k0 = some y)
    (K : Then5 w base q own led Q i u b s)
    (F : Fr base q.L s.heap (turnM vo v1 σ.vS .none .none va (.int i u) (canon q.aQ q.aK q.aH vN m₀))) (N : News base q.L s.heap (muts q σ ++ consts q ++ led)) : wpAny (model PRG w) (callerA.deeper (lawEnv q.L q.fa)) (execs (deed 1) (lawEnv q.L q.fa)) Q E s := by
  obtain ⟨X, T, B, CD, cS, cM, cB, ⟨vsF, tF, hF1, hF2⟩, ⟨vsH, tH, hH1, hH2⟩, ⟨vsC, tC, hC1, hC2⟩, ⟨eB1, eB2, eB3⟩, ord⟩ := C
  obtain ⟨o1, o2, o3, o4, o5, o6, o7, o8, o9, o10, o11, o12, o13, o14, o15, o16⟩ := ord
  obtain ⟨kS, tB, tK, tR, tH', dM, dN, k4, iB, iK, iR, iH, iM, iN, lM, lN⟩ := R
  have lB : xs.length ≤ 1000 := by have := iB.len tB; omega
  have lK : xs.length ≤ 1000 := by have := iK.len tK; omega
  have lR : ys.length ≤ 1000 := by have := iR.len tR; omega
  have lH : ys.length ≤ 1000 := by have := iH.len tH'; omega
  have zl := DatAll.length dM
  have zM : σ.vsM.length ≤ 200 := by rw [DatAll.length dM]; omega
  have nB : (q.aB == sysModules) = false := nsys_of (by omega)
  have nR : (q.aR == sysModules) = false := nsys_of (by omega)
  have nK : (q.aK == sysModules) = false := nsys_of (by omega)
  have nH : (q.aH == sysModules) = false := nsys_of (by omega)
  have fS : ∀ p ∈ led, p.1 ≠ q.aS := fun p hp => (O p hp).1
  have fM : ∀ p ∈ led, p.1 ≠ q.aM := fun p hp => (O p hp).2.1
  have fB : ∀ p ∈ led, p.1 ≠ q.aB := fun p hp => (O p hp).2.2.1
  have fR : ∀ p ∈ led, p.1 ≠ q.aR := fun p hp => (O p hp).2.2.2.1
  have fK : ∀ p ∈ led, p.1 ≠ q.aK := fun p hp => (O p hp).2.2.2.2.1
  have fH : ∀ p ∈ led, p.1 ≠ q.aH := fun p hp => (O p hp).2.2.2.2.2
  obtain ⟨hh, g, dr, tk, os⟩ := s
  dsimp only [muts, consts, madeFn, lawEnv, loopBody, pick, forBody, lawBody, lawScope, createS, hereS, freshS, ifThen, ifElse, ifTest, ifPos, boolItems, pickE, boolPos, notArg, notPos, forTarget, forIter, forPos, askE, chain, deed, growB, defArgs, defBody, defScope, PySem.Challenge.pw_eu0027_01, List.cons_append, List.nil_append, turnM] at F N hF2 hH2 hC2 ⊢
  k_steps
  all_goals (try dsimp only)
  all_goals (rename Fr _ _ _ _ => FF; rename News _ _ _ _ => NN)
  refine K _ _ _ _ [] _ _ _ _ _ _ _ k0 xs ys ds y ?zR ?zt ?zw ?zo ?zg (Fr.turn FF rfl rfl rfl rfl rfl rfl rfl rfl rfl rfl rfl) (pack0 (NN))
  case zR => exact ⟨kS, tB, tK, tR, tH', dM, dN, k4, iB, iK, iR, iH, iM, iN, Nat.le_succ_of_le lM, Nat.le_succ_of_le lN⟩
  case zt => assumption
  case zw => assumption
  case zo => exact dokUp (dokUp (iR.get hy))
  case zg => exact Grown.nil

set_option maxHeartbeats 8000000 in
theorem s5b {w : World} {base : Heap} {q : Par} {loose : List Str} {mean : ExcName → Option Value} {mg mb : Str → Option Value} (C : Cx w base q loose mean mg mb) {σ : Sta} {own : List (Addr × Obj)} {s : Shared} {vN : Value} {m₀ : Str → Option Value} {i : Int} {u : Tok} {vo v1 va : Value} {b k0 : Nat} {xs ys : List (Nat × Dat)} {ds : List Dat}
    {Q : Flow → Shared → Prop} {E : Value → Shared → Prop} (hi0 : 0 ≤ i) (hi1 : i < 64) (hb : b ≤ 100) {led : List (Addr × Obj)} (hs : ∀ p ∈ own, p ∈ led) (O : ownOK q led) (R : Rel w own σ vN b k0 xs xs ys ys ds ds) {y : Dat} (hy : lkp ys k0 = none) (hyB : lkp xs k0 = some y)
    (K : Then5 w base q own led Q i u b s)
    (F : Fr base q.L s.heap (turnM vo v1 σ.vS .none .none va (.int i u) (canon q.aQ q.aK q.aH vN m₀))) (N : News base q.L s.heap (muts q σ ++ consts q ++ led)) : wpAny (model PRG w) (callerA.deeper (lawEnv q.L q.fa)) (execs (deed 1) (lawEnv q.L q.fa)) Q E s := by
  obtain ⟨X, T, B, CD, cS, cM, cB, ⟨vsF, tF, hF1, hF2⟩, ⟨vsH, tH, hH1, hH2⟩, ⟨vsC, tC, hC1, hC2⟩, ⟨eB1, eB2, eB3⟩, ord⟩ := C
  obtain ⟨o1, o2, o3, o4, o5, o6, o7, o8, o9, o10, o11, o12, o13, o14, o15, o16⟩ := ord
  obtain ⟨kS, tB, tK, tR, tH', dM, dN, k4, iB, iK, iR, iH, iM, iN, lM, lN⟩ := R
  have lB : xs.length ≤ 1000 := by have := iB.len tB; omega
  have lK : xs.length ≤ 1000 := by have := iK.len tK; omega
  have lR : ys.length ≤ 1000 := by have := iR.len tR; omega
  have lH : ys.length ≤ 1000 := by have := iH.len tH'; omega
  have zl := DatAll.length dM
  have zM : σ.vsM.length ≤ 200 := by rw [DatAll.length dM]; omega
  have nB : (q.aB == sysModules) = false := nsys_of (by omega)
  have nR : (q.aR == sysModules) = false := nsys_of (by omega)
  have nK : (q.aK == sysModules) = false := nsys_of (by omega)
  have nH : (q.aH == sysModules) = false := nsys_of (by omega)
  have fS : ∀ p ∈ led, p.1 ≠ q.aS := fun p hp => (O p hp).1
  have fM : ∀ p ∈ led, p.1 ≠ q.aM := fun p hp => (O p hp).2.1
  have fB : ∀ p ∈ led, p.1 ≠ q.aB := fun p hp => (O p hp).2.2.1
  have fR : ∀ p ∈ led, p.1 ≠ q.aR := fun p hp => (O p hp).2.2.2.1
  have fK : ∀ p ∈ led, p.1 ≠ q.aK := fun p hp => (O p hp).2.2.2.2.1
  have fH : ∀ p ∈ led, p.1 ≠ q.aH := fun p hp => (O p hp).2.2.2.2.2
  obtain ⟨hh, g, dr, tk, os⟩ := s
  dsimp only [muts, consts, madeFn, lawEnv, loopBody, pick, forBody, lawBody, lawScope, createS, hereS, freshS, ifThen, ifElse, ifTest, ifPos, boolItems, pickE, boolPos, notArg, notPos, forTarget, forIter, forPos, askE, chain, deed, growB, defArgs, defBody, defScope, PySem.Challenge.pw_eu0027_01, List.cons_append, List.nil_append, turnM] at F N hF2 hH2 hC2 ⊢
  k_steps
  all_goals (try dsimp only)
  all_goals (rename Fr _ _ _ _ => FF; rename News _ _ _ _ => NN)
  refine K _ _ _ _ [] _ _ _ _ _ _ _ k0 xs (put ys k0 y) ds y ?zR ?zt ?zw ?zo ?zg (Fr.turn FF rfl rfl rfl rfl rfl rfl rfl rfl rfl rfl rfl) (pack0 (NN))
  case zR => exact ⟨kS, by assumption, by assumption, by assumption, by assumption, dM, dN, k4, iB, iK, iR.put k4 (iB.getK hyB), iH.put k4 (iB.getK hyB), iM, iN, Nat.le_succ_of_le lM, Nat.le_succ_of_le lN⟩
  case zt => assumption
  case zw => assumption
  case zo => exact dokUp (dokUp (iB.get hyB))
  case zg => exact Grown.nil

set_option maxHeartbeats 8000000 in
theorem s5c {w : World} {base : Heap} {q : Par} {loose : List Str} {mean : ExcName → Option Value} {mg mb : Str → Option Value} (C : Cx w base q loose mean mg mb) {σ : Sta} {own : List (Addr × Obj)} {s : Shared} {vN : Value} {m₀ : Str → Option Value} {i : Int} {u : Tok} {vo v1 va : Value} {b k0 : Nat} {xs ys : List (Nat × Dat)} {ds : List Dat}
    {Q : Flow → Shared → Prop} {E : Value → Shared → Prop} (hi0 : 0 ≤ i) (hi1 : i < 64) (hb : b ≤ 100) {led : List (Addr × Obj)} (hs : ∀ p ∈ own, p ∈ led) (O : ownOK q led) (R : Rel w own σ vN (b + 1) k0 xs (put xs k0 (.tuple [kdat k0, .int ((σ.vsM ++ [σ.vS]).length : Int)])) ys ys ds (ds ++ [kdat k0])) (hM : ds.length ≤ b) (hy : lkp ys k0 = none) (hyB : lkp xs k0 = none)
    (K : Then5 w base q own led Q i u b s)
    (F : Fr base q.L s.heap (turnM vo v1 σ.vS .none .none va (.int i u) (canon q.aQ q.aK q.aH vN m₀))) (N : News base q.L s.heap (muts q σ ++ consts q ++ led)) : wpAny (model PRG w) (callerA.deeper (lawEnv q.L q.fa)) (execs (deed 1) (lawEnv q.L q.fa)) Q E s := by
  obtain ⟨X, T, B, CD, cS, cM, cB, ⟨vsF, tF, hF1, hF2⟩, ⟨vsH, tH, hH1, hH2⟩, ⟨vsC, tC, hC1, hC2⟩, ⟨eB1, eB2, eB3⟩, ord⟩ := C
  obtain ⟨o1, o2, o3, o4, o5, o6, o7, o8, o9, o10, o11, o12, o13, o14, o15, o16⟩ := ord
  obtain ⟨kS, tB, tK, tR, tH', dM, dN, k4, iB, iK, iR, iH, iM, iN, lM, lN⟩ := R
  have lB : xs.length ≤ 1000 := by have := iB.len tB; omega
  have lK : (put xs k0 (.tuple [kdat k0, .int ((σ.vsM ++ [σ.vS]).length : Int)])).length ≤ 1000 := by have := iK.len tK; omega
  have lR : ys.length ≤ 1000 := by have := iR.len tR; omega
  have lH : ys.length ≤ 1000 := by have := iH.len tH'; omega
  have zl := DatAll.length dM
  have zM : σ.vsM.length ≤ 200 := by rw [DatAll.length dM]; omega
  have nB : (q.aB == sysModules) = false := nsys_of (by omega)
  have nR : (q.aR == sysModules) = false := nsys_of (by omega)
  have nK : (q.aK == sysModules) = false := nsys_of (by omega)
  have nH : (q.aH == sysModules) = false := nsys_of (by omega)
  have fS : ∀ p ∈ led, p.1 ≠ q.aS := fun p hp => (O p hp).1
  have fM : ∀ p ∈ led, p.1 ≠ q.aM := fun p hp => (O p hp).2.1
  have fB : ∀ p ∈ led, p.1 ≠ q.aB := fun p hp => (O p hp).2.2.1
  have fR : ∀ p ∈ led, p.1 ≠ q.aR := fun p hp => (O p hp).2.2.2.1
  have fK : ∀ p ∈ led, p.1 ≠ q.aK := fun p hp => (O p hp).2.2.2.2.1
  have fH : ∀ p ∈ led, p.1 ≠ q.aH := fun p hp => (O p hp).2.2.2.2.2
  obtain ⟨hh, g, dr, tk, os⟩ := s
  dsimp only [muts, consts, madeFn, lawEnv, loopBody, pick, forBody, lawBody, lawScope, createS, hereS, freshS, ifThen, ifElse, ifTest, ifPos, boolItems, pickE, boolPos, notArg, notPos, forTarget, forIter, forPos, askE, chain, deed, growB, defArgs, defBody, defScope, PySem.Challenge.pw_eu0027_01, List.cons_append, List.nil_append, turnM] at F N hF2 hH2 hC2 ⊢
  k_steps
  all_goals (try dsimp only)
  all_goals (rename Fr _ _ _ _ => FF; rename News _ _ _ _ => NN)
  refine K _ _ _ _ [_] _ _ _ _ _ _ _ k0 (put xs k0 (.tuple [kdat k0, .int ((σ.vsM ++ [σ.vS]).length : Int)])) (put ys k0 (.tuple [kdat k0, .int ((σ.vsM ++ [σ.vS]).length : Int)])) (ds ++ [kdat k0]) (.tuple [kdat k0, .int ((σ.vsM ++ [σ.vS]).length : Int)]) ?zR ?zt ?zw ?zo ?zg (Fr.turn FF rfl rfl rfl rfl rfl rfl rfl rfl rfl rfl rfl) (pack1 (NN))
  case zR => exact ⟨kS.mono subNew, by assumption, tK.mono subNew, by assumption, TabL.mono (by assumption) subNew, snocIn subNew (kS.2.mono subNew) dM, dN.mono subNew, k4, iB.put k4 (okTup _ _), iK, iR.put k4 (okTup _ _), iH.put k4 (okTup _ _), snocOk iM (dokKey _), iN, by rw [List.length_append]; exact Nat.succ_le_succ hM, lN⟩
  case zt => first | assumption | exact DatIn.mono subNew (by assumption) | exact tupNew (DatAll.cons kS.2 (DatAll.cons (DatIn.int _ _) DatAll.nil))
  case zw => first | assumption | exact DatIn.mono subNew (by assumption)
  case zo => exact dokUp (dokUp (dokOf (okTup _ _)))
  case zg => exact Grown.cons (by assumption) (by omega) Grown.nil

set_option maxHeartbeats 8000000 in
theorem s50 {w : World} {base : Heap} {q : Par} {loose : List Str} {mean : ExcName → Option Value} {mg mb : Str → Option Value} (C : Cx w base q loose mean mg mb) {σ : Sta} {own : List (Addr × Obj)} {s : Shared} {vN : Value} {m₀ : Str → Option Value} {i : Int} {u : Tok} {vo v1 va : Value} {b k0 : Nat} {xs ys : List (Nat × Dat)} {ds : List Dat} {k1 : Nat} (hk1 : k1 < 4)
    {Q : Flow → Shared → Prop} {E : Value → Shared → Prop} (hi0 : 0 ≤ i) (hi1 : i < 64) (hb : b ≤ 100) {led : List (Addr × Obj)} (hs : ∀ p ∈ own, p ∈ led) (O : ownOK q led) (R : Rel w own σ vN b k0 xs xs ys ys ds ds) (K1 : KeyIn own k1 v1) 
    (K : Then5 w base q own led Q i u b s)
    (F : Fr base q.L s.heap (turnM vo v1 σ.vS .none .none va (.int i u) (canon q.aQ q.aK q.aH vN m₀))) (N : News base q.L s.heap (muts q σ ++ consts q ++ led)) : wpAny (model PRG w) (callerA.deeper (lawEnv q.L q.fa)) (execs (deed 0) (lawEnv q.L q.fa)) Q E s := by
  obtain ⟨X, T, B, CD, cS, cM, cB, ⟨vsF, tF, hF1, hF2⟩, ⟨vsH, tH, hH1, hH2⟩, ⟨vsC, tC, hC1, hC2⟩, ⟨eB1, eB2, eB3⟩, ord⟩ := C
  obtain ⟨o1, o2, o3, o4, o5, o6, o7, o8, o9, o10, o11, o12, o13, o14, o15, o16⟩ := ord
  obtain ⟨kS, tB, tK, tR, tH', dM, dN, k4, iB, iK, iR, iH, iM, iN, lM, lN⟩ := R
  have lB : xs.length ≤ 1000 := by have := iB.len tB; omega
  have lK : xs.length ≤ 1000 := by have := iK.len tK; omega
  have lR : ys.length ≤ 1000 := by have := iR.len tR; omega
  have lH : ys.length ≤ 1000 := by have := iH.len tH'; omega
  have zl := DatAll.length dM
  have zM : σ.vsM.length ≤ 200 := by rw [DatAll.length dM]; omega
  have nB : (q.aB == sysModules) = false := nsys_of (by omega)
  have nR : (q.aR == sysModules) = false := nsys_of (by omega)
  have nK : (q.aK == sysModules) = false := nsys_of (by omega)
  have nH : (q.aH == sysModules) = false := nsys_of (by omega)
  have fS : ∀ p ∈ led, p.1 ≠ q.aS := fun p hp => (O p hp).1
  have fM : ∀ p ∈ led, p.1 ≠ q.aM := fun p hp => (O p hp).2.1
  have fB : ∀ p ∈ led, p.1 ≠ q.aB := fun p hp => (O p hp).2.2.1
  have fR : ∀ p ∈ led, p.1 ≠ q.aR := fun p hp => (O p hp).2.2.2.1
  have fK : ∀ p ∈ led, p.1 ≠ q.aK := fun p hp => (O p hp).2.2.2.2.1
  have fH : ∀ p ∈ led, p.1 ≠ q.aH := fun p hp => (O p hp).2.2.2.2.2
  obtain ⟨hh, g, dr, tk, os⟩ := s
  dsimp only [muts, consts, madeFn, lawEnv, loopBody, pick, forBody, lawBody, lawScope, createS, hereS, freshS, ifThen, ifElse, ifTest, ifPos, boolItems, pickE, boolPos, notArg, notPos, forTarget, forIter, forPos, askE, chain, deed, growB, defArgs, defBody, defScope, PySem.Challenge.pw_eu0027_01, List.cons_append, List.nil_append, turnM] at F N hF2 hH2 hC2 ⊢
  k_steps
  all_goals (try dsimp only)
  all_goals (rename Fr _ _ _ _ => FF; rename News _ _ _ _ => NN)
  refine K _ _ _ _ [] _ _ _ _ _ _ _ k1 xs ys ds .none ?zR ?zt ?zw ?zo ?zg (Fr.turn FF rfl rfl rfl rfl rfl rfl rfl rfl rfl rfl rfl) (pack0 (NN))
  case zR => exact ⟨K1, by assumption, by assumption, by assumption, by assumption, dM, dN, hk1, iB, iK, iR, iH, iM, iN, Nat.le_succ_of_le lM, Nat.le_succ_of_le lN⟩
  case zt => exact DatIn.none
  case zw => exact DatIn.none
  case zo => rfl
  case zg => exact Grown.nil

set_option maxHeartbeats 8000000 in
theorem s52t {w : World} {base : Heap} {q : Par} {loose : List Str} {mean : ExcName → Option Value} {mg mb : Str → Option Value} (C : Cx w base q loose mean mg mb) {σ : Sta} {own : List (Addr × Obj)} {s : Shared} {vN : Value} {m₀ : Str → Option Value} {i : Int} {u : Tok} {vo v1 va : Value} {b k0 : Nat} {xs ys : List (Nat × Dat)} {ds : List Dat} {k1 : Nat} (hk1 : k1 < 4)
    {Q : Flow → Shared → Prop} {E : Value → Shared → Prop} (hi0 : 0 ≤ i) (hi1 : i < 64) (hb : b ≤ 100) {led : List (Addr × Obj)} (hs : ∀ p ∈ own, p ∈ led) (O : ownOK q led) (R : Rel w own σ vN b k0 xs xs ys ys ds ds) (K1 : KeyIn own k1 v1) {y : Dat} (hy : lkp ys k0 = some y)
    (K : Then5 w base q own led Q i u b s)
    (F : Fr base q.L s.heap (turnM vo v1 σ.vS .none .none va (.int i u) (canon q.aQ q.aK q.aH vN m₀))) (N : News base q.L s.heap (muts q σ ++ consts q ++ led)) : wpAny (model PRG w) (callerA.deeper (lawEnv q.L q.fa)) (execs (deed 2) (lawEnv q.L q.fa)) Q E s := by
  obtain ⟨X, T, B, CD, cS, cM, cB, ⟨vsF, tF, hF1, hF2⟩, ⟨vsH, tH, hH1, hH2⟩, ⟨vsC, tC, hC1, hC2⟩, ⟨eB1, eB2, eB3⟩, ord⟩ := C
  obtain ⟨o1, o2, o3, o4, o5, o6, o7, o8, o9, o10, o11, o12, o13, o14, o15, o16⟩ := ord
  obtain ⟨kS, tB, tK, tR, tH', dM, dN, k4, iB, iK, iR, iH, iM, iN, lM, lN⟩ := R
  have lB : xs.length ≤ 1000 := by have := iB.len tB; omega
  have lK : xs.length ≤ 1000 := by have := iK.len tK; omega
  have lR : ys.length ≤ 1000 := by have := iR.len tR; omega
  have lH : ys.length ≤ 1000 := by have := iH.len tH'; omega
  have zl := DatAll.length dM
  have zM : σ.vsM.length ≤ 200 := by rw [DatAll.length dM]; omega
  have nB : (q.aB == sysModules) = false := nsys_of (by omega)
  have nR : (q.aR == sysModules) = false := nsys_of (by omega)
  have nK : (q.aK == sysModules) = false := nsys_of (by omega)
  have nH : (q.aH == sysModules) = false := nsys_of (by omega)
  have fS : ∀ p ∈ led, p.1 ≠ q.aS := fun p hp => (O p hp).1
  have fM : ∀ p ∈ led, p.1 ≠ q.aM := fun p hp => (O p hp).2.1
  have fB : ∀ p ∈ led, p.1 ≠ q.aB := fun p hp => (O p hp).2.2.1
  have fR : ∀ p ∈ led, p.1 ≠ q.aR := fun p hp => (O p hp).2.2.2.1
  have fK : ∀ p ∈ led, p.1 ≠ q.aK := fun p hp => (O p hp).2.2.2.2.1
  have fH : ∀ p ∈ led, p.1 ≠ q.aH := fun p hp => (O p hp).2.2.2.2.2
  obtain ⟨hh, g, dr, tk, os⟩ := s
  dsimp only [muts, consts, madeFn, lawEnv, loopBody, pick, forBody, lawBody, lawScope, createS, hereS, freshS, ifThen, ifElse, ifTest, ifPos, boolItems, pickE, boolPos, notArg, notPos, forTarget, forIter, forPos, askE, chain, deed, growB, defArgs, defBody, defScope, PySem.Challenge.pw_eu0027_01, List.cons_append, List.nil_append, turnM] at F N hF2 hH2 hC2 ⊢
  k_steps
  all_goals (try dsimp only)
  all_goals (rename Fr _ _ _ _ => FF; rename News _ _ _ _ => NN)
  refine K _ _ _ _ [] _ _ _ _ _ _ _ k0 xs ys ds (.bool true) ?zR ?zt ?zw ?zo ?zg (Fr.turn FF rfl rfl rfl rfl rfl rfl rfl rfl rfl rfl rfl) (pack0 (dropN NN))
  case zR => exact ⟨kS, by assumption, by assumption, by assumption, by assumption, dM, dN, k4, iB, iK, iR, iH, iM, iN, Nat.le_succ_of_le lM, Nat.le_succ_of_le lN⟩
  case zt => exact DatIn.bool _
  case zw => exact DatIn.bool _
  case zo => rfl
  case zg => exact Grown.nil

set_option maxHeartbeats 8000000 in
theorem s52f {w : World} {base : Heap} {q : Par} {loose : List Str} {mean : ExcName → Option Value} {mg mb : Str → Option Value} (C : Cx w base q loose mean mg mb) {σ : Sta} {own : List (Addr × Obj)} {s : Shared} {vN : Value} {m₀ : Str → Option Value} {i : Int} {u : Tok} {vo v1 va : Value} {b k0 : Nat} {xs ys : List (Nat × Dat)} {ds : List Dat} {k1 : Nat} (hk1 : k1 < 4)
    {Q : Flow → Shared → Prop} {E : Value → Shared → Prop} (hi0 : 0 ≤ i) (hi1 : i < 64) (hb : b ≤ 100) {led : List (Addr × Obj)} (hs : ∀ p ∈ own, p ∈ led) (O : ownOK q led) (R : Rel w own σ vN b k0 xs xs ys ys ds ds) (K1 : KeyIn own k1 v1) (hy : lkp ys k0 = none)
    (K : Then5 w base q own led Q i u b s)
    (F : Fr base q.L s.heap (turnM vo v1 σ.vS .none .none va (.int i u) (canon q.aQ q.aK q.aH vN m₀))) (N : News base q.L s.heap (muts q σ ++ consts q ++ led)) : wpAny (model PRG w) (callerA.deeper (lawEnv q.L q.fa)) (execs (deed 2) (lawEnv q.L q.fa)) Q E s := by
  obtain ⟨X, T, B, CD, cS, cM, cB, ⟨vsF, tF, hF1, hF2⟩, ⟨vsH, tH, hH1, hH2⟩, ⟨vsC, tC, hC1, hC2⟩, ⟨eB1, eB2, eB3⟩, ord⟩ := C
  obtain ⟨o1, o2, o3, o4, o5, o6, o7, o8, o9, o10, o11, o12, o13, o14, o15, o16⟩ := ord
  obtain ⟨kS, tB, tK, tR, tH', dM, dN, k4, iB, iK, iR, iH, iM, iN, lM, lN⟩ := R
  have lB : xs.length ≤ 1000 := by have := iB.len tB; omega
  have lK : xs.length ≤ 1000 := by have := iK.len tK; omega
  have lR : ys.length ≤ 1000 := by have := iR.len tR; omega
  have lH : ys.length ≤ 1000 := by have := iH.len tH'; omega
  have zl := DatAll.length dM
  have zM : σ.vsM.length ≤ 200 := by rw [DatAll.length dM]; omega
  have nB : (q.aB == sysModules) = false := nsys_of (by omega)
  have nR : (q.aR == sysModules) = false := nsys_of (by omega)
  have nK : (q.aK == sysModules) = false := nsys_of (by omega)
  have nH : (q.aH == sysModules) = false := nsys_of (by omega)
  have fS : ∀ p ∈ led, p.1 ≠ q.aS := fun p hp => (O p hp).1
  have fM : ∀ p ∈ led, p.1 ≠ q.aM := fun p hp => (O p hp).2.1
  have fB : ∀ p ∈ led, p.1 ≠ q.aB := fun p hp => (O p hp).2.2.1
  have fR : ∀ p ∈ led, p.1 ≠ q.aR := fun p hp => (O p hp).2.2.2.1
  have fK : ∀ p ∈ led, p.1 ≠ q.aK := fun p hp => (O p hp).2.2.2.2.1
  have fH : ∀ p ∈ led, p.1 ≠ q.aH := fun p hp => (O p hp).2.2.2.2.2
  obtain ⟨hh, g, dr, tk, os⟩ := s
  dsimp only [muts, consts, madeFn, lawEnv, loopBody, pick, forBody, lawBody, lawScope, createS, hereS, freshS, ifThen, ifElse, ifTest, ifPos, boolItems, pickE, boolPos, notArg, notPos, forTarget, forIter, forPos, askE, chain, deed, growB, defArgs, defBody, defScope, PySem.Challenge.pw_eu0027_01, List.cons_append, List.nil_append, turnM] at F N hF2 hH2 hC2 ⊢
  k_steps
  all_goals (try dsimp only)
  all_goals (rename Fr _ _ _ _ => FF; rename News _ _ _ _ => NN)
  refine K _ _ _ _ [] _ _ _ _ _ _ _ k0 xs ys ds (.bool false) ?zR ?zt ?zw ?zo ?zg (Fr.turn FF rfl rfl rfl rfl rfl rfl rfl rfl rfl rfl rfl) (pack0 (dropN NN))
  case zR => exact ⟨kS, by assumption, by assumption, by assumption, by assumption, dM, dN, k4, iB, iK, iR, iH, iM, iN, Nat.le_succ_of_le lM, Nat.le_succ_of_le lN⟩
  case zt => exact DatIn.bool _
  case zw => exact DatIn.bool _
  case zo => rfl
  case zg => exact Grown.nil

set_option maxHeartbeats 8000000 in
theorem s53 {w : World} {base : Heap} {q : Par} {loose : List Str} {mean : ExcName → Option Value} {mg mb : Str → Option Value} (C : Cx w base q loose mean mg mb) {σ : Sta} {own : List (Addr × Obj)} {s : Shared} {vN : Value} {m₀ : Str → Option Value} {i : Int} {u : Tok} {vo v1 va : Value} {b k0 : Nat} {xs ys : List (Nat × Dat)} {ds : List Dat} {k1 : Nat} (hk1 : k1 < 4)
    {Q : Flow → Shared → Prop} {E : Value → Shared → Prop} (hi0 : 0 ≤ i) (hi1 : i < 64) (hb : b ≤ 100) {led : List (Addr × Obj)} (hs : ∀ p ∈ own, p ∈ led) (O : ownOK q led) (R : Rel w own σ vN b k0 xs xs ys ys ds ds) (K1 : KeyIn own k1 v1) 
    (K : Then5 w base q own led Q i u b s)
    (F : Fr base q.L s.heap (turnM vo v1 σ.vS .none .none va (.int i u) (canon q.aQ q.aK q.aH vN m₀))) (N : News base q.L s.heap (muts q σ ++ consts q ++ led)) : wpAny (model PRG w) (callerA.deeper (lawEnv q.L q.fa)) (execs (deed 3) (lawEnv q.L q.fa)) Q E s := by
  obtain ⟨X, T, B, CD, cS, cM, cB, ⟨vsF, tF, hF1, hF2⟩, ⟨vsH, tH, hH1, hH2⟩, ⟨vsC, tC, hC1, hC2⟩, ⟨eB1, eB2, eB3⟩, ord⟩ := C
  obtain ⟨o1, o2, o3, o4, o5, o6, o7, o8, o9, o10, o11, o12, o13, o14, o15, o16⟩ := ord
  obtain ⟨kS, tB, tK, tR, tH', dM, dN, k4, iB, iK, iR, iH, iM, iN, lM, lN⟩ := R
  have lB : xs.length ≤ 1000 := by have := iB.len tB; omega
  have lK : xs.length ≤ 1000 := by have := iK.len tK; omega
  have lR : ys.length ≤ 1000 := by have := iR.len tR; omega
  have lH : ys.length ≤ 1000 := by have := iH.len tH'; omega
  have zl := DatAll.length dM
  have zM : σ.vsM.length ≤ 200 := by rw [DatAll.length dM]; omega
  have nB : (q.aB == sysModules) = false := nsys_of (by omega)
  have nR : (q.aR == sysModules) = false := nsys_of (by omega)
  have nK : (q.aK == sysModules) = false := nsys_of (by omega)
  have nH : (q.aH == sysModules) = false := nsys_of (by omega)
  have fS : ∀ p ∈ led, p.1 ≠ q.aS := fun p hp => (O p hp).1
  have fM : ∀ p ∈ led, p.1 ≠ q.aM := fun p hp => (O p hp).2.1
  have fB : ∀ p ∈ led, p.1 ≠ q.aB := fun p hp => (O p hp).2.2.1
  have fR : ∀ p ∈ led, p.1 ≠ q.aR := fun p hp => (O p hp).2.2.2.1
  have fK : ∀ p ∈ led, p.1 ≠ q.aK := fun p hp => (O p hp).2.2.2.2.1
  have fH : ∀ p ∈ led, p.1 ≠ q.aH := fun p hp => (O p hp).2.2.2.2.2
  obtain ⟨hh, g, dr, tk, os⟩ := s
  dsimp only [muts, consts, madeFn, lawEnv, loopBody, pick, forBody, lawBody, lawScope, createS, hereS, freshS, ifThen, ifElse, ifTest, ifPos, boolItems, pickE, boolPos, notArg, notPos, forTarget, forIter, forPos, askE, chain, deed, growB, defArgs, defBody, defScope, PySem.Challenge.pw_eu0027_01, List.cons_append, List.nil_append, turnM] at F N hF2 hH2 hC2 ⊢
  k_steps
  all_goals (try dsimp only)
  all_goals (rename Fr _ _ _ _ => FF; rename News _ _ _ _ => NN)
  refine K _ _ _ _ [_, _] _ _ _ _ _ _ _ k0 xs (put ys k0 (.tuple [.str (Str.ofString "set"), .int i])) ds .none ?zR ?zt ?zw ?zo ?zg (Fr.turn FF rfl rfl rfl rfl rfl rfl rfl rfl rfl rfl rfl) (pack2 (NN))
  case zR => exact ⟨kS.mono sub2, (by first | assumption | exact TabL.mono (by assumption) sub2 | exact TabL.mono (by assumption) subNew | exact TabL.mono (by assumption) subMid), (by first | assumption | exact TabL.mono (by assumption) sub2 | exact TabL.mono (by assumption) subNew | exact TabL.mono (by assumption) subMid), (by first | assumption | exact TabL.mono (by assumption) sub2 | exact TabL.mono (by assumption) subNew | exact TabL.mono (by assumption) subMid), (by first | assumption | exact TabL.mono (by assumption) sub2 | exact TabL.mono (by assumption) subNew | exact TabL.mono (by assumption) subMid), DatAll.mono sub2 dM, dN.mono sub2, k4, iB, iK, iR.put k4 (okSet _), iH.put k4 (okSet _), iM, iN, Nat.le_succ_of_le lM, Nat.le_succ_of_le lN⟩
  case zt => exact DatIn.none
  case zw => exact DatIn.none
  case zo => rfl
  case zg => exact Grown.cons (by assumption) (by omega) (Grown.cons (by assumption) (by omega) Grown.nil)

set_option maxHeartbeats 8000000 in
theorem s54t {w : World} {base : Heap} {q : Par} {loose : List Str} {mean : ExcName → Option Value} {mg mb : Str → Option Value} (C : Cx w base q loose mean mg mb) {σ : Sta} {own : List (Addr × Obj)} {s : Shared} {vN : Value} {m₀ : Str → Option Value} {i : Int} {u : Tok} {vo v1 va : Value} {b k0 : Nat} {xs ys : List (Nat × Dat)} {ds : List Dat} {k1 : Nat} (hk1 : k1 < 4)
    {Q : Flow → Shared → Prop} {E : Value → Shared → Prop} (hi0 : 0 ≤ i) (hi1 : i < 64) (hb : b ≤ 100) {led : List (Addr × Obj)} (hs : ∀ p ∈ own, p ∈ led) (O : ownOK q led) (R : Rel w own σ vN b k0 xs xs ys ys ds ds) (K1 : KeyIn own k1 v1) {y : Dat} (hy : lkp ys k0 = some y)
    (K : Then5 w base q own led Q i u b s)
    (F : Fr base q.L s.heap (turnM vo v1 σ.vS .none .none va (.int i u) (canon q.aQ q.aK q.aH vN m₀))) (N : News base q.L s.heap (muts q σ ++ consts q ++ led)) : wpAny (model PRG w) (callerA.deeper (lawEnv q.L q.fa)) (execs (deed 4) (lawEnv q.L q.fa)) Q E s := by
  obtain ⟨X, T, B, CD, cS, cM, cB, ⟨vsF, tF, hF1, hF2⟩, ⟨vsH, tH, hH1, hH2⟩, ⟨vsC, tC, hC1, hC2⟩, ⟨eB1, eB2, eB3⟩, ord⟩ := C
  obtain ⟨o1, o2, o3, o4, o5, o6, o7, o8, o9, o10, o11, o12, o13, o14, o15, o16⟩ := ord
  obtain ⟨kS, tB, tK, tR, tH', dM, dN, k4, iB, iK, iR, iH, iM, iN, lM, lN⟩ := R
  have lB : xs.length ≤ 1000 := by have := iB.len tB; omega
  have lK : xs.length ≤ 1000 := by have := iK.len tK; omega
  have lR : ys.length ≤ 1000 := by have := iR.len tR; omega
  have lH : ys.length ≤ 1000 := by have := iH.len tH'; omega
  have zl := DatAll.length dM
  have zM : σ.vsM.length ≤ 200 := by rw [DatAll.length dM]; omega
  have nB : (q.aB == sysModules) = false := nsys_of (by omega)
  have nR : (q.aR == sysModules) = false := nsys_of (by omega)
  have nK : (q.aK == sysModules) = false := nsys_of (by omega)
  have nH : (q.aH == sysModules) = false := nsys_of (by omega)
  have fS : ∀ p ∈ led, p.1 ≠ q.aS := fun p hp => (O p hp).1
  have fM : ∀ p ∈ led, p.1 ≠ q.aM := fun p hp => (O p hp).2.1
  have fB : ∀ p ∈ led, p.1 ≠ q.aB := fun p hp => (O p hp).2.2.1
  have fR : ∀ p ∈ led, p.1 ≠ q.aR := fun p hp => (O p hp).2.2.2.1
  have fK : ∀ p ∈ led, p.1 ≠ q.aK := fun p hp => (O p hp).2.2.2.2.1
  have fH : ∀ p ∈ led, p.1 ≠ q.aH := fun p hp => (O p hp).2.2.2.2.2
  obtain ⟨hh, g, dr, tk, os⟩ := s
  dsimp only [muts, consts, madeFn, lawEnv, loopBody, pick, forBody, lawBody, lawScope, createS, hereS, freshS, ifThen, ifElse, ifTest, ifPos, boolItems, pickE, boolPos, notArg, notPos, forTarget, forIter, forPos, askE, chain, deed, growB, defArgs, defBody, defScope, PySem.Challenge.pw_eu0027_01, List.cons_append, List.nil_append, turnM] at F N hF2 hH2 hC2 ⊢
  k_steps
  all_goals (try dsimp only)
  all_goals (rename Fr _ _ _ _ => FF; rename News _ _ _ _ => NN)
  refine K _ _ _ _ [] _ _ _ _ _ _ _ k0 xs (del ys k0) ds .none ?zR ?zt ?zw ?zo ?zg (Fr.turn FF rfl rfl rfl rfl rfl rfl rfl rfl rfl rfl rfl) (pack0 (NN))
  case zR => exact ⟨kS, by assumption, by assumption, by assumption, by assumption, dM, dN, k4, iB, iK, iR.del, iH.del, iM, iN, Nat.le_succ_of_le lM, Nat.le_succ_of_le lN⟩
  case zt => exact DatIn.none
  case zw => exact DatIn.none
  case zo => rfl
  case zg => exact Grown.nil

set_option maxHeartbeats 8000000 in
theorem s54f {w : World} {base : Heap} {q : Par} {loose : List Str} {mean : ExcName → Option Value} {mg mb : Str → Option Value} (C : Cx w base q loose mean mg mb) {σ : Sta} {own : List (Addr × Obj)} {s : Shared} {vN : Value} {m₀ : Str → Option Value} {i : Int} {u : Tok} {vo v1 va : Value} {b k0 : Nat} {xs ys : List (Nat × Dat)} {ds : List Dat} {k1 : Nat} (hk1 : k1 < 4)
    {Q : Flow → Shared → Prop} {E : Value → Shared → Prop} (hi0 : 0 ≤ i) (hi1 : i < 64) (hb : b ≤ 100) {led : List (Addr × Obj)} (hs : ∀ p ∈ own, p ∈ led) (O : ownOK q led) (R : Rel w own σ vN b k0 xs xs ys ys ds ds) (K1 : KeyIn own k1 v1) (hy : lkp ys k0 = none)
    (K : Then5 w base q own led Q i u b s)
    (F : Fr base q.L s.heap (turnM vo v1 σ.vS .none .none va (.int i u) (canon q.aQ q.aK q.aH vN m₀))) (N : News base q.L s.heap (muts q σ ++ consts q ++ led)) : wpAny (model PRG w) (callerA.deeper (lawEnv q.L q.fa)) (execs (deed 4) (lawEnv q.L q.fa)) Q E s := by
  obtain ⟨X, T, B, CD, cS, cM, cB, ⟨vsF, tF, hF1, hF2⟩, ⟨vsH, tH, hH1, hH2⟩, ⟨vsC, tC, hC1, hC2⟩, ⟨eB1, eB2, eB3⟩, ord⟩ := C
  obtain ⟨o1, o2, o3, o4, o5, o6, o7, o8, o9, o10, o11, o12, o13, o14, o15, o16⟩ := ord
  obtain ⟨kS, tB, tK, tR, tH', dM, dN, k4, iB, iK, iR, iH, iM, iN, lM, lN⟩ := R
  have lB : xs.length ≤ 1000 := by have := iB.len tB; omega
  have lK : xs.length ≤ 1000 := by have := iK.len tK; omega
  have lR : ys.length ≤ 1000 := by have := iR.len tR; omega
  have lH : ys.length ≤ 1000 := by have := iH.len tH'; omega
  have zl := DatAll.length dM
  have zM : σ.vsM.length ≤ 200 := by rw [DatAll.length dM]; omega
  have nB : (q.aB == sysModules) = false := nsys_of (by omega)
  have nR : (q.aR == sysModules) = false := nsys_of (by omega)
  have nK : (q.aK == sysModules) = false := nsys_of (by omega)
  have nH : (q.aH == sysModules) = false := nsys_of (by omega)
  have fS : ∀ p ∈ led, p.1 ≠ q.aS := fun p hp => (O p hp).1
  have fM : ∀ p ∈ led, p.1 ≠ q.aM := fun p hp => (O p hp).2.1
  have fB : ∀ p ∈ led, p.1 ≠ q.aB := fun p hp => (O p hp).2.2.1
  have fR : ∀ p ∈ led, p.1 ≠ q.aR := fun p hp => (O p hp).2.2.2.1
  have fK : ∀ p ∈ led, p.1 ≠ q.aK := fun p hp => (O p hp).2.2.2.2.1
  have fH : ∀ p ∈ led, p.1 ≠ q.aH := fun p hp => (O p hp).2.2.2.2.2
  obtain ⟨hh, g, dr, tk, os⟩ := s
  dsimp only [muts, consts, madeFn, lawEnv, loopBody, pick, forBody, lawBody, lawScope, createS, hereS, freshS, ifThen, ifElse, ifTest, ifPos, boolItems, pickE, boolPos, notArg, notPos, forTarget, forIter, forPos, askE, chain, deed, growB, defArgs, defBody, defScope, PySem.Challenge.pw_eu0027_01, List.cons_append, List.nil_append, turnM] at F N hF2 hH2 hC2 ⊢
  k_steps
  all_goals (try dsimp only)
  all_goals (rename Fr _ _ _ _ => FF; rename News _ _ _ _ => NN)
  refine K _ _ _ _ [] _ _ _ _ _ _ _ k0 xs (del ys k0) ds .none ?zR ?zt ?zw ?zo ?zg (Fr.turn FF rfl rfl rfl rfl rfl rfl rfl rfl rfl rfl rfl) (pack0 (NN))
  case zR => exact ⟨kS, tB, tK, by rw [del_none hy]; exact tR, by assumption, dM, dN, k4, iB, iK, iR.del, iH.del, iM, iN, Nat.le_succ_of_le lM, Nat.le_succ_of_le lN⟩
  case zt => exact DatIn.none
  case zw => exact DatIn.none
  case zo => rfl
  case zg => exact Grown.nil

set_option maxHeartbeats 8000000 in
theorem s55t {w : World} {base : Heap} {q : Par} {loose : List Str} {mean : ExcName → Option Value} {mg mb : Str → Option Value} (C : Cx w base q loose mean mg mb) {σ : Sta} {own : List (Addr × Obj)} {s : Shared} {vN : Value} {m₀ : Str → Option Value} {i : Int} {u : Tok} {vo v1 va : Value} {b k0 : Nat} {xs ys : List (Nat × Dat)} {ds : List Dat} {k1 : Nat} (hk1 : k1 < 4)
    {Q : Flow → Shared → Prop} {E : Value → Shared → Prop} (hi0 : 0 ≤ i) (hi1 : i < 64) (hb : b ≤ 100) {led : List (Addr × Obj)} (hs : ∀ p ∈ own, p ∈ led) (O : ownOK q led) (R : Rel w own σ vN b k0 xs xs ys ys ds ds) (K1 : KeyIn own k1 v1) {y : Dat} (hy : lkp xs k1 = some y)
    (K : Then5 w base q own led Q i u b s)
    (F : Fr base q.L s.heap (turnM vo v1 σ.vS .none .none va (.int i u) (canon q.aQ q.aK q.aH vN m₀))) (N : News base q.L s.heap (muts q σ ++ consts q ++ led)) : wpAny (model PRG w) (callerA.deeper (lawEnv q.L q.fa)) (execs (deed 5) (lawEnv q.L q.fa)) Q E s := by
  obtain ⟨X, T, B, CD, cS, cM, cB, ⟨vsF, tF, hF1, hF2⟩, ⟨vsH, tH, hH1, hH2⟩, ⟨vsC, tC, hC1, hC2⟩, ⟨eB1, eB2, eB3⟩, ord⟩ := C
  obtain ⟨o1, o2, o3, o4, o5, o6, o7, o8, o9, o10, o11, o12, o13, o14, o15, o16⟩ := ord
  obtain ⟨kS, tB, tK, tR, tH', dM, dN, k4, iB, iK, iR, iH, iM, iN, lM, lN⟩ := R
  have lB : xs.length ≤ 1000 := by have := iB.len tB; omega
  have lK : xs.length ≤ 1000 := by have := iK.len tK; omega
  have lR : ys.length ≤ 1000 := by have := iR.len tR; omega
  have lH : ys.length ≤ 1000 := by have := iH.len tH'; omega
  have zl := DatAll.length dM
  have zM : σ.vsM.length ≤ 200 := by rw [DatAll.length dM]; omega
  have nB : (q.aB == sysModules) = false := nsys_of (by omega)
  have nR : (q.aR == sysModules) = false := nsys_of (by omega)
  have nK : (q.aK == sysModules) = false := nsys_of (by omega)
  have nH : (q.aH == sysModules) = false := nsys_of (by omega)
  have fS : ∀ p ∈ led, p.1 ≠ q.aS := fun p hp => (O p hp).1
  have fM : ∀ p ∈ led, p.1 ≠ q.aM := fun p hp => (O p hp).2.1
  have fB : ∀ p ∈ led, p.1 ≠ q.aB := fun p hp => (O p hp).2.2.1
  have fR : ∀ p ∈ led, p.1 ≠ q.aR := fun p hp => (O p hp).2.2.2.1
  have fK : ∀ p ∈ led, p.1 ≠ q.aK := fun p hp => (O p hp).2.2.2.2.1
  have fH : ∀ p ∈ led, p.1 ≠ q.aH := fun p hp => (O p hp).2.2.2.2.2
  obtain ⟨hh, g, dr, tk, os⟩ := s
  dsimp only [muts, consts, madeFn, lawEnv, loopBody, pick, forBody, lawBody, lawScope, createS, hereS, freshS, ifThen, ifElse, ifTest, ifPos, boolItems, pickE, boolPos, notArg, notPos, forTarget, forIter, forPos, askE, chain, deed, growB, defArgs, defBody, defScope, PySem.Challenge.pw_eu0027_01, List.cons_append, List.nil_append, turnM] at F N hF2 hH2 hC2 ⊢
  k_steps
  all_goals (try dsimp only)
  all_goals (rename Fr _ _ _ _ => FF; rename News _ _ _ _ => NN)
  refine K _ _ _ _ [] _ _ _ _ _ _ _ k0 xs ys ds y ?zR ?zt ?zw ?zo ?zg (Fr.turn FF rfl rfl rfl rfl rfl rfl rfl rfl rfl rfl rfl) (pack0 (dropN NN))
  case zR => exact ⟨kS, by assumption, by assumption, by assumption, by assumption, dM, dN, k4, iB, iK, iR, iH, iM, iN, Nat.le_succ_of_le lM, Nat.le_succ_of_le lN⟩
  case zt => assumption
  case zw => assumption
  case zo => exact dokUp (dokUp (iB.get hy))
  case zg => exact Grown.nil

set_option maxHeartbeats 8000000 in
theorem s55f {w : World} {base : Heap} {q : Par} {loose : List Str} {mean : ExcName → Option Value} {mg mb : Str → Option Value} (C : Cx w base q loose mean mg mb) {σ : Sta} {own : List (Addr × Obj)} {s : Shared} {vN : Value} {m₀ : Str → Option Value} {i : Int} {u : Tok} {vo v1 va : Value} {b k0 : Nat} {xs ys : List (Nat × Dat)} {ds : List Dat} {k1 : Nat} (hk1 : k1 < 4)
    {Q : Flow → Shared → Prop} {E : Value → Shared → Prop} (hi0 : 0 ≤ i) (hi1 : i < 64) (hb : b ≤ 100) {led : List (Addr × Obj)} (hs : ∀ p ∈ own, p ∈ led) (O : ownOK q led) (R : Rel w own σ vN (b + 1) k0 xs (put xs k1 (.tuple [kdat k1, .int ((σ.vsM ++ [v1]).length : Int)])) ys ys ds (ds ++ [kdat k1])) (K1 : KeyIn own k1 v1) (hM : ds.length ≤ b) (hyB : lkp xs k1 = none)
    (K : Then5 w base q own led Q i u b s)
    (F : Fr base q.L s.heap (turnM vo v1 σ.vS .none .none va (.int i u) (canon q.aQ q.aK q.aH vN m₀))) (N : News base q.L s.heap (muts q σ ++ consts q ++ led)) : wpAny (model PRG w) (callerA.deeper (lawEnv q.L q.fa)) (execs (deed 5) (lawEnv q.L q.fa)) Q E s := by
  obtain ⟨X, T, B, CD, cS, cM, cB, ⟨vsF, tF, hF1, hF2⟩, ⟨vsH, tH, hH1, hH2⟩, ⟨vsC, tC, hC1, hC2⟩, ⟨eB1, eB2, eB3⟩, ord⟩ := C
  obtain ⟨o1, o2, o3, o4, o5, o6, o7, o8, o9, o10, o11, o12, o13, o14, o15, o16⟩ := ord
  obtain ⟨kS, tB, tK, tR, tH', dM, dN, k4, iB, iK, iR, iH, iM, iN, lM, lN⟩ := R
  have lB : xs.length ≤ 1000 := by have := iB.len tB; omega
  have lK : (put xs k1 (.tuple [kdat k1, .int ((σ.vsM ++ [v1]).length : Int)])).length ≤ 1000 := by have := iK.len tK; omega
  have lR : ys.length ≤ 1000 := by have := iR.len tR; omega
  have lH : ys.length ≤ 1000 := by have := iH.len tH'; omega
  have zl := DatAll.length dM
  have zM : σ.vsM.length ≤ 200 := by rw [DatAll.length dM]; omega
  have nB : (q.aB == sysModules) = false := nsys_of (by omega)
  have nR : (q.aR == sysModules) = false := nsys_of (by omega)
  have nK : (q.aK == sysModules) = false := nsys_of (by omega)
  have nH : (q.aH == sysModules) = false := nsys_of (by omega)
  have fS : ∀ p ∈ led, p.1 ≠ q.aS := fun p hp => (O p hp).1
  have fM : ∀ p ∈ led, p.1 ≠ q.aM := fun p hp => (O p hp).2.1
  have fB : ∀ p ∈ led, p.1 ≠ q.aB := fun p hp => (O p hp).2.2.1
  have fR : ∀ p ∈ led, p.1 ≠ q.aR := fun p hp => (O p hp).2.2.2.1
  have fK : ∀ p ∈ led, p.1 ≠ q.aK := fun p hp => (O p hp).2.2.2.2.1
  have fH : ∀ p ∈ led, p.1 ≠ q.aH := fun p hp => (O p hp).2.2.2.2.2
  obtain ⟨hh, g, dr, tk, os⟩ := s
  dsimp only [muts, consts, madeFn, lawEnv, loopBody, pick, forBody, lawBody, lawScope, createS, hereS, freshS, ifThen, ifElse, ifTest, ifPos, boolItems, pickE, boolPos, notArg, notPos, forTarget, forIter, forPos, askE, chain, deed, growB, defArgs, defBody, defScope, PySem.Challenge.pw_eu0027_01, List.cons_append, List.nil_append, turnM] at F N hF2 hH2 hC2 ⊢
  k_steps
  all_goals (try dsimp only)
  all_goals (rename Fr _ _ _ _ => FF; rename News _ _ _ _ => NN)
  refine K _ _ _ _ [_] _ _ _ _ _ _ _ k0 (put xs k1 (.tuple [kdat k1, .int ((σ.vsM ++ [v1]).length : Int)])) ys (ds ++ [kdat k1]) (.tuple [kdat k1, .int ((σ.vsM ++ [v1]).length : Int)]) ?zR ?zt ?zw ?zo ?zg (Fr.turn FF rfl rfl rfl rfl rfl rfl rfl rfl rfl rfl rfl) (pack1 (dropN NN))
  case zR => exact ⟨kS.mono subNew, by assumption, tK.mono subNew, tR.mono subNew, tH'.mono subNew, snocIn subNew (K1.2.mono subNew) dM, dN.mono subNew, k4, iB.put hk1 (okTup _ _), iK, iR, iH, snocOk iM (dokKey _), iN, by rw [List.length_append]; exact Nat.succ_le_succ hM, lN⟩
  case zt => first | assumption | exact DatIn.mono subNew (by assumption) | exact tupNew (DatAll.cons K1.2 (DatAll.cons (DatIn.int _ _) DatAll.nil))
  case zw => first | assumption | exact DatIn.mono subNew (by assumption)
  case zo => exact dokUp (dokUp (dokOf (okTup _ _)))
  case zg => exact Grown.cons (by assumption) (by omega) Grown.nil

set_option maxHeartbeats 8000000 in
theorem s56t {w : World} {base : Heap} {q : Par} {loose : List Str} {mean : ExcName → Option Value} {mg mb : Str → Option Value} (C : Cx w base q loose mean mg mb) {σ : Sta} {own : List (Addr × Obj)} {s : Shared} {vN : Value} {m₀ : Str → Option Value} {i : Int} {u : Tok} {vo v1 va : Value} {b k0 : Nat} {xs ys : List (Nat × Dat)} {ds : List Dat} {k1 : Nat} (hk1 : k1 < 4)
    {Q : Flow → Shared → Prop} {E : Value → Shared → Prop} (hi0 : 0 ≤ i) (hi1 : i < 64) (hb : b ≤ 100) {led : List (Addr × Obj)} (hs : ∀ p ∈ own, p ∈ led) (O : ownOK q led) (R : Rel w own σ vN b k0 xs xs ys ys ds ds) (K1 : KeyIn own k1 v1) {y : Dat} (hy : lkp xs k1 = some y)
    (K : Then5 w base q own led Q i u b s)
    (F : Fr base q.L s.heap (turnM vo v1 σ.vS .none .none va (.int i u) (canon q.aQ q.aK q.aH vN m₀))) (N : News base q.L s.heap (muts q σ ++ consts q ++ led)) : wpAny (model PRG w) (callerA.deeper (lawEnv q.L q.fa)) (execs (deed 6) (lawEnv q.L q.fa)) Q E s := by
  obtain ⟨X, T, B, CD, cS, cM, cB, ⟨vsF, tF, hF1, hF2⟩, ⟨vsH, tH, hH1, hH2⟩, ⟨vsC, tC, hC1, hC2⟩, ⟨eB1, eB2, eB3⟩, ord⟩ := C
  obtain ⟨o1, o2, o3, o4, o5, o6, o7, o8, o9, o10, o11, o12, o13, o14, o15, o16⟩ := ord
  obtain ⟨kS, tB, tK, tR, tH', dM, dN, k4, iB, iK, iR, iH, iM, iN, lM, lN⟩ := R
  have lB : xs.length ≤ 1000 := by have := iB.len tB; omega
  have lK : xs.length ≤ 1000 := by have := iK.len tK; omega
  have lR : ys.length ≤ 1000 := by have := iR.len tR; omega
  have lH : ys.length ≤ 1000 := by have := iH.len tH'; omega
  have zl := DatAll.length dM
  have zM : σ.vsM.length ≤ 200 := by rw [DatAll.length dM]; omega
  have nB : (q.aB == sysModules) = false := nsys_of (by omega)
  have nR : (q.aR == sysModules) = false := nsys_of (by omega)
  have nK : (q.aK == sysModules) = false := nsys_of (by omega)
  have nH : (q.aH == sysModules) = false := nsys_of (by omega)
  have fS : ∀ p ∈ led, p.1 ≠ q.aS := fun p hp => (O p hp).1
  have fM : ∀ p ∈ led, p.1 ≠ q.aM := fun p hp => (O p hp).2.1
  have fB : ∀ p ∈ led, p.1 ≠ q.aB := fun p hp => (O p hp).2.2.1
  have fR : ∀ p ∈ led, p.1 ≠ q.aR := fun p hp => (O p hp).2.2.2.1
  have fK : ∀ p ∈ led, p.1 ≠ q.aK := fun p hp => (O p hp).2.2.2.2.1
  have fH : ∀ p ∈ led, p.1 ≠ q.aH := fun p hp => (O p hp).2.2.2.2.2
  obtain ⟨hh, g, dr, tk, os⟩ := s
  dsimp only [muts, consts, madeFn, lawEnv, loopBody, pick, forBody, lawBody, lawScope, createS, hereS, freshS, ifThen, ifElse, ifTest, ifPos, boolItems, pickE, boolPos, notArg, notPos, forTarget, forIter, forPos, askE, chain, deed, growB, defArgs, defBody, defScope, PySem.Challenge.pw_eu0027_01, List.cons_append, List.nil_append, turnM] at F N hF2 hH2 hC2 ⊢
  k_steps
  all_goals (try dsimp only)
  all_goals (rename Fr _ _ _ _ => FF; rename News _ _ _ _ => NN)
  refine K _ _ _ _ [_, _] _ _ _ _ _ _ _ k0 xs ys ds (.tuple [.bool true, y]) ?zR ?zt ?zw ?zo ?zg (Fr.turn FF rfl rfl rfl rfl rfl rfl rfl rfl rfl rfl rfl) (pack2 (dropN NN))
  case zR => exact ⟨kS.mono sub2, (by first | assumption | exact TabL.mono (by assumption) sub2 | exact TabL.mono (by assumption) subNew | exact TabL.mono (by assumption) subMid), (by first | assumption | exact TabL.mono (by assumption) sub2 | exact TabL.mono (by assumption) subNew | exact TabL.mono (by assumption) subMid), (by first | assumption | exact TabL.mono (by assumption) sub2 | exact TabL.mono (by assumption) subNew | exact TabL.mono (by assumption) subMid), (by first | assumption | exact TabL.mono (by assumption) sub2 | exact TabL.mono (by assumption) subNew | exact TabL.mono (by assumption) subMid), DatAll.mono sub2 dM, dN.mono sub2, k4, iB, iK, iR, iH, iM, iN, Nat.le_succ_of_le lM, Nat.le_succ_of_le lN⟩
  case zt => exact DatIn.tuple (.tail _ (.head _)) (DatAll.cons (DatIn.bool _) (DatAll.cons (DatIn.mono sub2 (by assumption)) DatAll.nil))
  case zw => exact DatIn.tuple (.head _) (DatAll.cons (DatIn.bool _) (DatAll.cons (DatIn.mono sub2 (by assumption)) DatAll.nil))
  case zo => simp [dok, led1, kqdUp (iB.getK hy)]
  case zg => exact Grown.cons (by assumption) (by omega) (Grown.cons (by assumption) (by omega) Grown.nil)

set_option maxHeartbeats 8000000 in
theorem s56f {w : World} {base : Heap} {q : Par} {loose : List Str} {mean : ExcName → Option Value} {mg mb : Str → Option Value} (C : Cx w base q loose mean mg mb) {σ : Sta} {own : List (Addr × Obj)} {s : Shared} {vN : Value} {m₀ : Str → Option Value} {i : Int} {u : Tok} {vo v1 va : Value} {b k0 : Nat} {xs ys : List (Nat × Dat)} {ds : List Dat} {k1 : Nat} (hk1 : k1 < 4)
    {Q : Flow → Shared → Prop} {E : Value → Shared → Prop} (hi0 : 0 ≤ i) (hi1 : i < 64) (hb : b ≤ 100) {led : List (Addr × Obj)} (hs : ∀ p ∈ own, p ∈ led) (O : ownOK q led) (R : Rel w own σ vN b k0 xs xs ys ys ds ds) (K1 : KeyIn own k1 v1) (hy : lkp xs k1 = none)
    (K : Then5 w base q own led Q i u b s)
    (F : Fr base q.L s.heap (turnM vo v1 σ.vS .none .none va (.int i u) (canon q.aQ q.aK q.aH vN m₀))) (N : News base q.L s.heap (muts q σ ++ consts q ++ led)) : wpAny (model PRG w) (callerA.deeper (lawEnv q.L q.fa)) (execs (deed 6) (lawEnv q.L q.fa)) Q E s := by
  obtain ⟨X, T, B, CD, cS, cM, cB, ⟨vsF, tF, hF1, hF2⟩, ⟨vsH, tH, hH1, hH2⟩, ⟨vsC, tC, hC1, hC2⟩, ⟨eB1, eB2, eB3⟩, ord⟩ := C
  obtain ⟨o1, o2, o3, o4, o5, o6, o7, o8, o9, o10, o11, o12, o13, o14, o15, o16⟩ := ord
  obtain ⟨kS, tB, tK, tR, tH', dM, dN, k4, iB, iK, iR, iH, iM, iN, lM, lN⟩ := R
  have lB : xs.length ≤ 1000 := by have := iB.len tB; omega
  have lK : xs.length ≤ 1000 := by have := iK.len tK; omega
  have lR : ys.length ≤ 1000 := by have := iR.len tR; omega
  have lH : ys.length ≤ 1000 := by have := iH.len tH'; omega
  have zl := DatAll.length dM
  have zM : σ.vsM.length ≤ 200 := by rw [DatAll.length dM]; omega
  have nB : (q.aB == sysModules) = false := nsys_of (by omega)
  have nR : (q.aR == sysModules) = false := nsys_of (by omega)
  have nK : (q.aK == sysModules) = false := nsys_of (by omega)
  have nH : (q.aH == sysModules) = false := nsys_of (by omega)
  have fS : ∀ p ∈ led, p.1 ≠ q.aS := fun p hp => (O p hp).1
  have fM : ∀ p ∈ led, p.1 ≠ q.aM := fun p hp => (O p hp).2.1
  have fB : ∀ p ∈ led, p.1 ≠ q.aB := fun p hp => (O p hp).2.2.1
  have fR : ∀ p ∈ led, p.1 ≠ q.aR := fun p hp => (O p hp).2.2.2.1
  have fK : ∀ p ∈ led, p.1 ≠ q.aK := fun p hp => (O p hp).2.2.2.2.1
  have fH : ∀ p ∈ led, p.1 ≠ q.aH := fun p hp => (O p hp).2.2.2.2.2
  obtain ⟨hh, g, dr, tk, os⟩ := s
  dsimp only [muts, consts, madeFn, lawEnv, loopBody, pick, forBody, lawBody, lawScope, createS, hereS, freshS, ifThen, ifElse, ifTest, ifPos, boolItems, pickE, boolPos, notArg, notPos, forTarget, forIter, forPos, askE, chain, deed, growB, defArgs, defBody, defScope, PySem.Challenge.pw_eu0027_01, List.cons_append, List.nil_append, turnM] at F N hF2 hH2 hC2 ⊢
  k_steps
  all_goals (try dsimp only)
  all_goals (rename Fr _ _ _ _ => FF; rename News _ _ _ _ => NN)
  refine K _ _ _ _ [_, _] _ _ _ _ _ _ _ k0 xs ys ds (.tuple [.bool false, .str (Str.ofString "none")]) ?zR ?zt ?zw ?zo ?zg (Fr.turn FF rfl rfl rfl rfl rfl rfl rfl rfl rfl rfl rfl) (pack2 (dropN NN))
  case zR => exact ⟨kS.mono sub2, (by first | assumption | exact TabL.mono (by assumption) sub2 | exact TabL.mono (by assumption) subNew | exact TabL.mono (by assumption) subMid), (by first | assumption | exact TabL.mono (by assumption) sub2 | exact TabL.mono (by assumption) subNew | exact TabL.mono (by assumption) subMid), (by first | assumption | exact TabL.mono (by assumption) sub2 | exact TabL.mono (by assumption) subNew | exact TabL.mono (by assumption) subMid), (by first | assumption | exact TabL.mono (by assumption) sub2 | exact TabL.mono (by assumption) subNew | exact TabL.mono (by assumption) subMid), DatAll.mono sub2 dM, dN.mono sub2, k4, iB, iK, iR, iH, iM, iN, Nat.le_succ_of_le lM, Nat.le_succ_of_le lN⟩
  case zt => exact DatIn.tuple (.tail _ (.head _)) (DatAll.cons (DatIn.bool _) (DatAll.cons (DatIn.str _ _) DatAll.nil))
  case zw => exact DatIn.tuple (.head _) (DatAll.cons (DatIn.bool _) (DatAll.cons (DatIn.str _ _) DatAll.nil))
  case zo => exact okNone
  case zg => exact Grown.cons (by assumption) (by omega) (Grown.cons (by assumption) (by omega) Grown.nil)

set_option maxHeartbeats 8000000 in
theorem s57 {w : World} {base : Heap} {q : Par} {loose : List Str} {mean : ExcName → Option Value} {mg mb : Str → Option Value} (C : Cx w base q loose mean mg mb) {σ : Sta} {own : List (Addr × Obj)} {s : Shared} {vN : Value} {m₀ : Str → Option Value} {i : Int} {u : Tok} {vo v1 va : Value} {b k0 : Nat} {xs ys : List (Nat × Dat)} {ds : List Dat} {k1 : Nat} (hk1 : k1 < 4)
    {Q : Flow → Shared → Prop} {E : Value → Shared → Prop} (hi0 : 0 ≤ i) (hi1 : i < 64) (hb : b ≤ 100) {led : List (Addr × Obj)} (hs : ∀ p ∈ own, p ∈ led) (O : ownOK q led) (R : Rel w own σ vN b k0 xs xs ys ys ds ds) (K1 : KeyIn own k1 v1) {y : Dat} (hy : lkp xs k1 = some y)
    (K : Then5 w base q own led Q i u b s)
    (F : Fr base q.L s.heap (turnM vo v1 σ.vS .none .none va (.int i u) (canon q.aQ q.aK q.aH vN m₀))) (N : News base q.L s.heap (muts q σ ++ consts q ++ led)) : wpAny (model PRG w) (callerA.deeper (lawEnv q.L q.fa)) (execs (deed 7) (lawEnv q.L q.fa)) Q E s := by
  obtain ⟨X, T, B, CD, cS, cM, cB, ⟨vsF, tF, hF1, hF2⟩, ⟨vsH, tH, hH1, hH2⟩, ⟨vsC, tC, hC1, hC2⟩, ⟨eB1, eB2, eB3⟩, ord⟩ := C
  obtain ⟨o1, o2, o3, o4, o5, o6, o7, o8, o9, o10, o11, o12, o13, o14, o15, o16⟩ := ord
  obtain ⟨kS, tB, tK, tR, tH', dM, dN, k4, iB, iK, iR, iH, iM, iN, lM, lN⟩ := R
  have lB : xs.length ≤ 1000 := by have := iB.len tB; omega
  have lK : xs.length ≤ 1000 := by have := iK.len tK; omega
  have lR : ys.length ≤ 1000 := by have := iR.len tR; omega
  have lH : ys.length ≤ 1000 := by have := iH.len tH'; omega
  have zl := DatAll.length dM
  have zM : σ.vsM.length ≤ 200 := by rw [DatAll.length dM]; omega
  have nB : (q.aB == sysModules) = false := nsys_of (by omega)
  have nR : (q.aR == sysModules) = false := nsys_of (by omega)
  have nK : (q.aK == sysModules) = false := nsys_of (by omega)
  have nH : (q.aH == sysModules) = false := nsys_of (by omega)
  have fS : ∀ p ∈ led, p.1 ≠ q.aS := fun p hp => (O p hp).1
  have fM : ∀ p ∈ led, p.1 ≠ q.aM := fun p hp => (O p hp).2.1
  have fB : ∀ p ∈ led, p.1 ≠ q.aB := fun p hp => (O p hp).2.2.1
  have fR : ∀ p ∈ led, p.1 ≠ q.aR := fun p hp => (O p hp).2.2.2.1
  have fK : ∀ p ∈ led, p.1 ≠ q.aK := fun p hp => (O p hp).2.2.2.2.1
  have fH : ∀ p ∈ led, p.1 ≠ q.aH := fun p hp => (O p hp).2.2.2.2.2
  obtain ⟨hh, g, dr, tk, os⟩ := s
  dsimp only [muts, consts, madeFn, lawEnv, loopBody, pick, forBody, lawBody, lawScope, createS, hereS, freshS, ifThen, ifElse, ifTest, ifPos, boolItems, pickE, boolPos, notArg, notPos, forTarget, forIter, forPos, askE, chain, deed, growB, defArgs, defBody, defScope, PySem.Challenge.pw_eu0027_01, List.cons_append, List.nil_append, turnM] at F N hF2 hH2 hC2 ⊢
  k_steps
  all_goals (try dsimp only)
  all_goals (rename Fr _ _ _ _ => FF; rename News _ _ _ _ => NN)
  refine K _ _ _ _ [] _ _ _ _ _ _ _ k0 (del xs k1) ys ds y ?zR ?zt ?zw ?zo ?zg (Fr.turn FF rfl rfl rfl rfl rfl rfl rfl rfl rfl rfl rfl) (pack0 (dropN NN))
  case zR => exact ⟨kS, by assumption, by assumption, by assumption, by assumption, dM, dN, k4, iB.del, iK.del, iR, iH, iM, iN, Nat.le_succ_of_le lM, Nat.le_succ_of_le lN⟩
  case zt => assumption
  case zw => assumption
  case zo => exact dokUp (dokUp (iB.get hy))
  case zg => exact Grown.nil

set_option maxHeartbeats 8000000 in
theorem s4g {w : World} {base : Heap} {q : Par} {loose : List Str} {mean : ExcName → Option Value} {mg mb : Str → Option Value} (C : Cx w base q loose mean mg mb) {σ : Sta} {own : List (Addr × Obj)} {s : Shared} {vN : Value} {m₀ : Str → Option Value} {i : Int} {u : Tok} {vo v1 va : Value} {b k0 : Nat} {xs ys : List (Nat × Dat)} {ds : List Dat} {ka : Nat} (hka : ka < 4)
    {Q : Flow → Shared → Prop} {E : Value → Shared → Prop} (hi0 : 0 ≤ i) (hi1 : i < 64) (hb : b ≤ 100) {led : List (Addr × Obj)} (hs : ∀ p ∈ own, p ∈ led) (O : ownOK q led) (R : Rel w own σ vN b k0 xs xs ys ys ds ds) (KA : KeyIn own ka va) (hyB : lkp xs ka = none)
    (K : ∀ esK nK h tk m add vN', Rel w (add ++ own) { σ with esK := esK, nK := nK } vN' (b + 1) k0 xs (put xs ka (.tuple [kdat ka, .int ((σ.vsM ++ [va]).length : Int)])) ys ys ds (ds ++ [kdat ka]) → Grown q add led →
      Fr base q.L h (turnM vo v1 σ.vS .none .none va (.int i u) (canon q.aQ q.aK q.aH vN' m)) → News base q.L h (muts q { σ with esK := esK, nK := nK } ++ consts q ++ (add ++ led)) → Q .next { s with heap := h, toks := tk })
    (F : Fr base q.L s.heap (turnM vo v1 σ.vS .none .none va (.int i u) (canon q.aQ q.aK q.aH vN m₀))) (N : News base q.L s.heap (muts q σ ++ consts q ++ led)) : wpAny (model PRG w) (callerA.deeper (lawEnv q.L q.fa)) (execs growB (lawEnv q.L q.fa)) Q E s := by
  obtain ⟨X, T, B, CD, cS, cM, cB, ⟨vsF, tF, hF1, hF2⟩, ⟨vsH, tH, hH1, hH2⟩, ⟨vsC, tC, hC1, hC2⟩, ⟨eB1, eB2, eB3⟩, ord⟩ := C
  obtain ⟨o1, o2, o3, o4, o5, o6, o7, o8, o9, o10, o11, o12, o13, o14, o15, o16⟩ := ord
  obtain ⟨kS, tB, tK, tR, tH', dM, dN, k4, iB, iK, iR, iH, iM, iN, lM, lN⟩ := R
  have lB : xs.length ≤ 1000 := by have := iB.len tB; omega
  have lK : xs.length ≤ 1000 := by have := iK.len tK; omega
  have lR : ys.length ≤ 1000 := by have := iR.len tR; omega
  have lH : ys.length ≤ 1000 := by have := iH.len tH'; omega
  have zl := DatAll.length dM
  cases dN with
  | list hmN allN =>
  rename_i aN vsN nN
  have zn := DatAll.length allN
  have zM : σ.vsM.length ≤ 200 := by rw [DatAll.length dM]; omega
  have nB : (q.aB == sysModules) = false := nsys_of (by omega)
  have nR : (q.aR == sysModules) = false := nsys_of (by omega)
  have nK : (q.aK == sysModules) = false := nsys_of (by omega)
  have nH : (q.aH == sysModules) = false := nsys_of (by omega)
  have fS : ∀ p ∈ led, p.1 ≠ q.aS := fun p hp => (O p hp).1
  have fM : ∀ p ∈ led, p.1 ≠ q.aM := fun p hp => (O p hp).2.1
  have fB : ∀ p ∈ led, p.1 ≠ q.aB := fun p hp => (O p hp).2.2.1
  have fR : ∀ p ∈ led, p.1 ≠ q.aR := fun p hp => (O p hp).2.2.2.1
  have fK : ∀ p ∈ led, p.1 ≠ q.aK := fun p hp => (O p hp).2.2.2.2.1
  have fH : ∀ p ∈ led, p.1 ≠ q.aH := fun p hp => (O p hp).2.2.2.2.2
  obtain ⟨hh, g, dr, tk, os⟩ := s
  dsimp only [muts, consts, madeFn, lawEnv, loopBody, pick, forBody, lawBody, lawScope, createS, hereS, freshS, ifThen, ifElse, ifTest, ifPos, boolItems, pickE, boolPos, notArg, notPos, forTarget, forIter, forPos, askE, chain, deed, growB, defArgs, defBody, defScope, PySem.Challenge.pw_eu0027_01, List.cons_append, List.nil_append, turnM] at F N hF2 hH2 hC2 ⊢
  k_steps
  all_goals (try dsimp only)
  all_goals (rename Fr _ _ _ _ => FF; rename News _ _ _ _ => NN)
  have e : (vsN ++ [va]).length = (σ.vsM ++ [va]).length := by simp [zl, zn]
  have ey : Dat.tuple [kdat ka, .int ((vsN ++ [va]).length : Int)] = .tuple [kdat ka, .int ((σ.vsM ++ [va]).length : Int)] := by rw [e]
  rename TabL _ _ _ (put _ _ _) => hT
  rw [ey] at hT
  refine K _ _ _ _ _ [_, _, _] _ ?zR ?zg (Fr.turn FF rfl rfl rfl rfl rfl rfl rfl rfl rfl rfl rfl) (pack3 NN)
  case zR => exact ⟨kS.mono sub3, tB.mono sub3, hT.mono subMid2, tR.mono sub3, tH'.mono sub3, DatAll.mono sub3 dM, .list (.tail _ (.head _)) (snocIn sub3 (KA.2.mono sub3) allN), k4, iB, iK.put hka (okTup _ _), iR, iH, iM, snocOk iN (dokKey _), Nat.le_succ_of_le lM, by rw [List.length_append]; exact Nat.succ_le_succ lN⟩
  case zg => exact Grown.cons (by assumption) (by omega) (Grown.cons (by assumption) (by omega) (Grown.cons (by assumption) (by omega) Grown.nil))

set_option maxHeartbeats 8000000 in
theorem s4A {w : World} {base : Heap} {q : Par} {loose : List Str} {mean : ExcName → Option Value} {mg mb : Str → Option Value} (C : Cx w base q loose mean mg mb) {σ : Sta} {own : List (Addr × Obj)} {s : Shared} {vN : Value} {m₀ : Str → Option Value} {i : Int} {u : Tok} {v1 va : Value} {b k0 : Nat} {xs ys : List (Nat × Dat)} {ds : List Dat} {ka : Nat} {c : Int} {to : Tok} {G : List Stmt}
    {Q : Flow → Shared → Prop} {E : Value → Shared → Prop} (hi0 : 0 ≤ i) (hi1 : i < 64) (hb : b ≤ 100) {led : List (Addr × Obj)} (hs : ∀ p ∈ own, p ∈ led) (O : ownOK q led) (R : Rel w own σ vN b k0 xs xs ys ys ds ds) (KA : KeyIn own ka va) (h1 : ¬ c = 1) (h2 : ¬ c = 2) (KG : ∀ h tk m add, c = 6 → (lkp xs ka).isSome = false → Grown q add led → Fr base q.L h (turnM (.int c to) v1 σ.vS .none .none va (.int i u) (canon q.aQ q.aK q.aH vN m)) → News base q.L h (muts q σ ++ consts q ++ (add ++ led)) →  wpAny (model PRG w) (callerA.deeper (lawEnv q.L q.fa)) (execs G (lawEnv q.L q.fa)) Q E { s with heap := h, toks := tk })
    (K : ∀ h tk m add, ¬ (c = 6 ∧ (lkp xs ka).isSome = false) → Grown q add led → Fr base q.L h (turnM (.int c to) v1 σ.vS .none .none va (.int i u) (canon q.aQ q.aK q.aH vN m)) → News base q.L h (muts q σ ++ consts q ++ (add ++ led)) →  Q .next { s with heap := h, toks := tk })
    (F : Fr base q.L s.heap (turnM (.int c to) v1 σ.vS .none .none va (.int i u) (canon q.aQ q.aK q.aH vN m₀))) (N : News base q.L s.heap (muts q σ ++ consts q ++ led)) : wpAny (model PRG w) (callerA.deeper (lawEnv q.L q.fa)) (execs [.If (ifTest (pick 4 loopBody)) [.If (ifTest (pick 0 (ifThen (pick 4 loopBody)))) G [] (ifPos (pick 0 (ifThen (pick 4 loopBody))))] [] (ifPos (pick 4 loopBody))] (lawEnv q.L q.fa)) Q E s := by
  obtain ⟨X, T, B, CD, cS, cM, cB, ⟨vsF, tF, hF1, hF2⟩, ⟨vsH, tH, hH1, hH2⟩, ⟨vsC, tC, hC1, hC2⟩, ⟨eB1, eB2, eB3⟩, ord⟩ := C
  obtain ⟨o1, o2, o3, o4, o5, o6, o7, o8, o9, o10, o11, o12, o13, o14, o15, o16⟩ := ord
  obtain ⟨kS, tB, tK, tR, tH', dM, dN, k4, iB, iK, iR, iH, iM, iN, lM, lN⟩ := R
  have lB : xs.length ≤ 1000 := by have := iB.len tB; omega
  have lK : xs.length ≤ 1000 := by have := iK.len tK; omega
  have lR : ys.length ≤ 1000 := by have := iR.len tR; omega
  have lH : ys.length ≤ 1000 := by have := iH.len tH'; omega
  have zl := DatAll.length dM
  have zM : σ.vsM.length ≤ 200 := by rw [DatAll.length dM]; omega
  have nB : (q.aB == sysModules) = false := nsys_of (by omega)
  have nR : (q.aR == sysModules) = false := nsys_of (by omega)
  have nK : (q.aK == sysModules) = false := nsys_of (by omega)
  have nH : (q.aH == sysModules) = false := nsys_of (by omega)
  have fS : ∀ p ∈ led, p.1 ≠ q.aS := fun p hp => (O p hp).1
  have fM : ∀ p ∈ led, p.1 ≠ q.aM := fun p hp => (O p hp).2.1
  have fB : ∀ p ∈ led, p.1 ≠ q.aB := fun p hp => (O p hp).2.2.1
  have fR : ∀ p ∈ led, p.1 ≠ q.aR := fun p hp => (O p hp).2.2.2.1
  have fK : ∀ p ∈ led, p.1 ≠ q.aK := fun p hp => (O p hp).2.2.2.2.1
  have fH : ∀ p ∈ led, p.1 ≠ q.aH := fun p hp => (O p hp).2.2.2.2.2
  obtain ⟨hh, g, dr, tk, os⟩ := s
  dsimp only [muts, consts, madeFn, lawEnv, loopBody, pick, forBody, lawBody, lawScope, createS, hereS, freshS, ifThen, ifElse, ifTest, ifPos, boolItems, pickE, boolPos, notArg, notPos, forTarget, forIter, forPos, askE, chain, deed, growB, defArgs, defBody, defScope, PySem.Challenge.pw_eu0027_01, List.cons_append, List.nil_append, turnM] at F N hF2 hH2 hC2 ⊢
  k_steps
  all_goals (try dsimp only)
  all_goals (rename Fr _ _ _ _ => FF; rename News _ _ _ _ => NN)
  all_goals first
    | (exfalso; (have z := (by assumption : (([1, 2] : List Int).any fun x => x == c) = true); simp at z; omega))
    | (refine wpAny_mono (KG _ _ _ [] (by assumption) (by assumption) Grown.nil (Fr.turn FF rfl rfl rfl rfl rfl rfl rfl rfl rfl rfl rfl) (pack0 NN)) (fun f s' hq => ?_) (fun _ _ h => h); cases f <;> first | exact hq | (dsimp only; k_steps; exact hq))
    | (refine wpAny_mono (KG _ _ _ [_] (by assumption) (by assumption) (Grown.cons (by assumption) (by omega) Grown.nil) (Fr.turn FF rfl rfl rfl rfl rfl rfl rfl rfl rfl rfl rfl) (pack1 NN)) (fun f s' hq => ?_) (fun _ _ h => h); cases f <;> first | exact hq | (dsimp only; k_steps; exact hq))
    | exact K _ _ _ [] (fun z => (by first | exact absurd z.1 (by assumption) | exact Bool.noConfusion (Eq.trans (Eq.symm (by assumption : (lkp xs ka).isSome = true)) z.2))) Grown.nil (Fr.turn FF rfl rfl rfl rfl rfl rfl rfl rfl rfl rfl rfl) (pack0 NN)
    | exact K _ _ _ [_] (fun z => (by first | exact absurd z.1 (by assumption) | exact Bool.noConfusion (Eq.trans (Eq.symm (by assumption : (lkp xs ka).isSome = true)) z.2))) (Grown.cons (by assumption) (by omega) Grown.nil) (Fr.turn FF rfl rfl rfl rfl rfl rfl rfl rfl rfl rfl rfl) (pack1 NN)

set_option maxHeartbeats 8000000 in
theorem s4B {w : World} {base : Heap} {q : Par} {loose : List Str} {mean : ExcName → Option Value} {mg mb : Str → Option Value} (C : Cx w base q loose mean mg mb) {σ : Sta} {own : List (Addr × Obj)} {s : Shared} {vN : Value} {m₀ : Str → Option Value} {i : Int} {u : Tok} {v1 va : Value} {b k0 : Nat} {xs ys : List (Nat × Dat)} {ds : List Dat} {c : Int} {to : Tok} {G : List Stmt}
    {Q : Flow → Shared → Prop} {E : Value → Shared → Prop} (hi0 : 0 ≤ i) (hi1 : i < 64) (hb : b ≤ 100) {led : List (Addr × Obj)} (hs : ∀ p ∈ own, p ∈ led) (O : ownOK q led) (R : Rel w own σ vN b k0 xs xs ys ys ds ds) (KA : KeyIn own k0 va) (h12 : c = 1 ∨ c = 2) (KG : ∀ h tk m add, (lkp ys k0).isSome = false → (lkp xs k0).isSome = false → Grown q add led → Fr base q.L h (turnM (.int c to) v1 σ.vS .none .none va (.int i u) (canon q.aQ q.aK q.aH vN m)) → News base q.L h (muts q σ ++ consts q ++ (add ++ led)) →  wpAny (model PRG w) (callerA.deeper (lawEnv q.L q.fa)) (execs G (lawEnv q.L q.fa)) Q E { s with heap := h, toks := tk })
    (K : ∀ h tk m add, ¬ ((lkp ys k0).isSome = false ∧ (lkp xs k0).isSome = false) → Grown q add led → Fr base q.L h (turnM (.int c to) v1 σ.vS .none .none va (.int i u) (canon q.aQ q.aK q.aH vN m)) → News base q.L h (muts q σ ++ consts q ++ (add ++ led)) →  Q .next { s with heap := h, toks := tk })
    (F : Fr base q.L s.heap (turnM (.int c to) v1 σ.vS .none .none va (.int i u) (canon q.aQ q.aK q.aH vN m₀))) (N : News base q.L s.heap (muts q σ ++ consts q ++ led)) : wpAny (model PRG w) (callerA.deeper (lawEnv q.L q.fa)) (execs [.If (ifTest (pick 4 loopBody)) [.If (ifTest (pick 0 (ifThen (pick 4 loopBody)))) G [] (ifPos (pick 0 (ifThen (pick 4 loopBody))))] [] (ifPos (pick 4 loopBody))] (lawEnv q.L q.fa)) Q E s := by
  obtain ⟨X, T, B, CD, cS, cM, cB, ⟨vsF, tF, hF1, hF2⟩, ⟨vsH, tH, hH1, hH2⟩, ⟨vsC, tC, hC1, hC2⟩, ⟨eB1, eB2, eB3⟩, ord⟩ := C
  obtain ⟨o1, o2, o3, o4, o5, o6, o7, o8, o9, o10, o11, o12, o13, o14, o15, o16⟩ := ord
  obtain ⟨kS, tB, tK, tR, tH', dM, dN, k4, iB, iK, iR, iH, iM, iN, lM, lN⟩ := R
  have lB : xs.length ≤ 1000 := by have := iB.len tB; omega
  have lK : xs.length ≤ 1000 := by have := iK.len tK; omega
  have lR : ys.length ≤ 1000 := by have := iR.len tR; omega
  have lH : ys.length ≤ 1000 := by have := iH.len tH'; omega
  have zl := DatAll.length dM
  have zM : σ.vsM.length ≤ 200 := by rw [DatAll.length dM]; omega
  have nB : (q.aB == sysModules) = false := nsys_of (by omega)
  have nR : (q.aR == sysModules) = false := nsys_of (by omega)
  have nK : (q.aK == sysModules) = false := nsys_of (by omega)
  have nH : (q.aH == sysModules) = false := nsys_of (by omega)
  have fS : ∀ p ∈ led, p.1 ≠ q.aS := fun p hp => (O p hp).1
  have fM : ∀ p ∈ led, p.1 ≠ q.aM := fun p hp => (O p hp).2.1
  have fB : ∀ p ∈ led, p.1 ≠ q.aB := fun p hp => (O p hp).2.2.1
  have fR : ∀ p ∈ led, p.1 ≠ q.aR := fun p hp => (O p hp).2.2.2.1
  have fK : ∀ p ∈ led, p.1 ≠ q.aK := fun p hp => (O p hp).2.2.2.2.1
  have fH : ∀ p ∈ led, p.1 ≠ q.aH := fun p hp => (O p hp).2.2.2.2.2
  obtain ⟨hh, g, dr, tk, os⟩ := s
  dsimp only [muts, consts, madeFn, lawEnv, loopBody, pick, forBody, lawBody, lawScope, createS, hereS, freshS, ifThen, ifElse, ifTest, ifPos, boolItems, pickE, boolPos, notArg, notPos, forTarget, forIter, forPos, askE, chain, deed, growB, defArgs, defBody, defScope, PySem.Challenge.pw_eu0027_01, List.cons_append, List.nil_append, turnM] at F N hF2 hH2 hC2 ⊢
  k_steps
  all_goals (try dsimp only)
  all_goals (rename Fr _ _ _ _ => FF; rename News _ _ _ _ => NN)
  all_goals first
    | (exfalso; omega)
    | (exfalso; (have z := (by assumption : (([1, 2] : List Int).any fun x => x == c) = false); simp at z; omega))
    | (refine wpAny_mono (KG _ _ _ [] (by assumption) (by assumption) Grown.nil (Fr.turn FF rfl rfl rfl rfl rfl rfl rfl rfl rfl rfl rfl) (pack0 NN)) (fun f s' hq => ?_) (fun _ _ h => h); cases f <;> first | exact hq | (dsimp only; k_steps; exact hq))
    | (refine wpAny_mono (KG _ _ _ [_] (by assumption) (by assumption) (Grown.cons (by assumption) (by omega) Grown.nil) (Fr.turn FF rfl rfl rfl rfl rfl rfl rfl rfl rfl rfl rfl) (pack1 NN)) (fun f s' hq => ?_) (fun _ _ h => h); cases f <;> first | exact hq | (dsimp only; k_steps; exact hq))
    | exact K _ _ _ [] (fun z => (by first | exact Bool.noConfusion (Eq.trans (Eq.symm (by assumption : (lkp ys k0).isSome = true)) z.1) | exact Bool.noConfusion (Eq.trans (Eq.symm (by assumption : (lkp xs k0).isSome = true)) z.2))) Grown.nil (Fr.turn FF rfl rfl rfl rfl rfl rfl rfl rfl rfl rfl rfl) (pack0 NN)
    | exact K _ _ _ [_] (fun z => (by first | exact Bool.noConfusion (Eq.trans (Eq.symm (by assumption : (lkp ys k0).isSome = true)) z.1) | exact Bool.noConfusion (Eq.trans (Eq.symm (by assumption : (lkp xs k0).isSome = true)) z.2))) (Grown.cons (by assumption) (by omega) Grown.nil) (Fr.turn FF rfl rfl rfl rfl rfl rfl rfl rfl rfl rfl rfl) (pack1 NN)

set_option maxHeartbeats 8000000 in
theorem s5ch {w : World} {base : Heap} {q : Par} {loose : List Str} {mean : ExcName → Option Value} {mg mb : Str → Option Value} (C : Cx w base q loose mean mg mb) {σ : Sta} {own : List (Addr × Obj)} {s : Shared} {vN : Value} {m₀ : Str → Option Value} {i : Int} {u : Tok} {v1 va : Value} {b k0 : Nat} {k1 : Nat} {c : Int} {to : Tok} {B0 B1 B2 B3 B4 B5 B6 B7 : List Stmt} {xsB xsK ys yh : List (Nat × Dat)} {dsM dsN : List Dat}
    {Q : Flow → Shared → Prop} {E : Value → Shared → Prop} (hi0 : 0 ≤ i) (hi1 : i < 64) (hb : b ≤ 100) {led : List (Addr × Obj)} (hs : ∀ p ∈ own, p ∈ led) (O : ownOK q led) (R : Rel w own σ vN b k0 xsB xsK ys yh dsM dsN) (K1 : KeyIn own k1 v1) (G0 : ∀ tk, c = 0 → wpAny (model PRG w) (callerA.deeper (lawEnv q.L q.fa)) (execs B0 (lawEnv q.L q.fa)) Q E { s with toks := tk }) (G1 : ∀ tk, c ≠ 0 → c < 3 → wpAny (model PRG w) (callerA.deeper (lawEnv q.L q.fa)) (execs B1 (lawEnv q.L q.fa)) Q E { s with toks := tk }) (G2 : ∀ tk, c = 3 → wpAny (model PRG w) (callerA.deeper (lawEnv q.L q.fa)) (execs B2 (lawEnv q.L q.fa)) Q E { s with toks := tk }) (G3 : ∀ tk, c = 4 → wpAny (model PRG w) (callerA.deeper (lawEnv q.L q.fa)) (execs B3 (lawEnv q.L q.fa)) Q E { s with toks := tk }) (G4 : ∀ tk, c = 5 → wpAny (model PRG w) (callerA.deeper (lawEnv q.L q.fa)) (execs B4 (lawEnv q.L q.fa)) Q E { s with toks := tk }) (G5 : ∀ tk, c = 6 → wpAny (model PRG w) (callerA.deeper (lawEnv q.L q.fa)) (execs B5 (lawEnv q.L q.fa)) Q E { s with toks := tk }) (G6 : ∀ tk, c = 7 → wpAny (model PRG w) (callerA.deeper (lawEnv q.L q.fa)) (execs B6 (lawEnv q.L q.fa)) Q E { s with toks := tk }) (G7 : ∀ tk, c ≠ 0 → ¬ c < 3 → c ≠ 6 → (lkp xsK k1).isSome = true → wpAny (model PRG w) (callerA.deeper (lawEnv q.L q.fa)) (execs B7 (lawEnv q.L q.fa)) Q E { s with toks := tk })
    (K : ∀ tk, c ≠ 0 → ¬ c < 3 → c ≠ 6 → (lkp xsK k1).isSome = false → Q .next { s with toks := tk })
    (F : Fr base q.L s.heap (turnM (.int c to) v1 σ.vS .none .none va (.int i u) (canon q.aQ q.aK q.aH vN m₀))) (N : News base q.L s.heap (muts q σ ++ consts q ++ led)) : wpAny (model PRG w) (callerA.deeper (lawEnv q.L q.fa)) (execs [.If (ifTest (chain 0)) B0 [.If (ifTest (chain 1)) B1 [.If (ifTest (chain 2)) B2 [.If (ifTest (chain 3)) B3 [.If (ifTest (chain 4)) B4 [.If (ifTest (chain 5)) B5 [.If (ifTest (chain 6)) B6 [.If (ifTest (chain 7)) B7 [] (ifPos (chain 7))] (ifPos (chain 6))] (ifPos (chain 5))] (ifPos (chain 4))] (ifPos (chain 3))] (ifPos (chain 2))] (ifPos (chain 1))] (ifPos (chain 0))] (lawEnv q.L q.fa)) Q E s := by
  obtain ⟨X, T, B, CD, cS, cM, cB, ⟨vsF, tF, hF1, hF2⟩, ⟨vsH, tH, hH1, hH2⟩, ⟨vsC, tC, hC1, hC2⟩, ⟨eB1, eB2, eB3⟩, ord⟩ := C
  obtain ⟨o1, o2, o3, o4, o5, o6, o7, o8, o9, o10, o11, o12, o13, o14, o15, o16⟩ := ord
  obtain ⟨kS, tB, tK, tR, tH', dM, dN, k4, iB, iK, iR, iH, iM, iN, lM, lN⟩ := R
  have lB : xsB.length ≤ 1000 := by have := iB.len tB; omega
  have lK : xsK.length ≤ 1000 := by have := iK.len tK; omega
  have lR : ys.length ≤ 1000 := by have := iR.len tR; omega
  have lH : yh.length ≤ 1000 := by have := iH.len tH'; omega
  have zl := DatAll.length dM
  have zM : σ.vsM.length ≤ 200 := by rw [DatAll.length dM]; omega
  have nB : (q.aB == sysModules) = false := nsys_of (by omega)
  have nR : (q.aR == sysModules) = false := nsys_of (by omega)
  have nK : (q.aK == sysModules) = false := nsys_of (by omega)
  have nH : (q.aH == sysModules) = false := nsys_of (by omega)
  have fS : ∀ p ∈ led, p.1 ≠ q.aS := fun p hp => (O p hp).1
  have fM : ∀ p ∈ led, p.1 ≠ q.aM := fun p hp => (O p hp).2.1
  have fB : ∀ p ∈ led, p.1 ≠ q.aB := fun p hp => (O p hp).2.2.1
  have fR : ∀ p ∈ led, p.1 ≠ q.aR := fun p hp => (O p hp).2.2.2.1
  have fK : ∀ p ∈ led, p.1 ≠ q.aK := fun p hp => (O p hp).2.2.2.2.1
  have fH : ∀ p ∈ led, p.1 ≠ q.aH := fun p hp => (O p hp).2.2.2.2.2
  obtain ⟨hh, g, dr, tk, os⟩ := s
  dsimp only [muts, consts, madeFn, lawEnv, loopBody, pick, forBody, lawBody, lawScope, createS, hereS, freshS, ifThen, ifElse, ifTest, ifPos, boolItems, pickE, boolPos, notArg, notPos, forTarget, forIter, forPos, askE, chain, deed, growB, defArgs, defBody, defScope, PySem.Challenge.pw_eu0027_01, List.cons_append, List.nil_append, turnM] at F N hF2 hH2 hC2 ⊢
  k_steps
  all_goals (try dsimp only)
  all_goals first
    | exact K _ (by omega) (by omega) (by omega) (by assumption)
    | (refine wpAny_mono (G0 _ (by omega)) (fun f s' hq => ?_) (fun _ _ h => h); cases f <;> first | exact hq | (dsimp only; k_steps; exact hq))
    | (refine wpAny_mono (G1 _ (by omega) (by omega)) (fun f s' hq => ?_) (fun _ _ h => h); cases f <;> first | exact hq | (dsimp only; k_steps; exact hq))
    | (refine wpAny_mono (G2 _ (by omega)) (fun f s' hq => ?_) (fun _ _ h => h); cases f <;> first | exact hq | (dsimp only; k_steps; exact hq))
    | (refine wpAny_mono (G3 _ (by omega)) (fun f s' hq => ?_) (fun _ _ h => h); cases f <;> first | exact hq | (dsimp only; k_steps; exact hq))
    | (refine wpAny_mono (G4 _ (by omega)) (fun f s' hq => ?_) (fun _ _ h => h); cases f <;> first | exact hq | (dsimp only; k_steps; exact hq))
    | (refine wpAny_mono (G5 _ (by omega)) (fun f s' hq => ?_) (fun _ _ h => h); cases f <;> first | exact hq | (dsimp only; k_steps; exact hq))
    | (refine wpAny_mono (G6 _ (by omega)) (fun f s' hq => ?_) (fun _ _ h => h); cases f <;> first | exact hq | (dsimp only; k_steps; exact hq))
    | (refine wpAny_mono (G7 _ (by omega) (by omega) (by omega) (by assumption)) (fun f s' hq => ?_) (fun _ _ h => h); cases f <;> first | exact hq | (dsimp only; k_steps; exact hq))

set_option maxHeartbeats 8000000 in
theorem s6 {w : World} {base : Heap} {q : Par} {loose : List Str} {mean : ExcName → Option Value} {mg mb : Str → Option Value} (C : Cx w base q loose mean mg mb) {σ : Sta} {own : List (Addr × Obj)} {s : Shared} {vN : Value} {m₀ : Str → Option Value} {i : Int} {u : Tok}  {b k0 : Nat} {xs ys : List (Nat × Dat)} {ds : List Dat} {op key now told want ask : Value} {d : Dat}
    {Q : Flow → Shared → Prop} {E : Value → Shared → Prop} (hi0 : 0 ≤ i) (hi1 : i < 64) (hb : b ≤ 100) {led : List (Addr × Obj)} (hs : ∀ p ∈ own, p ∈ led) (O : ownOK q led) (R : Rel w own σ vN b k0 xs xs ys ys ds ds) (hT : DatIn own told d) (hW : DatIn own want d) (hok : dok 4 d = true) 
    (K : ∀ h tk m, Fr base q.L h (turnM op key now told want ask (.int i u) (canon q.aQ q.aK q.aH vN m)) → News base q.L h (muts q σ ++ consts q ++ led) → Q .next { s with heap := h, toks := tk })
    (F : Fr base q.L s.heap (turnM op key now told want ask (.int i u) (canon q.aQ q.aK q.aH vN m₀))) (N : News base q.L s.heap (muts q σ ++ consts q ++ led)) : wpAny (model PRG w) (callerA.deeper (lawEnv q.L q.fa)) (execs [pick 6 loopBody] (lawEnv q.L q.fa)) Q E s := by
  obtain ⟨X, T, B, CD, cS, cM, cB, ⟨vsF, tF, hF1, hF2⟩, ⟨vsH, tH, hH1, hH2⟩, ⟨vsC, tC, hC1, hC2⟩, ⟨eB1, eB2, eB3⟩, ord⟩ := C
  obtain ⟨o1, o2, o3, o4, o5, o6, o7, o8, o9, o10, o11, o12, o13, o14, o15, o16⟩ := ord
  obtain ⟨kS, tB, tK, tR, tH', dM, dN, k4, iB, iK, iR, iH, iM, iN, lM, lN⟩ := R
  have lB : xs.length ≤ 1000 := by have := iB.len tB; omega
  have lK : xs.length ≤ 1000 := by have := iK.len tK; omega
  have lR : ys.length ≤ 1000 := by have := iR.len tR; omega
  have lH : ys.length ≤ 1000 := by have := iH.len tH'; omega
  have zl := DatAll.length dM
  have zM : σ.vsM.length ≤ 200 := by rw [DatAll.length dM]; omega
  have nB : (q.aB == sysModules) = false := nsys_of (by omega)
  have nR : (q.aR == sysModules) = false := nsys_of (by omega)
  have nK : (q.aK == sysModules) = false := nsys_of (by omega)
  have nH : (q.aH == sysModules) = false := nsys_of (by omega)
  have fS : ∀ p ∈ led, p.1 ≠ q.aS := fun p hp => (O p hp).1
  have fM : ∀ p ∈ led, p.1 ≠ q.aM := fun p hp => (O p hp).2.1
  have fB : ∀ p ∈ led, p.1 ≠ q.aB := fun p hp => (O p hp).2.2.1
  have fR : ∀ p ∈ led, p.1 ≠ q.aR := fun p hp => (O p hp).2.2.2.1
  have fK : ∀ p ∈ led, p.1 ≠ q.aK := fun p hp => (O p hp).2.2.2.2.1
  have fH : ∀ p ∈ led, p.1 ≠ q.aH := fun p hp => (O p hp).2.2.2.2.2
  have okI := iB.items
  have okL := okList iM
  obtain ⟨hh, g, dr, tk, os⟩ := s
  dsimp only [muts, consts, madeFn, lawEnv, loopBody, pick, forBody, lawBody, lawScope, createS, hereS, freshS, ifThen, ifElse, ifTest, ifPos, boolItems, pickE, boolPos, notArg, notPos, forTarget, forIter, forPos, askE, chain, deed, growB, defArgs, defBody, defScope, PySem.Challenge.pw_eu0027_01, List.cons_append, List.nil_append, turnM] at F N hF2 hH2 hC2 ⊢
  k_steps
  all_goals (try dsimp only)
  all_goals (rename Fr _ _ _ _ => FF; rename News _ _ _ _ => NN)
  exact K _ _ _ (Fr.turn FF rfl rfl rfl rfl rfl rfl rfl rfl rfl rfl rfl) (thin NN (fun p hp => (by assumption : ∀ p ∈ _, p ∈ _) p ((by assumption : ∀ p ∈ _, p ∈ _) p hp)))

set_option maxHeartbeats 8000000 in
theorem t0 {w : World} {base : Heap} {q : Par} {loose : List Str} {mean : ExcName → Option Value} {mg mb : Str → Option Value} (C : Cx w base q loose mean mg mb) {σ : Sta} {own : List (Addr × Obj)} {s : Shared} {vN : Value} {m₀ : Str → Option Value} {k : Nat} {xsB xsK ys yh : List (Nat × Dat)} {dsM dsN : List Dat}
    {Q : Flow → Shared → Prop} {E : Value → Shared → Prop} {led : List (Addr × Obj)} (hs : ∀ p ∈ own, p ∈ led) (O : ownOK q led) (kS : KeyIn own k σ.vS) (tB : TabL w own σ.esB xsB) (tK : TabL w own σ.esK xsK) (tR : TabL w own σ.esR ys) (tH' : TabL w own σ.esH yh) (dM : DatAll own σ.vsM dsM) (dN : DatIn own vN (.list dsN)) (lB : xsB.length ≤ 1000) (lR : ys.length ≤ 1000) (lM : dsM.length ≤ 100) (lN : dsN.length ≤ 100) 
    (K : ∀ h tk m t, Fr base q.L h (canon q.aQ q.aK q.aH vN m) → News base q.L h (muts q { σ with vS := .str (Str.ofString "new") t } ++ consts q ++ led) → Q .next { s with heap := h, toks := tk })
    (F : Fr base q.L s.heap (canon q.aQ q.aK q.aH vN m₀)) (N : News base q.L s.heap (muts q σ ++ consts q ++ led)) : wpAny (model PRG w) (callerA.deeper (lawEnv q.L q.fa)) (execs [pick 8 lawBody] (lawEnv q.L q.fa)) Q E s := by
  obtain ⟨X, T, B, CD, cS, cM, cB, ⟨vsF, tF, hF1, hF2⟩, ⟨vsH, tH, hH1, hH2⟩, ⟨vsC, tC, hC1, hC2⟩, ⟨eB1, eB2, eB3⟩, ord⟩ := C
  obtain ⟨o1, o2, o3, o4, o5, o6, o7, o8, o9, o10, o11, o12, o13, o14, o15, o16⟩ := ord
  have zl := DatAll.length dM
  have zM : σ.vsM.length ≤ 200 := by rw [DatAll.length dM]; omega
  have nB : (q.aB == sysModules) = false := nsys_of (by omega)
  have nR : (q.aR == sysModules) = false := nsys_of (by omega)
  have nK : (q.aK == sysModules) = false := nsys_of (by omega)
  have nH : (q.aH == sysModules) = false := nsys_of (by omega)
  have fS : ∀ p ∈ led, p.1 ≠ q.aS := fun p hp => (O p hp).1
  have fM : ∀ p ∈ led, p.1 ≠ q.aM := fun p hp => (O p hp).2.1
  have fB : ∀ p ∈ led, p.1 ≠ q.aB := fun p hp => (O p hp).2.2.1
  have fR : ∀ p ∈ led, p.1 ≠ q.aR := fun p hp => (O p hp).2.2.2.1
  have fK : ∀ p ∈ led, p.1 ≠ q.aK := fun p hp => (O p hp).2.2.2.2.1
  have fH : ∀ p ∈ led, p.1 ≠ q.aH := fun p hp => (O p hp).2.2.2.2.2
  obtain ⟨hh, g, dr, tk, os⟩ := s
  dsimp only [muts, consts, madeFn, lawEnv, loopBody, pick, forBody, lawBody, lawScope, createS, hereS, freshS, ifThen, ifElse, ifTest, ifPos, boolItems, pickE, boolPos, notArg, notPos, forTarget, forIter, forPos, askE, chain, deed, growB, defArgs, defBody, defScope, PySem.Challenge.pw_eu0027_01, List.cons_append, List.nil_append, turnM] at F N hF2 hH2 hC2 ⊢
  k_steps
  all_goals (try dsimp only)
  all_goals (rename Fr _ _ _ _ => FF; rename News _ _ _ _ => NN)
  exact K _ _ _ _ (canonFr FF rfl rfl rfl rfl) (pack0 NN)

set_option maxHeartbeats 8000000 in
theorem tHas {w : World} {base : Heap} {q : Par} {loose : List Str} {mean : ExcName → Option Value} {mg mb : Str → Option Value} (C : Cx w base q loose mean mg mb) {σ : Sta} {own : List (Addr × Obj)} {s : Shared} {vN : Value} {m₀ : Str → Option Value} {k : Nat} {xsB xsK ys yh : List (Nat × Dat)} {dsM dsN : List Dat}
    {Q : Bool → Shared → Prop} {E : Value → Shared → Prop} {led : List (Addr × Obj)} (hs : ∀ p ∈ own, p ∈ led) (O : ownOK q led) (kS : KeyIn own k σ.vS) (tB : TabL w own σ.esB xsB) (tK : TabL w own σ.esK xsK) (tR : TabL w own σ.esR ys) (tH' : TabL w own σ.esH yh) (dM : DatAll own σ.vsM dsM) (dN : DatIn own vN (.list dsN)) (lB : xsB.length ≤ 1000) (lR : ys.length ≤ 1000) (lM : dsM.length ≤ 100) (lN : dsN.length ≤ 100) 
    (K : ∀ h tk m, Fr base q.L h (canon q.aQ q.aK q.aH vN m) → News base q.L h (muts q σ ++ consts q ++ led) → Q (lkp ys k).isSome { s with heap := h, toks := tk })
    (F : Fr base q.L s.heap (canon q.aQ q.aK q.aH vN m₀)) (N : News base q.L s.heap (muts q σ ++ consts q ++ led)) : wpAny (model PRG w) (callerA.deeper (lawEnv q.L q.fa)) (PySem.isTrue (askE 0) (lawEnv q.L q.fa) (eval (askE 0) (lawEnv q.L q.fa))) Q E s := by
  obtain ⟨X, T, B, CD, cS, cM, cB, ⟨vsF, tF, hF1, hF2⟩, ⟨vsH, tH, hH1, hH2⟩, ⟨vsC, tC, hC1, hC2⟩, ⟨eB1, eB2, eB3⟩, ord⟩ := C
  obtain ⟨o1, o2, o3, o4, o5, o6, o7, o8, o9, o10, o11, o12, o13, o14, o15, o16⟩ := ord
  have zl := DatAll.length dM
  have zM : σ.vsM.length ≤ 200 := by rw [DatAll.length dM]; omega
  have nB : (q.aB == sysModules) = false := nsys_of (by omega)
  have nR : (q.aR == sysModules) = false := nsys_of (by omega)
  have nK : (q.aK == sysModules) = false := nsys_of (by omega)
  have nH : (q.aH == sysModules) = false := nsys_of (by omega)
  have fS : ∀ p ∈ led, p.1 ≠ q.aS := fun p hp => (O p hp).1
  have fM : ∀ p ∈ led, p.1 ≠ q.aM := fun p hp => (O p hp).2.1
  have fB : ∀ p ∈ led, p.1 ≠ q.aB := fun p hp => (O p hp).2.2.1
  have fR : ∀ p ∈ led, p.1 ≠ q.aR := fun p hp => (O p hp).2.2.2.1
  have fK : ∀ p ∈ led, p.1 ≠ q.aK := fun p hp => (O p hp).2.2.2.2.1
  have fH : ∀ p ∈ led, p.1 ≠ q.aH := fun p hp => (O p hp).2.2.2.2.2
  obtain ⟨hh, g, dr, tk, os⟩ := s
  dsimp only [muts, consts, madeFn, lawEnv, loopBody, pick, forBody, lawBody, lawScope, createS, hereS, freshS, ifThen, ifElse, ifTest, ifPos, boolItems, pickE, boolPos, notArg, notPos, forTarget, forIter, forPos, askE, chain, deed, growB, defArgs, defBody, defScope, PySem.Challenge.pw_eu0027_01, List.cons_append, List.nil_append, turnM] at F N hF2 hH2 hC2 ⊢
  k_steps
  all_goals (try dsimp only)
  all_goals (rename Fr _ _ _ _ => FF; rename News _ _ _ _ => NN)
  all_goals exact K _ _ _ (canonFr FF rfl rfl rfl rfl) (pack0 NN)

set_option maxHeartbeats 8000000 in
theorem tHas2 {w : World} {base : Heap} {q : Par} {loose : List Str} {mean : ExcName → Option Value} {mg mb : Str → Option Value} (C : Cx w base q loose mean mg mb) {σ : Sta} {own : List (Addr × Obj)} {s : Shared} {vN : Value} {m₀ : Str → Option Value} {k : Nat} {xsB xsK ys yh : List (Nat × Dat)} {dsM dsN : List Dat}
    {Q : Bool → Shared → Prop} {E : Value → Shared → Prop} {led : List (Addr × Obj)} (hs : ∀ p ∈ own, p ∈ led) (O : ownOK q led) (kS : KeyIn own k σ.vS) (tB : TabL w own σ.esB xsB) (tK : TabL w own σ.esK xsK) (tR : TabL w own σ.esR ys) (tH' : TabL w own σ.esH yh) (dM : DatAll own σ.vsM dsM) (dN : DatIn own vN (.list dsN)) (lB : xsB.length ≤ 1000) (lR : ys.length ≤ 1000) (lM : dsM.length ≤ 100) (lN : dsN.length ≤ 100) 
    (K : ∀ h tk m, Fr base q.L h (canon q.aQ q.aK q.aH vN m) → News base q.L h (muts q σ ++ consts q ++ led) → Q (lkp ys k).isSome { s with heap := h, toks := tk })
    (F : Fr base q.L s.heap (canon q.aQ q.aK q.aH vN m₀)) (N : News base q.L s.heap (muts q σ ++ consts q ++ led)) : wpAny (model PRG w) (callerA.deeper (lawEnv q.L q.fa)) (PySem.isTrue (notArg (askE 3)) (lawEnv q.L q.fa) (eval (notArg (askE 3)) (lawEnv q.L q.fa))) Q E s := by
  obtain ⟨X, T, B, CD, cS, cM, cB, ⟨vsF, tF, hF1, hF2⟩, ⟨vsH, tH, hH1, hH2⟩, ⟨vsC, tC, hC1, hC2⟩, ⟨eB1, eB2, eB3⟩, ord⟩ := C
  obtain ⟨o1, o2, o3, o4, o5, o6, o7, o8, o9, o10, o11, o12, o13, o14, o15, o16⟩ := ord
  have zl := DatAll.length dM
  have zM : σ.vsM.length ≤ 200 := by rw [DatAll.length dM]; omega
  have nB : (q.aB == sysModules) = false := nsys_of (by omega)
  have nR : (q.aR == sysModules) = false := nsys_of (by omega)
  have nK : (q.aK == sysModules) = false := nsys_of (by omega)
  have nH : (q.aH == sysModules) = false := nsys_of (by omega)
  have fS : ∀ p ∈ led, p.1 ≠ q.aS := fun p hp => (O p hp).1
  have fM : ∀ p ∈ led, p.1 ≠ q.aM := fun p hp => (O p hp).2.1
  have fB : ∀ p ∈ led, p.1 ≠ q.aB := fun p hp => (O p hp).2.2.1
  have fR : ∀ p ∈ led, p.1 ≠ q.aR := fun p hp => (O p hp).2.2.2.1
  have fK : ∀ p ∈ led, p.1 ≠ q.aK := fun p hp => (O p hp).2.2.2.2.1
  have fH : ∀ p ∈ led, p.1 ≠ q.aH := fun p hp => (O p hp).2.2.2.2.2
  obtain ⟨hh, g, dr, tk, os⟩ := s
  dsimp only [muts, consts, madeFn, lawEnv, loopBody, pick, forBody, lawBody, lawScope, createS, hereS, freshS, ifThen, ifElse, ifTest, ifPos, boolItems, pickE, boolPos, notArg, notPos, forTarget, forIter, forPos, askE, chain, deed, growB, defArgs, defBody, defScope, PySem.Challenge.pw_eu0027_01, List.cons_append, List.nil_append, turnM] at F N hF2 hH2 hC2 ⊢
  k_steps
  all_goals (try dsimp only)
  all_goals (rename Fr _ _ _ _ => FF; rename News _ _ _ _ => NN)
  all_goals exact K _ _ _ (canonFr FF rfl rfl rfl rfl) (pack0 NN)

set_option maxHeartbeats 8000000 in
theorem tNew {w : World} {base : Heap} {q : Par} {loose : List Str} {mean : ExcName → Option Value} {mg mb : Str → Option Value} (C : Cx w base q loose mean mg mb) {σ : Sta} {own : List (Addr × Obj)} {s : Shared} {vN : Value} {m₀ : Str → Option Value} {xsB xsK ys yh : List (Nat × Dat)} {dsM dsN : List Dat}
    {Q : Bool → Shared → Prop} {E : Value → Shared → Prop} {led : List (Addr × Obj)} (hs : ∀ p ∈ own, p ∈ led) (O : ownOK q led) (kS : KeyIn own 4 σ.vS) (tB : TabL w own σ.esB xsB) (tK : TabL w own σ.esK xsK) (tR : TabL w own σ.esR ys) (tH' : TabL w own σ.esH yh) (dM : DatAll own σ.vsM dsM) (dN : DatIn own vN (.list dsN)) (lB : xsB.length ≤ 1000) (lR : ys.length ≤ 1000) (lM : dsM.length ≤ 100) (lN : dsN.length ≤ 100) (hl : dsM.length = dsN.length) (yn : lkp ys 4 = none) (xn : lkp xsB 4 = none)
    (K : ∀ esB nB esR nR h tk m add, Grown q add led → TabL w (add ++ own) esB (put xsB 4 (.tuple [kdat 4, .int ((σ.vsM ++ [σ.vS]).length : Int)])) → TabL w (add ++ own) esR (put ys 4 (.tuple [kdat 4, .int ((σ.vsM ++ [σ.vS]).length : Int)])) → Fr base q.L h (canon q.aQ q.aK q.aH vN m) → News base q.L h (muts q { σ with vsM := σ.vsM ++ [σ.vS], nM := σ.nM + 1, esB := esB, nB := nB, esR := esR, nR := nR } ++ consts q ++ (add ++ led)) → Q false { s with heap := h, toks := tk })
    (F : Fr base q.L s.heap (canon q.aQ q.aK q.aH vN m₀)) (N : News base q.L s.heap (muts q σ ++ consts q ++ led)) : wpAny (model PRG w) (callerA.deeper (lawEnv q.L q.fa)) (PySem.isTrue (askE 1) (lawEnv q.L q.fa) (eval (askE 1) (lawEnv q.L q.fa))) Q E s := by
  obtain ⟨X, T, B, CD, cS, cM, cB, ⟨vsF, tF, hF1, hF2⟩, ⟨vsH, tH, hH1, hH2⟩, ⟨vsC, tC, hC1, hC2⟩, ⟨eB1, eB2, eB3⟩, ord⟩ := C
  obtain ⟨o1, o2, o3, o4, o5, o6, o7, o8, o9, o10, o11, o12, o13, o14, o15, o16⟩ := ord
  have zl := DatAll.length dM
  cases dN with
  | list hmN allN =>
  rename_i aN vsN nN
  have zn := DatAll.length allN
  have zM : σ.vsM.length ≤ 200 := by rw [DatAll.length dM]; omega
  have nB : (q.aB == sysModules) = false := nsys_of (by omega)
  have nR : (q.aR == sysModules) = false := nsys_of (by omega)
  have nK : (q.aK == sysModules) = false := nsys_of (by omega)
  have nH : (q.aH == sysModules) = false := nsys_of (by omega)
  have fS : ∀ p ∈ led, p.1 ≠ q.aS := fun p hp => (O p hp).1
  have fM : ∀ p ∈ led, p.1 ≠ q.aM := fun p hp => (O p hp).2.1
  have fB : ∀ p ∈ led, p.1 ≠ q.aB := fun p hp => (O p hp).2.2.1
  have fR : ∀ p ∈ led, p.1 ≠ q.aR := fun p hp => (O p hp).2.2.2.1
  have fK : ∀ p ∈ led, p.1 ≠ q.aK := fun p hp => (O p hp).2.2.2.2.1
  have fH : ∀ p ∈ led, p.1 ≠ q.aH := fun p hp => (O p hp).2.2.2.2.2
  obtain ⟨hh, g, dr, tk, os⟩ := s
  dsimp only [muts, consts, madeFn, lawEnv, loopBody, pick, forBody, lawBody, lawScope, createS, hereS, freshS, ifThen, ifElse, ifTest, ifPos, boolItems, pickE, boolPos, notArg, notPos, forTarget, forIter, forPos, askE, chain, deed, growB, defArgs, defBody, defScope, PySem.Challenge.pw_eu0027_01, List.cons_append, List.nil_append, turnM] at F N hF2 hH2 hC2 ⊢
  k_steps
  all_goals (try dsimp only)
  all_goals (rename Fr _ _ _ _ => FF; rename News _ _ _ _ => NN)
  exact K _ _ _ _ _ _ _ [_, _] (Grown.cons (by assumption) (by omega) (Grown.cons (by assumption) (by omega) Grown.nil)) (by first | assumption | exact TabL.mono (by assumption) sub2 | exact TabL.mono (by assumption) subNew | exact TabL.mono (by assumption) subMid) (by first | assumption | exact TabL.mono (by assumption) sub2 | exact TabL.mono (by assumption) subNew | exact TabL.mono (by assumption) subMid) (canonFr FF rfl rfl rfl rfl) (pack2 NN)

set_option maxHeartbeats 8000000 in
theorem tHit {w : World} {base : Heap} {q : Par} {loose : List Str} {mean : ExcName → Option Value} {mg mb : Str → Option Value} (C : Cx w base q loose mean mg mb) {σ : Sta} {own : List (Addr × Obj)} {s : Shared} {vN : Value} {m₀ : Str → Option Value} {xsB xsK ys yh : List (Nat × Dat)} {dsM dsN : List Dat}
    {Q : Bool → Shared → Prop} {E : Value → Shared → Prop} {led : List (Addr × Obj)} (hs : ∀ p ∈ own, p ∈ led) (O : ownOK q led) (kS : KeyIn own 4 σ.vS) (tB : TabL w own σ.esB xsB) (tK : TabL w own σ.esK xsK) (tR : TabL w own σ.esR ys) (tH' : TabL w own σ.esH yh) (dM : DatAll own σ.vsM dsM) (dN : DatIn own vN (.list dsN)) (lB : xsB.length ≤ 1000) (lR : ys.length ≤ 1000) (lM : dsM.length ≤ 100) (lN : dsN.length ≤ 100) {z : Int} (hz : z = (dsN.length : Int) + 1) (yn : lkp ys 4 = some (.tuple [kdat 4, .int z]))
    (K : ∀ h tk m add, Grown q add led → Fr base q.L h (canon q.aQ q.aK q.aH vN m) → News base q.L h (muts q σ ++ consts q ++ (add ++ led)) → Q false { s with heap := h, toks := tk })
    (F : Fr base q.L s.heap (canon q.aQ q.aK q.aH vN m₀)) (N : News base q.L s.heap (muts q σ ++ consts q ++ led)) : wpAny (model PRG w) (callerA.deeper (lawEnv q.L q.fa)) (PySem.isTrue (askE 2) (lawEnv q.L q.fa) (eval (askE 2) (lawEnv q.L q.fa))) Q E s := by
  obtain ⟨X, T, B, CD, cS, cM, cB, ⟨vsF, tF, hF1, hF2⟩, ⟨vsH, tH, hH1, hH2⟩, ⟨vsC, tC, hC1, hC2⟩, ⟨eB1, eB2, eB3⟩, ord⟩ := C
  obtain ⟨o1, o2, o3, o4, o5, o6, o7, o8, o9, o10, o11, o12, o13, o14, o15, o16⟩ := ord
  have zl := DatAll.length dM
  cases dN with
  | list hmN allN =>
  rename_i aN vsN nN
  have zn := DatAll.length allN
  have zM : σ.vsM.length ≤ 200 := by rw [DatAll.length dM]; omega
  have nB : (q.aB == sysModules) = false := nsys_of (by omega)
  have nR : (q.aR == sysModules) = false := nsys_of (by omega)
  have nK : (q.aK == sysModules) = false := nsys_of (by omega)
  have nH : (q.aH == sysModules) = false := nsys_of (by omega)
  have fS : ∀ p ∈ led, p.1 ≠ q.aS := fun p hp => (O p hp).1
  have fM : ∀ p ∈ led, p.1 ≠ q.aM := fun p hp => (O p hp).2.1
  have fB : ∀ p ∈ led, p.1 ≠ q.aB := fun p hp => (O p hp).2.2.1
  have fR : ∀ p ∈ led, p.1 ≠ q.aR := fun p hp => (O p hp).2.2.2.1
  have fK : ∀ p ∈ led, p.1 ≠ q.aK := fun p hp => (O p hp).2.2.2.2.1
  have fH : ∀ p ∈ led, p.1 ≠ q.aH := fun p hp => (O p hp).2.2.2.2.2
  obtain ⟨hh, g, dr, tk, os⟩ := s
  dsimp only [muts, consts, madeFn, lawEnv, loopBody, pick, forBody, lawBody, lawScope, createS, hereS, freshS, ifThen, ifElse, ifTest, ifPos, boolItems, pickE, boolPos, notArg, notPos, forTarget, forIter, forPos, askE, chain, deed, growB, defArgs, defBody, defScope, PySem.Challenge.pw_eu0027_01, List.cons_append, List.nil_append, turnM] at F N hF2 hH2 hC2 ⊢
  k_steps
  all_goals (try dsimp only)
  all_goals (rename Fr _ _ _ _ => FF; rename News _ _ _ _ => NN)
  exact K _ _ _ [_] (Grown.cons (by assumption) (by omega) Grown.nil) (canonFr FF rfl rfl rfl rfl) (pack1 NN)

set_option maxHeartbeats 8000000 in
theorem b1 {w : World} {base : Heap} {q : Par} {loose : List Str} {mean : ExcName → Option Value} {mg mb : Str → Option Value} (C : Cx w base q loose mean mg mb) {σ : Sta} {own : List (Addr × Obj)} {s : Shared} {vN : Value} {m₀ : Str → Option Value} {k k1 : Nat} {v : Value}  {xsB xsK ys yh : List (Nat × Dat)} {dsM dsN : List Dat}
    {Q : Flow → Shared → Prop} {E : Value → Shared → Prop} {led : List (Addr × Obj)} (hs : ∀ p ∈ own, p ∈ led) (O : ownOK q led) (kS : KeyIn own k σ.vS) (K1 : KeyIn own k1 v) (tB : TabL w own σ.esB xsB) (tK : TabL w own σ.esK xsK) (tR : TabL w own σ.esR ys) (tH' : TabL w own σ.esH yh) (dM : DatAll own σ.vsM dsM) (dN : DatIn own vN (.list dsN)) (lB : xsB.length ≤ 1000) (lR : ys.length ≤ 1000) (lM : dsM.length ≤ 100) (lN : dsN.length ≤ 100) {y : Dat} (hok : dok 4 y = true) (yr : lkp ys k1 = some y) (yh1 : lkp yh k1 = some y)
    (K : ∀ h tk m, Fr base q.L h (canon q.aQ q.aK q.aH vN m) → News base q.L h (muts q { σ with vS := v } ++ consts q ++ led) → Q .next { s with heap := h, toks := tk })
    (F : Fr base q.L s.heap (fun y => if y = Str.ofString "key" then some v else canon q.aQ q.aK q.aH vN m₀ y)) (N : News base q.L s.heap (muts q σ ++ consts q ++ led)) : wpAny (model PRG w) (callerA.deeper (lawEnv q.L q.fa)) (execs (forBody (pick 10 lawBody)) (lawEnv q.L q.fa)) Q E s := by
  obtain ⟨X, T, B, CD, cS, cM, cB, ⟨vsF, tF, hF1, hF2⟩, ⟨vsH, tH, hH1, hH2⟩, ⟨vsC, tC, hC1, hC2⟩, ⟨eB1, eB2, eB3⟩, ord⟩ := C
  obtain ⟨o1, o2, o3, o4, o5, o6, o7, o8, o9, o10, o11, o12, o13, o14, o15, o16⟩ := ord
  have zl := DatAll.length dM
  have zM : σ.vsM.length ≤ 200 := by rw [DatAll.length dM]; omega
  have nB : (q.aB == sysModules) = false := nsys_of (by omega)
  have nR : (q.aR == sysModules) = false := nsys_of (by omega)
  have nK : (q.aK == sysModules) = false := nsys_of (by omega)
  have nH : (q.aH == sysModules) = false := nsys_of (by omega)
  have fS : ∀ p ∈ led, p.1 ≠ q.aS := fun p hp => (O p hp).1
  have fM : ∀ p ∈ led, p.1 ≠ q.aM := fun p hp => (O p hp).2.1
  have fB : ∀ p ∈ led, p.1 ≠ q.aB := fun p hp => (O p hp).2.2.1
  have fR : ∀ p ∈ led, p.1 ≠ q.aR := fun p hp => (O p hp).2.2.2.1
  have fK : ∀ p ∈ led, p.1 ≠ q.aK := fun p hp => (O p hp).2.2.2.2.1
  have fH : ∀ p ∈ led, p.1 ≠ q.aH := fun p hp => (O p hp).2.2.2.2.2
  obtain ⟨hh, g, dr, tk, os⟩ := s
  dsimp only [muts, consts, madeFn, lawEnv, loopBody, pick, forBody, lawBody, lawScope, createS, hereS, freshS, ifThen, ifElse, ifTest, ifPos, boolItems, pickE, boolPos, notArg, notPos, forTarget, forIter, forPos, askE, chain, deed, growB, defArgs, defBody, defScope, PySem.Challenge.pw_eu0027_01, List.cons_append, List.nil_append, turnM] at F N hF2 hH2 hC2 ⊢
  k_steps
  all_goals (try dsimp only)
  all_goals (rename Fr _ _ _ _ => FF; rename News _ _ _ _ => NN)
  all_goals exact K _ _ _ (canonFr FF rfl rfl rfl rfl) (pack0 NN)

set_option maxHeartbeats 8000000 in
theorem b0 {w : World} {base : Heap} {q : Par} {loose : List Str} {mean : ExcName → Option Value} {mg mb : Str → Option Value} (C : Cx w base q loose mean mg mb) {σ : Sta} {own : List (Addr × Obj)} {s : Shared} {vN : Value} {m₀ : Str → Option Value} {k k1 : Nat} {v : Value}  {xsB xsK ys yh : List (Nat × Dat)} {dsM dsN : List Dat}
    {Q : Flow → Shared → Prop} {E : Value → Shared → Prop} {led : List (Addr × Obj)} (hs : ∀ p ∈ own, p ∈ led) (O : ownOK q led) (kS : KeyIn own k σ.vS) (K1 : KeyIn own k1 v) (tB : TabL w own σ.esB xsB) (tK : TabL w own σ.esK xsK) (tR : TabL w own σ.esR ys) (tH' : TabL w own σ.esH yh) (dM : DatAll own σ.vsM dsM) (dN : DatIn own vN (.list dsN)) (lB : xsB.length ≤ 1000) (lR : ys.length ≤ 1000) (lM : dsM.length ≤ 100) (lN : dsN.length ≤ 100) (yr : lkp ys k1 = none) (yh1 : lkp yh k1 = none)
    (K : ∀ h tk m, Fr base q.L h (canon q.aQ q.aK q.aH vN m) → News base q.L h (muts q { σ with vS := v } ++ consts q ++ led) → Q .next { s with heap := h, toks := tk })
    (F : Fr base q.L s.heap (fun y => if y = Str.ofString "key" then some v else canon q.aQ q.aK q.aH vN m₀ y)) (N : News base q.L s.heap (muts q σ ++ consts q ++ led)) : wpAny (model PRG w) (callerA.deeper (lawEnv q.L q.fa)) (execs (forBody (pick 10 lawBody)) (lawEnv q.L q.fa)) Q E s := by
  obtain ⟨X, T, B, CD, cS, cM, cB, ⟨vsF, tF, hF1, hF2⟩, ⟨vsH, tH, hH1, hH2⟩, ⟨vsC, tC, hC1, hC2⟩, ⟨eB1, eB2, eB3⟩, ord⟩ := C
  obtain ⟨o1, o2, o3, o4, o5, o6, o7, o8, o9, o10, o11, o12, o13, o14, o15, o16⟩ := ord
  have zl := DatAll.length dM
  have zM : σ.vsM.length ≤ 200 := by rw [DatAll.length dM]; omega
  have nB : (q.aB == sysModules) = false := nsys_of (by omega)
  have nR : (q.aR == sysModules) = false := nsys_of (by omega)
  have nK : (q.aK == sysModules) = false := nsys_of (by omega)
  have nH : (q.aH == sysModules) = false := nsys_of (by omega)
  have fS : ∀ p ∈ led, p.1 ≠ q.aS := fun p hp => (O p hp).1
  have fM : ∀ p ∈ led, p.1 ≠ q.aM := fun p hp => (O p hp).2.1
  have fB : ∀ p ∈ led, p.1 ≠ q.aB := fun p hp => (O p hp).2.2.1
  have fR : ∀ p ∈ led, p.1 ≠ q.aR := fun p hp => (O p hp).2.2.2.1
  have fK : ∀ p ∈ led, p.1 ≠ q.aK := fun p hp => (O p hp).2.2.2.2.1
  have fH : ∀ p ∈ led, p.1 ≠ q.aH := fun p hp => (O p hp).2.2.2.2.2
  obtain ⟨hh, g, dr, tk, os⟩ := s
  dsimp only [muts, consts, madeFn, lawEnv, loopBody, pick, forBody, lawBody, lawScope, createS, hereS, freshS, ifThen, ifElse, ifTest, ifPos, boolItems, pickE, boolPos, notArg, notPos, forTarget, forIter, forPos, askE, chain, deed, growB, defArgs, defBody, defScope, PySem.Challenge.pw_eu0027_01, List.cons_append, List.nil_append, turnM] at F N hF2 hH2 hC2 ⊢
  k_steps
  all_goals (try dsimp only)
  all_goals (rename Fr _ _ _ _ => FF; rename News _ _ _ _ => NN)
  all_goals exact K _ _ _ (canonFr FF rfl rfl rfl rfl) (pack0 NN)

set_option maxHeartbeats 8000000 in
theorem t3 {w : World} {base : Heap} {q : Par} {loose : List Str} {mean : ExcName → Option Value} {mg mb : Str → Option Value} (C : Cx w base q loose mean mg mb) {σ : Sta} {own : List (Addr × Obj)} {s : Shared} {vN : Value} {m₀ : Str → Option Value} {k : Nat} {xsB xsK ys yh : List (Nat × Dat)} {dsM dsN : List Dat}
    {Q : Flow → Shared → Prop} {E : Value → Shared → Prop} {led : List (Addr × Obj)} (hs : ∀ p ∈ own, p ∈ led) (O : ownOK q led) (kS : KeyIn own k σ.vS) (tB : TabL w own σ.esB xsB) (tK : TabL w own σ.esK xsK) (tR : TabL w own σ.esR ys) (tH' : TabL w own σ.esH yh) (dM : DatAll own σ.vsM dsM) (dN : DatIn own vN (.list dsN)) (lB : xsB.length ≤ 1000) (lR : ys.length ≤ 1000) (lM : dsM.length ≤ 100) (lN : dsN.length ≤ 100) (lK : xsK.length ≤ 1000) (e1 : dsM = dsN ++ [kdat 4]) (okM : ∀ d ∈ dsM, kqdOk 1 d = true) (e2 : xsB.length = xsK.length + 1)
    (K : ∀ h tk m, Fr base q.L h (canon q.aQ q.aK q.aH vN m) → News base q.L h (muts q σ ++ consts q ++ led) → Q (.ret (.bool true)) { s with heap := h, toks := tk })
    (F : Fr base q.L s.heap (canon q.aQ q.aK q.aH vN m₀)) (N : News base q.L s.heap (muts q σ ++ consts q ++ led)) : wpAny (model PRG w) (callerA.deeper (lawEnv q.L q.fa)) (execs [pick 11 lawBody] (lawEnv q.L q.fa)) Q E s := by
  obtain ⟨X, T, B, CD, cS, cM, cB, ⟨vsF, tF, hF1, hF2⟩, ⟨vsH, tH, hH1, hH2⟩, ⟨vsC, tC, hC1, hC2⟩, ⟨eB1, eB2, eB3⟩, ord⟩ := C
  obtain ⟨o1, o2, o3, o4, o5, o6, o7, o8, o9, o10, o11, o12, o13, o14, o15, o16⟩ := ord
  have zl := DatAll.length dM
  cases dN with
  | list hmN allN =>
  rename_i aN vsN nN
  have zn := DatAll.length allN
  have zM : σ.vsM.length ≤ 200 := by rw [DatAll.length dM]; omega
  have nB : (q.aB == sysModules) = false := nsys_of (by omega)
  have nR : (q.aR == sysModules) = false := nsys_of (by omega)
  have nK : (q.aK == sysModules) = false := nsys_of (by omega)
  have nH : (q.aH == sysModules) = false := nsys_of (by omega)
  have fS : ∀ p ∈ led, p.1 ≠ q.aS := fun p hp => (O p hp).1
  have fM : ∀ p ∈ led, p.1 ≠ q.aM := fun p hp => (O p hp).2.1
  have fB : ∀ p ∈ led, p.1 ≠ q.aB := fun p hp => (O p hp).2.2.1
  have fR : ∀ p ∈ led, p.1 ≠ q.aR := fun p hp => (O p hp).2.2.2.1
  have fK : ∀ p ∈ led, p.1 ≠ q.aK := fun p hp => (O p hp).2.2.2.2.1
  have fH : ∀ p ∈ led, p.1 ≠ q.aH := fun p hp => (O p hp).2.2.2.2.2
  obtain ⟨hh, g, dr, tk, os⟩ := s
  dsimp only [muts, consts, madeFn, lawEnv, loopBody, pick, forBody, lawBody, lawScope, createS, hereS, freshS, ifThen, ifElse, ifTest, ifPos, boolItems, pickE, boolPos, notArg, notPos, forTarget, forIter, forPos, askE, chain, deed, growB, defArgs, defBody, defScope, PySem.Challenge.pw_eu0027_01, List.cons_append, List.nil_append, turnM] at F N hF2 hH2 hC2 ⊢
  k_steps
  all_goals (try dsimp only)
  all_goals (rename Fr _ _ _ _ => FF; rename News _ _ _ _ => NN)
  have ez : ((xsB.length : Int) == (xsK.length : Int) + 1) = true := by rw [e2]; simp
  rw [ez]
  exact K _ _ _ (canonFr FF rfl rfl rfl rfl) (pack0 (dropN (dropN NN)))

set_option maxHeartbeats 8000000 in
theorem t4 {w : World} {base : Heap} {q : Par} {loose : List Str} {mean : ExcName → Option Value} {mg mb : Str → Option Value} (C : Cx w base q loose mean mg mb) {σ : Sta} {own : List (Addr × Obj)} {s : Shared} {vN : Value} {m₀ : Str → Option Value} {k : Nat} {xsB xsK ys yh : List (Nat × Dat)} {dsM dsN : List Dat}
    {Q : Value → Shared → Prop} {E : Value → Shared → Prop} {led : List (Addr × Obj)} (hs : ∀ p ∈ own, p ∈ led) (O : ownOK q led) (kS : KeyIn own k σ.vS) (tB : TabL w own σ.esB xsB) (tK : TabL w own σ.esK xsK) (tR : TabL w own σ.esR ys) (tH' : TabL w own σ.esH yh) (dM : DatAll own σ.vsM dsM) (dN : DatIn own vN (.list dsN)) (lB : xsB.length ≤ 1000) (lR : ys.length ≤ 1000) (lM : dsM.length ≤ 100) (lN : dsN.length ≤ 100) 
    (K : ∀ h tk m (l tp : Nat) t0 t1 t2 t3, tp < l → Grown q [(l, listOf [Value.int 0 t0, .str (Str.ofString "a") t1, .ref tp, .int (-1) t3].toArray 0), (tp, tupOf [.int 1 t2])] led → Fr base q.L h (canon q.aQ q.aK q.aH vN m) → News base q.L h (muts q σ ++ consts q ++ ([(l, listOf [Value.int 0 t0, .str (Str.ofString "a") t1, .ref tp, .int (-1) t3].toArray 0), (tp, tupOf [.int 1 t2])] ++ led)) → Q (.ref l) { s with heap := h, toks := tk })
    (F : Fr base q.L s.heap (canon q.aQ q.aK q.aH vN m₀)) (N : News base q.L s.heap (muts q σ ++ consts q ++ led)) : wpAny (model PRG w) (callerA.deeper (lawEnv q.L q.fa)) (eval (forIter (pick 10 lawBody)) (lawEnv q.L q.fa)) Q E s := by
  obtain ⟨X, T, B, CD, cS, cM, cB, ⟨vsF, tF, hF1, hF2⟩, ⟨vsH, tH, hH1, hH2⟩, ⟨vsC, tC, hC1, hC2⟩, ⟨eB1, eB2, eB3⟩, ord⟩ := C
  obtain ⟨o1, o2, o3, o4, o5, o6, o7, o8, o9, o10, o11, o12, o13, o14, o15, o16⟩ := ord
  have zl := DatAll.length dM
  have zM : σ.vsM.length ≤ 200 := by rw [DatAll.length dM]; omega
  have nB : (q.aB == sysModules) = false := nsys_of (by omega)
  have nR : (q.aR == sysModules) = false := nsys_of (by omega)
  have nK : (q.aK == sysModules) = false := nsys_of (by omega)
  have nH : (q.aH == sysModules) = false := nsys_of (by omega)
  have fS : ∀ p ∈ led, p.1 ≠ q.aS := fun p hp => (O p hp).1
  have fM : ∀ p ∈ led, p.1 ≠ q.aM := fun p hp => (O p hp).2.1
  have fB : ∀ p ∈ led, p.1 ≠ q.aB := fun p hp => (O p hp).2.2.1
  have fR : ∀ p ∈ led, p.1 ≠ q.aR := fun p hp => (O p hp).2.2.2.1
  have fK : ∀ p ∈ led, p.1 ≠ q.aK := fun p hp => (O p hp).2.2.2.2.1
  have fH : ∀ p ∈ led, p.1 ≠ q.aH := fun p hp => (O p hp).2.2.2.2.2
  obtain ⟨hh, g, dr, tk, os⟩ := s
  dsimp only [muts, consts, madeFn, lawEnv, loopBody, pick, forBody, lawBody, lawScope, createS, hereS, freshS, ifThen, ifElse, ifTest, ifPos, boolItems, pickE, boolPos, notArg, notPos, forTarget, forIter, forPos, askE, chain, deed, growB, defArgs, defBody, defScope, PySem.Challenge.pw_eu0027_01, List.cons_append, List.nil_append, turnM] at F N hF2 hH2 hC2 ⊢
  k_steps
  all_goals (try dsimp only)
  all_goals (rename Fr _ _ _ _ => FF; rename News _ _ _ _ => NN)
  exact K _ _ _ _ _ _ _ _ _ (by omega) (Grown.cons (by assumption) (by omega) (Grown.cons (by assumption) (by omega) Grown.nil)) (canonFr FF rfl rfl rfl rfl) (pack2 NN)

set_option maxHeartbeats 4000000 in
theorem sk9 {w : World} {base : Heap} {q : Par} {loose : List Str} {mean : ExcName → Option Value} {mg mb : Str → Option Value} (C : Cx w base q loose mean mg mb) {s : Shared} {e1 e2 e3 e4 : Expr} {B : List Stmt} {pa pb pn : Pos} {Q : Flow → Shared → Prop} {E : Value → Shared → Prop} (H : wpAny (model PRG w) (callerA.deeper (lawEnv q.L q.fa)) (PySem.isTrue e1 (lawEnv q.L q.fa) (eval e1 (lawEnv q.L q.fa))) (fun c s1 => c = false ∧ wpAny (model PRG w) (callerA.deeper (lawEnv q.L q.fa)) (PySem.isTrue e2 (lawEnv q.L q.fa) (eval e2 (lawEnv q.L q.fa))) (fun c s2 => c = false ∧ wpAny (model PRG w) (callerA.deeper (lawEnv q.L q.fa)) (PySem.isTrue e3 (lawEnv q.L q.fa) (eval e3 (lawEnv q.L q.fa))) (fun c s3 => c = false ∧ wpAny (model PRG w) (callerA.deeper (lawEnv q.L q.fa)) (PySem.isTrue e4 (lawEnv q.L q.fa) (eval e4 (lawEnv q.L q.fa))) (fun c s4 => c = true ∧ Q .next s4) E s3) E s2) E s1) E s) : wpAny (model PRG w) (callerA.deeper (lawEnv q.L q.fa)) (execs [.If (.BoolOp .Or [e1, e2, e3, .UnaryOp .Not e4 pn] pa) B [] pb] (lawEnv q.L q.fa)) Q E s := by
  obtain ⟨X, T, BB, CD, cS, cM, cB, _, _, _, _, ord⟩ := C
  obtain ⟨hh, g, dr, tk, os⟩ := s
  dsimp only [lawEnv, lawScope, PySem.Challenge.pw_eu0027_01] at H ⊢
  k_steps
  refine wpAny_mono H (fun c s1 z => ?_) fun _ _ z => z
  obtain ⟨rfl, H⟩ := z
  (try dsimp only)
  k_steps
  refine wpAny_mono H (fun c s2 z => ?_) fun _ _ z => z
  obtain ⟨rfl, H⟩ := z
  (try dsimp only)
  k_steps
  refine wpAny_mono H (fun c s3 z => ?_) fun _ _ z => z
  obtain ⟨rfl, H⟩ := z
  (try dsimp only)
  k_steps
  refine wpAny_mono H (fun c s4 z => ?_) fun _ _ z => z
  obtain ⟨rfl, H⟩ := z
  (try dsimp only)
  k_steps
  all_goals exact H

end Mine
end

section
open PySem PySem.W PySem.Calls PyProof.Rows
set_option Elab.async false
set_option maxRecDepth 100000
set_option linter.unusedVariables false
namespace Mine
theorem execs_one (st : Stmt) (env : Env) : execs [st] env = exec st env := by
  rw [execs_cons]
  refine Eq.trans (bind_congr (g := pure) fun f => by cases f <;> rfl) ?_
  simp
def Go (w : World) (q : Par) (rest : List Stmt) (Q : Flow → Shared → Prop) (E : Value → Shared → Prop) (s : Shared) : Prop :=
  wpAny (model PRG w) (callerA.deeper (lawEnv q.L q.fa)) (execs rest (lawEnv q.L q.fa)) Q E s
def AndThen (w : World) (q : Par) (rest : List Stmt) (Q : Flow → Shared → Prop) (E : Value → Shared → Prop) : Flow → Shared → Prop := fun f s' => match f with
  | .next => Go w q rest Q E s'
  | f => Q f s'
theorem splitOne {w : World} {q : Par} {E : Value → Shared → Prop} {s : Shared} {st : Stmt} {rest : List Stmt} {Q : Flow → Shared → Prop} (h : Go w q [st] (AndThen w q rest Q E) E s) : Go w q (st :: rest) Q E s :=
  wpAny_execs_cons (wpAny_mono (by rw [← execs_one]; exact h) (fun f s' z => by cases f <;> exact z) fun _ _ z => z)

theorem stm4 : pick 4 loopBody = .If (ifTest (pick 4 loopBody)) [.If (ifTest (pick 0 (ifThen (pick 4 loopBody)))) growB [] (ifPos (pick 0 (ifThen (pick 4 loopBody))))] [] (ifPos (pick 4 loopBody)) := rfl
theorem stm5 : pick 5 loopBody = .If (ifTest (chain 0)) (deed 0) [.If (ifTest (chain 1)) (deed 1) [.If (ifTest (chain 2)) (deed 2) [.If (ifTest (chain 3)) (deed 3) [.If (ifTest (chain 4)) (deed 4) [.If (ifTest (chain 5)) (deed 5) [.If (ifTest (chain 6)) (deed 6) [.If (ifTest (chain 7)) (deed 7) [] (ifPos (chain 7))] (ifPos (chain 6))] (ifPos (chain 5))] (ifPos (chain 4))] (ifPos (chain 3))] (ifPos (chain 2))] (ifPos (chain 1))] (ifPos (chain 0)) := rfl
theorem stmAll : loopBody = [pick 0 loopBody, pick 1 loopBody, pick 2 loopBody, pick 3 loopBody, pick 4 loopBody, pick 5 loopBody, pick 6 loopBody] := rfl

theorem Cx.rise {w : World} {base : Heap} {q : Par} {loose : List Str} {mean : ExcName → Option Value} {mg mb : Str → Option Value} (C : Cx w base q loose mean mg mb) : q.aS < q.aM ∧ q.aM < q.aB ∧ q.aB < q.aR ∧ q.aR < q.aK ∧ q.aK < q.aH := by
  obtain ⟨o1, o2, o3, o4, o5, o6, o7, o8, o9, o10, o11, o12, o13, o14, o15, o16⟩ := C.ord
  omega
theorem Rel.bump {w : World} {own : List (Addr × Obj)} {σ : Sta} {vN : Value} {b k0 : Nat} {xsB xsK ys yh : List (Nat × Dat)} {dsM dsN : List Dat} (R : Rel w own σ vN b k0 xsB xsK ys yh dsM dsN) : Rel w own σ vN (b + 1) k0 xsB xsK ys yh dsM dsN :=
  { R with lM := Nat.le_succ_of_le R.lM, lN := Nat.le_succ_of_le R.lN }
theorem subApp {add own led : List (Addr × Obj)} (hs : ∀ p ∈ own, p ∈ led) : ∀ p ∈ add ++ own, p ∈ add ++ led := fun p hp => by
  rcases List.mem_append.mp hp with hp | hp
  · exact List.mem_append_left _ hp
  · exact List.mem_append_right _ (hs p hp)
theorem of_isSome {xs : List (Nat × Dat)} {k : Nat} (h : (lkp xs k).isSome = true) : ∃ y, lkp xs k = some y := Option.isSome_iff_exists.mp h
theorem of_isNone {xs : List (Nat × Dat)} {k : Nat} (h : (lkp xs k).isSome = false) : lkp xs k = none := by
  cases e : lkp xs k with
  | none => rfl
  | some y => rw [e] at h; cases h

/-- the way on, behind the whole turn -/
def Then7 (w : World) (base : Heap) (q : Par) (own led : List (Addr × Obj)) (Q : Flow → Shared → Prop) (i : Int) (u : Tok) (b : Nat) (s : Shared) : Prop :=
  ∀ (σ' : Sta) h tk m add vN' op key now told want ask k0' xs' ys' ds', Rel w (add ++ own) σ' vN' (b + 1) k0' xs' xs' ys' ys' ds' ds' → Grown q add led →
    Fr base q.L h (turnM op key now told want ask (.int i u) (canon q.aQ q.aK q.aH vN' m)) → News base q.L h (muts q σ' ++ consts q ++ (add ++ led)) →
    Q .next { s with heap := h, toks := tk }

section
variable {w : World} {base : Heap} {q : Par} {loose : List Str} {mean : ExcName → Option Value} {mg mb : Str → Option Value} (C : Cx w base q loose mean mg mb) {σ : Sta} {own led : List (Addr × Obj)} {s : Shared} {vN : Value} {m₀ : Str → Option Value} {i : Int} {u to : Tok} {v1 va : Value} {c : Int} {b k0 k1 : Nat} {xs ys : List (Nat × Dat)} {ds : List Dat}
  {Q : Flow → Shared → Prop} {E : Value → Shared → Prop}
include C
theorem end6 (hi0 : 0 ≤ i) (hi1 : i < 64) (hb : b + 1 ≤ 100) (hs : ∀ p ∈ own, p ∈ led) (O : ownOK q led) (K : Then7 w base q own led Q i u b s) : Then5 w base q own led (AndThen w q [pick 6 loopBody] Q E) i u b s := by
  intro σ' h tk m add vN' op key now told want ask k0' xs' ys' ds' d R ht hw hok G F N
  exact s6 C hi0 hi1 hb (subApp hs) (O.grow G C.rise) R ht hw hok (fun h' tk' m' F' N' => K σ' h' tk' m' add vN' op key now told want ask k0' xs' ys' ds' R G F' N') (s := { s with heap := h, toks := tk }) F N
omit C in
theorem Then5.shift {add : List (Addr × Obj)} {h : Heap} {tk : Nat} (K : Then5 w base q own led Q i u b s) (G : Grown q add led) : Then5 w base q (add ++ own) (add ++ led) Q i u b { s with heap := h, toks := tk } := by
  intro σ' h' tk' m add' vN' op key now told want ask k0' xs' ys' ds' d R ht hw hok G' F N
  rw [← List.append_assoc] at R ht hw
  exact K σ' h' tk' m (add' ++ add) vN' op key now told want ask k0' xs' ys' ds' d R ht hw hok (G.trans G') F (by rw [List.append_assoc add' add led]; exact N)

theorem deedsA (hi0 : 0 ≤ i) (hi1 : i < 64) (hb : b ≤ 100) (hs : ∀ p ∈ own, p ∈ led) (O : ownOK q led) (R : Rel w own σ vN b k0 xs xs ys ys ds ds) (hk1 : k1 < 4) (K1 : KeyIn own k1 v1) (hc : 0 ≤ c) (h1 : ¬ c = 1) (h2 : ¬ c = 2) (h6 : ¬ (c = 6 ∧ (lkp xs k1).isSome = false))
    (K : Then5 w base q own led Q i u b s) (F : Fr base q.L s.heap (turnM (.int c to) v1 σ.vS .none .none va (.int i u) (canon q.aQ q.aK q.aH vN m₀))) (N : News base q.L s.heap (muts q σ ++ consts q ++ led)) : Go w q [pick 5 loopBody] Q E s := by
  unfold Go
  rw [stm5]
  refine s5ch C hi0 hi1 hb hs O R K1 ?_ ?_ ?_ ?_ ?_ ?_ ?_ ?_ ?_ F N
  · exact fun tk _ => s50 C hk1 hi0 hi1 hb hs O R K1 (s := { s with toks := tk }) K F N
  · intro tk a b'
    omega
  · intro tk _
    rcases e : lkp ys k0 with _ | y
    · exact s52f C hk1 hi0 hi1 hb hs O R K1 (s := { s with toks := tk }) e K F N
    · exact s52t C hk1 hi0 hi1 hb hs O R K1 (s := { s with toks := tk }) e K F N
  · exact fun tk _ => s53 C hk1 hi0 hi1 hb hs O R K1 (s := { s with toks := tk }) K F N
  · intro tk _
    rcases e : lkp ys k0 with _ | y
    · exact s54f C hk1 hi0 hi1 hb hs O R K1 (s := { s with toks := tk }) e K F N
    · exact s54t C hk1 hi0 hi1 hb hs O R K1 (s := { s with toks := tk }) e K F N
  · intro tk e6
    rcases e : lkp xs k1 with _ | y
    · exact absurd ⟨e6, by rw [e]; rfl⟩ h6
    · exact s55t C hk1 hi0 hi1 hb hs O R K1 (s := { s with toks := tk }) e K F N
  · intro tk _
    rcases e : lkp xs k1 with _ | y
    · exact s56f C hk1 hi0 hi1 hb hs O R K1 (s := { s with toks := tk }) e K F N
    · exact s56t C hk1 hi0 hi1 hb hs O R K1 (s := { s with toks := tk }) e K F N
  · intro tk _ _ _ e
    obtain ⟨y, e⟩ := of_isSome e
    exact s57 C hk1 hi0 hi1 hb hs O R K1 (s := { s with toks := tk }) e K F N
  · intro tk _ _ _ _
    exact K σ s.heap tk m₀ [] vN _ _ _ .none .none _ k0 xs ys ds .none R.bump DatIn.none DatIn.none rfl Grown.nil F N

theorem deedsA2 (hi0 : 0 ≤ i) (hi1 : i < 64) (hb : b ≤ 100) (hs : ∀ p ∈ own, p ∈ led) (O : ownOK q led) (R : Rel w own σ vN (b + 1) k0 xs (put xs k1 (.tuple [kdat k1, .int ((σ.vsM ++ [v1]).length : Int)])) ys ys ds (ds ++ [kdat k1])) (hM : ds.length ≤ b) (hb1 : b + 1 ≤ 100) (hk1 : k1 < 4) (K1 : KeyIn own k1 v1) (h6 : c = 6) (hx : lkp xs k1 = none)
    (K : Then5 w base q own led Q i u b s) (F : Fr base q.L s.heap (turnM (.int c to) v1 σ.vS .none .none va (.int i u) (canon q.aQ q.aK q.aH vN m₀))) (N : News base q.L s.heap (muts q σ ++ consts q ++ led)) : Go w q [pick 5 loopBody] Q E s := by
  unfold Go
  rw [stm5]
  refine s5ch C hi0 hi1 hb1 hs O R K1 ?_ ?_ ?_ ?_ ?_ ?_ ?_ ?_ ?_ F N
  all_goals first
    | (intro tk e; omega)
    | (intro tk e1 e2; omega)
    | exact fun tk _ => s55f C hk1 hi0 hi1 hb hs O R K1 hM hx (s := { s with toks := tk }) K F N
    | (intro tk e1 e2 e3; exact absurd h6 e3)

theorem deedsB (hi0 : 0 ≤ i) (hi1 : i < 64) (hb : b ≤ 100) (hs : ∀ p ∈ own, p ∈ led) (O : ownOK q led) (R : Rel w own σ vN b k0 xs xs ys ys ds ds) (hk1 : k1 < 4) (K1 : KeyIn own k1 v1) (h12 : c = 1 ∨ c = 2) (hn : ¬ ((lkp ys k0).isSome = false ∧ (lkp xs k0).isSome = false))
    (K : Then5 w base q own led Q i u b s) (F : Fr base q.L s.heap (turnM (.int c to) v1 σ.vS .none .none va (.int i u) (canon q.aQ q.aK q.aH vN m₀))) (N : News base q.L s.heap (muts q σ ++ consts q ++ led)) : Go w q [pick 5 loopBody] Q E s := by
  unfold Go
  rw [stm5]
  refine s5ch C hi0 hi1 hb hs O R K1 ?_ ?_ ?_ ?_ ?_ ?_ ?_ ?_ ?_ F N
  case refine_2 =>
    intro tk _ _
    rcases e : lkp ys k0 with _ | y
    · rcases e' : lkp xs k0 with _ | z
      · exact absurd ⟨by rw [e]; rfl, by rw [e']; rfl⟩ hn
      · exact s5b C hi0 hi1 hb hs O R e e' (s := { s with toks := tk }) K F N
    · exact s5a C hi0 hi1 hb hs O R e (s := { s with toks := tk }) K F N
  all_goals first
    | (intro tk e; omega)
    | (intro tk e1 e2; omega)

theorem deedsB2 (hi0 : 0 ≤ i) (hi1 : i < 64) (hb : b ≤ 100) (hs : ∀ p ∈ own, p ∈ led) (O : ownOK q led) (R : Rel w own σ vN (b + 1) k0 xs (put xs k0 (.tuple [kdat k0, .int ((σ.vsM ++ [σ.vS]).length : Int)])) ys ys ds (ds ++ [kdat k0])) (hM : ds.length ≤ b) (hb1 : b + 1 ≤ 100) (hk1 : k1 < 4) (K1 : KeyIn own k1 v1) (h12 : c = 1 ∨ c = 2) (hy : lkp ys k0 = none) (hx : lkp xs k0 = none)
    (K : Then5 w base q own led Q i u b s) (F : Fr base q.L s.heap (turnM (.int c to) v1 σ.vS .none .none va (.int i u) (canon q.aQ q.aK q.aH vN m₀))) (N : News base q.L s.heap (muts q σ ++ consts q ++ led)) : Go w q [pick 5 loopBody] Q E s := by
  unfold Go
  rw [stm5]
  refine s5ch C hi0 hi1 hb1 hs O R K1 ?_ ?_ ?_ ?_ ?_ ?_ ?_ ?_ ?_ F N
  case refine_2 => exact fun tk _ _ => s5c C hi0 hi1 hb hs O R hM hy hx (s := { s with toks := tk }) K F N
  all_goals first
    | (intro tk e; omega)
    | (intro tk e1 e2; omega)

/-- the tests ahead of growing, and the deeds -/
theorem midA (hi0 : 0 ≤ i) (hi1 : i < 64) (hb1 : b + 1 ≤ 100) (hs : ∀ p ∈ own, p ∈ led) (O : ownOK q led) (R : Rel w own σ vN b k0 xs xs ys ys ds ds) (hk1 : k1 < 4) (K1 : KeyIn own k1 v1) (hc : 0 ≤ c) (h1 : ¬ c = 1) (h2 : ¬ c = 2)
    (K : Then5 w base q own led (AndThen w q [pick 6 loopBody] Q E) i u b s) (F : Fr base q.L s.heap (turnM (.int c to) v1 σ.vS .none .none v1 (.int i u) (canon q.aQ q.aK q.aH vN m₀))) (N : News base q.L s.heap (muts q σ ++ consts q ++ led)) : Go w q [pick 4 loopBody, pick 5 loopBody, pick 6 loopBody] Q E s := by
  have hb : b ≤ 100 := by omega
  refine splitOne ?_
  unfold Go
  rw [stm4]
  refine s4A C hi0 hi1 hb hs O R K1 h1 h2 (fun h tk m add h6 e G F' N' => ?_) (fun h tk m add h6 G F' N' => ?_) F N
  · have O' := O.grow G C.rise
    have e' := of_isNone e
    refine s4g C hk1 hi0 hi1 hb (subApp hs) O' (R.mono fun p hp => List.mem_append_right _ hp) (K1.mono fun p hp => List.mem_append_right _ hp) e' (s := { s with heap := h, toks := tk }) (fun esK nK h2' tk2 m2 add2 vN2 R2 G2 F2 N2 => ?_) F' N'
    refine splitOne ?_
    exact deedsA2 C hi0 hi1 hb (subApp (subApp hs)) (O'.grow G2 C.rise) R2 R.lM hb1 hk1 (K1.mono fun p hp => List.mem_append_right _ (List.mem_append_right _ hp)) h6 e' ((K.shift (h := h) (tk := tk) G).shift G2) F2 N2
  · refine splitOne ?_
    exact deedsA C hi0 hi1 hb (subApp hs) (O.grow G C.rise) (R.mono fun p hp => List.mem_append_right _ hp) hk1 (K1.mono fun p hp => List.mem_append_right _ hp) hc h1 h2 h6 (K.shift (h := h) (tk := tk) G) F' N'
theorem midB (hi0 : 0 ≤ i) (hi1 : i < 64) (hb1 : b + 1 ≤ 100) (hs : ∀ p ∈ own, p ∈ led) (O : ownOK q led) (R : Rel w own σ vN b k0 xs xs ys ys ds ds) (hk1 : k1 < 4) (K1 : KeyIn own k1 v1) (h12 : c = 1 ∨ c = 2)
    (K : Then5 w base q own led (AndThen w q [pick 6 loopBody] Q E) i u b s) (F : Fr base q.L s.heap (turnM (.int c to) v1 σ.vS .none .none σ.vS (.int i u) (canon q.aQ q.aK q.aH vN m₀))) (N : News base q.L s.heap (muts q σ ++ consts q ++ led)) : Go w q [pick 4 loopBody, pick 5 loopBody, pick 6 loopBody] Q E s := by
  have hb : b ≤ 100 := by omega
  refine splitOne ?_
  unfold Go
  rw [stm4]
  refine s4B C hi0 hi1 hb hs O R R.kS h12 (fun h tk m add e1 e2 G F' N' => ?_) (fun h tk m add hn G F' N' => ?_) F N
  · have O' := O.grow G C.rise
    have e' := of_isNone e2
    refine s4g C R.k4 hi0 hi1 hb (subApp hs) O' (R.mono fun p hp => List.mem_append_right _ hp) (R.kS.mono fun p hp => List.mem_append_right _ hp) e' (s := { s with heap := h, toks := tk }) (fun esK nK h2' tk2 m2 add2 vN2 R2 G2 F2 N2 => ?_) F' N'
    refine splitOne ?_
    exact deedsB2 C hi0 hi1 hb (subApp (subApp hs)) (O'.grow G2 C.rise) R2 R.lM hb1 hk1 (K1.mono fun p hp => List.mem_append_right _ (List.mem_append_right _ hp)) h12 (of_isNone e1) e' ((K.shift (h := h) (tk := tk) G).shift G2) F2 N2
  · refine splitOne ?_
    exact deedsB C hi0 hi1 hb (subApp hs) (O.grow G C.rise) (R.mono fun p hp => List.mem_append_right _ hp) hk1 (K1.mono fun p hp => List.mem_append_right _ hp) h12 hn (K.shift (h := h) (tk := tk) G) F' N'

/-- a turn of the loop -/
theorem turn {n : Int} {t : Tok} (hi0 : 0 ≤ i) (hi1 : i < 64) (hb1 : b + 1 ≤ 100) (hs : ∀ p ∈ own, p ∈ led) (O : ownOK q led) (R : Rel w own σ vN b k0 xs xs ys ys ds ds) (K : Then7 w base q own led Q i u b s)
    (F : Fr base q.L s.heap (fun y => if y = Str.ofString "x" then some (.int n t) else if y = Str.ofString "i" then some (.int i u) else canon q.aQ q.aK q.aH vN m₀ y)) (N : News base q.L s.heap (muts q σ ++ consts q ++ led)) : Go w q loopBody Q E s := by
  have K5 := end6 C (E := E) hi0 hi1 hb1 hs O K
  unfold Go
  rw [stmAll]
  refine segA C hi0 hi1 O F N fun h tk m add k1 v1 to va hk1 hK1 hva G F' N' => ?_
  have O' := O.grow G C.rise
  have R' := R.mono (own' := add ++ own) fun p hp => List.mem_append_right _ hp
  have K1 : KeyIn (add ++ own) k1 v1 := hK1.mono fun p hp => List.mem_append_left _ hp
  by_cases hc : n.fmod 9 = 1 ∨ n.fmod 9 = 2
  · rw [if_pos hc] at hva
    subst hva
    exact midB C hi0 hi1 hb1 (subApp hs) O' R' hk1 K1 hc (K5.shift (h := h) (tk := tk) G) F' N'
  · rw [if_neg hc] at hva
    subst hva
    exact midA C hi0 hi1 hb1 (subApp hs) O' R' hk1 K1 (Int.fmod_nonneg_of_pos _ (by decide)) (fun e => hc (.inl e)) (fun e => hc (.inr e)) (K5.shift (h := h) (tk := tk) G) F' N'
end
end Mine
end

section
open PySem PySem.W PySem.Calls PyProof.Rows
set_option Elab.async false
set_option maxRecDepth 100000
set_option linter.unusedVariables false
namespace Mine
theorem lowAll {w : World} {base : Heap} {q : Par} {loose : List Str} {mean : ExcName → Option Value} {mg mb : Str → Option Value} (C : Cx w base q loose mean mg mb) {σ : Sta} : ∀ p ∈ muts q σ ++ consts q, @LE.le Nat _ p.1 q.aH := by
  obtain ⟨o1, o2, o3, o4, o5, o6, o7, o8, o9, o10, o11, o12, o13, o14, o15, o16⟩ := C.ord
  intro p hp
  simp only [muts, consts, List.cons_append, List.nil_append, List.mem_cons, List.not_mem_nil, or_false] at hp
  rcases hp with rfl | rfl | rfl | rfl | rfl | rfl | rfl | rfl | rfl | rfl | rfl | rfl | rfl | rfl | rfl | rfl | rfl | rfl | rfl <;> (dsimp only; omega)
theorem sameAdr {q : Par} {σ σ' : Sta} {X : List (Addr × Obj)} : ∀ p ∈ muts q σ ++ X, ∃ p' ∈ muts q σ' ++ X, p'.1 = p.1 := by
  intro p hp
  rcases List.mem_append.mp hp with hp | hp
  · simp only [muts, List.mem_cons, List.not_mem_nil, or_false] at hp
    rcases hp with rfl | rfl | rfl | rfl | rfl | rfl
    · exact ⟨_, List.mem_append_left _ (.head _), rfl⟩
    · exact ⟨_, List.mem_append_left _ (.tail _ (.head _)), rfl⟩
    · exact ⟨_, List.mem_append_left _ (.tail _ (.tail _ (.head _))), rfl⟩
    · exact ⟨_, List.mem_append_left _ (.tail _ (.tail _ (.tail _ (.head _)))), rfl⟩
    · exact ⟨_, List.mem_append_left _ (.tail _ (.tail _ (.tail _ (.tail _ (.head _))))), rfl⟩
    · exact ⟨_, List.mem_append_left _ (.tail _ (.tail _ (.tail _ (.tail _ (.tail _ (.head _)))))), rfl⟩
  · exact ⟨p, List.mem_append_right _ hp, rfl⟩
/-- what the walking owns lies off what may turn -/
theorem okWalk {q : Par} {σ : Sta} {X own : List (Addr × Obj)} (sep : ∀ p ∈ muts q σ ++ X, ∀ x ∈ own, p.1 ≠ x.1) : ownOK q own := fun x hx =>
  ⟨fun e => sep (q.aS, _) (List.mem_append_left _ (.head _)) x hx e.symm, fun e => sep (q.aM, _) (List.mem_append_left _ (.tail _ (.head _))) x hx e.symm,
    fun e => sep (q.aB, _) (List.mem_append_left _ (.tail _ (.tail _ (.head _)))) x hx e.symm, fun e => sep (q.aR, _) (List.mem_append_left _ (.tail _ (.tail _ (.tail _ (.head _))))) x hx e.symm,
    fun e => sep (q.aK, _) (List.mem_append_left _ (.tail _ (.tail _ (.tail _ (.tail _ (.head _)))))) x hx e.symm, fun e => sep (q.aH, _) (List.mem_append_left _ (.tail _ (.tail _ (.tail _ (.tail _ (.tail _ (.head _))))))) x hx e.symm⟩
theorem ownOK.app {q : Par} {a b : List (Addr × Obj)} (h1 : ownOK q a) (h2 : ownOK q b) : ownOK q (a ++ b) := fun p hp => by
  rcases List.mem_append.mp hp with hp | hp
  · exact h1 p hp
  · exact h2 p hp

def loopIs (q : Par) (w : World) (i : Nat) (m : Str → Option Value) (news : List (Addr × Obj)) : Prop :=
  ∃ (σ : Sta) (own : List (Addr × Obj)) (vN : Value) (k0 : Nat) (xs ys : List (Nat × Dat)) (ds : List Dat), (∃ m0, m = canon q.aQ q.aK q.aH vN m0) ∧ news = muts q σ ++ consts q ++ own ∧ Rel w own σ vN i k0 xs xs ys ys ds ds ∧ ownOK q own

/-- one turn, as the walking over the script asks for it -/
theorem loopStep {w : World} {base : Heap} {q : Par} {loose : List Str} {mean : ExcName → Option Value} {mg mb : Str → Option Value} (C : Cx w base q loose mean mg mb) {s : Shared} {Q : Flow → Shared → Prop} {E : Value → Shared → Prop} {i : Nat} {n : Int} {t u : Tok} {m₁ : Str → Option Value} {news₁ own : List (Addr × Obj)} {h : Heap} {tk : Nat}
    (hi : i < 63) (J : loopIs q w i m₁ news₁) (sep : ∀ p ∈ news₁, ∀ x ∈ own, p.1 ≠ x.1)
    (F : Fr base q.L h (fun y => if y = Str.ofString "x" then some (.int n t) else if y = Str.ofString "i" then some (.int i u) else m₁ y)) (N : News base q.L h (news₁ ++ own)) :
    Go w q loopBody (GrowPost base q.L own (loopIs q w (i + 1)) { s with heap := h, toks := tk } Q) E { s with heap := h, toks := tk } := by
  obtain ⟨σ, ow, vN, k0, xs, ys, ds, ⟨m0, rfl⟩, rfl, R, O⟩ := J
  have Ow : ownOK q own := okWalk (σ := σ) (X := consts q ++ ow) (by rw [← List.append_assoc]; exact sep)
  have N' : News base q.L h (muts q σ ++ consts q ++ (ow ++ own)) := by rw [← List.append_assoc]; exact N
  refine turn C (own := ow) (led := ow ++ own) (b := i) (by omega) (by omega) (by omega) (fun p hp => List.mem_append_left _ hp) (O.app Ow) R (s := { s with heap := h, toks := tk }) ?_ F N'
  intro σ' h' tk' m' add vN' op key now told want ask k0' xs' ys' ds' R' G' F' N2
  refine ⟨h', tk', _, muts q σ' ++ consts q ++ (add ++ ow), rfl, F', ?_, ?_, σ', add ++ ow, vN', k0', xs', ys', ds', ⟨_, canon_self rfl rfl rfl rfl⟩, rfl, R', ?_⟩
  · have e : muts q σ' ++ consts q ++ (add ++ ow) ++ own = muts q σ' ++ consts q ++ (add ++ (ow ++ own)) := by simp only [List.append_assoc]
    rw [e]
    exact N2
  · intro p hp x hx
    rw [List.append_assoc] at hp
    obtain ⟨p', hp', e⟩ := sameAdr (σ' := σ) p hp
    rw [← List.append_assoc] at hp'
    rcases List.mem_append.mp hp' with hp' | hp'
    · rw [← e]
      exact sep p' (List.mem_append_left _ hp') x hx
    · rcases List.mem_append.mp hp' with hp' | hp'
      · rw [← e]
        exact G'.sep p' hp' x (List.mem_append_right _ hx)
      · rw [← e]
        exact sep p' (List.mem_append_right _ hp') x hx
  · intro p hp
    rcases List.mem_append.mp hp with hp | hp
    · exact (O.app Ow).grow G' C.rise p (List.mem_append_left _ hp)
    · exact O p hp
end Mine
end

section
open PySem PySem.W PySem.Calls PyProof.Rows
set_option Elab.async false
set_option maxRecDepth 100000
set_option linter.unusedVariables false
namespace Mine
theorem stm10 : pick 10 lawBody = .For (forTarget (pick 10 lawBody)) (forIter (pick 10 lawBody)) (forBody (pick 10 lawBody)) [] (forPos (pick 10 lawBody)) := rfl
theorem stm9 : pick 9 lawBody = .If (.BoolOp .Or [askE 0, askE 1, askE 2, .UnaryOp .Not (notArg (askE 3)) (notPos (askE 3))] (boolPos (ifTest (pick 9 lawBody)))) (ifThen (pick 9 lawBody)) [] (ifPos (pick 9 lawBody)) := rfl

section
variable {w : World} {base : Heap} {q : Par} {loose : List Str} {mean : ExcName → Option Value} {mg mb : Str → Option Value} (C : Cx w base q loose mean mg mb) {σ : Sta} {own led : List (Addr × Obj)} {s : Shared} {vN : Value} {m₀ : Str → Option Value} {k : Nat} {xsB xsK ys yh : List (Nat × Dat)} {dsM dsN : List Dat}
  {Q : Flow → Shared → Prop} {E : Value → Shared → Prop}
include C

theorem scopesLoop (hE : PassesOwn (model PRG w) (callerA.deeper (lawEnv q.L q.fa)) (lawEnv q.L q.fa) E) (hs : ∀ p ∈ own, p ∈ led) (O : ownOK q led) (kS : KeyIn own k σ.vS) (tB : TabL w own σ.esB xsB) (tK : TabL w own σ.esK xsK) (tR : TabL w own σ.esR ys) (tH : TabL w own σ.esH yh) (dM : DatAll own σ.vsM dsM) (dN : DatIn own vN (.list dsN))
    (lB : xsB.length ≤ 1000) (lR : ys.length ≤ 1000) (lM : dsM.length ≤ 100) (lN : dsN.length ≤ 100) (hrel : ∀ k, k < 4 → lkp ys k = lkp yh k) (hok : ∀ k y, lkp yh k = some y → dok 4 y = true)
    (K : ∀ vS h tk m add kk, KeyIn (add ++ own) kk vS → Grown q add led → Fr base q.L h (canon q.aQ q.aK q.aH vN m) → News base q.L h (muts q { σ with vS := vS } ++ consts q ++ (add ++ led)) → Q .next { s with heap := h, toks := tk })
    (F : Fr base q.L s.heap (canon q.aQ q.aK q.aH vN m₀)) (N : News base q.L s.heap (muts q σ ++ consts q ++ led)) : Go w q [pick 10 lawBody] Q E s := by
  unfold Go
  rw [execs_one, stm10]
  refine For_turns F ?_ (by intro _; rfl) hE
  refine t4 C (k := k) hs O kS tB tK tR tH dM dN lB lR lM lN (fun h tk m l tp t0 t1 t2 t3 hlt G F' N' => ?_) F N
  let T : Addr × Obj := (tp, tupOf [.int 1 t2])
  have hTl : (l : Nat) ≠ tp := Nat.ne_of_gt hlt
  have hl : @LT.lt Nat _ q.aH l := G.new _ (.head _)
  have hT : @LT.lt Nat _ q.aH tp := G.new _ (.tail _ (.head _))
  have G1 : Grown q [T] led := ⟨fun p hp => G.sep p (.tail _ hp), fun p hp => G.new p (.tail _ hp)⟩
  have O1 : ownOK q ([T] ++ led) := O.grow G1 C.rise
  have own1 : ∀ p ∈ own, p ∈ [T] ++ own := fun p hp => List.mem_append_right _ hp
  refine listG (A := callerA.deeper (lawEnv q.L q.fa)) (env := lawEnv q.L q.fa) (s := { s with heap := h, toks := tk }) (news₀ := muts q σ ++ consts q ++ ([T] ++ led)) rfl rfl rfl F' N'
    (List.mem_append_right _ (.head _)) rfl rfl ?_ ?_ (fun i m news => ∃ vS kk, KeyIn ([T] ++ own) kk vS ∧ (∃ m0, m = canon q.aQ q.aK q.aH vN m0) ∧ news = muts q { σ with vS := vS } ++ consts q ++ ([T] ++ led)) ⟨σ.vS, k, kS.mono own1, ⟨_, rfl⟩, rfl⟩ ?_ ?_
  · intro p hp
    rcases List.mem_append.mp hp with hp | hp
    · exact List.mem_append_left _ hp
    · exact List.mem_append_right _ (.tail _ hp)
  · intro p hp e
    rcases List.mem_append.mp hp with hp | hp
    · exact Nat.not_lt_of_le (lowAll C p hp) (by rw [e]; exact hl)
    · rcases List.mem_cons.mp hp with rfl | hp
      · exact hTl e.symm
      · exact G.sep _ (.head _) p hp e.symm
  · rintro i v m₁ news₁ h₁ tk₁ ow hv ⟨vS, kk, hk, ⟨m0, rfl⟩, rfl⟩ sep F₁ N₁
    have Ow : ownOK q ow := okWalk (σ := { σ with vS := vS }) (X := consts q ++ ([T] ++ led)) (by rw [← List.append_assoc]; exact sep)
    have N₂ : News base q.L h₁ (muts q { σ with vS := vS } ++ consts q ++ (([T] ++ led) ++ ow)) := by rw [← List.append_assoc]; exact N₁
    have sub : ∀ p ∈ [T] ++ own, p ∈ ([T] ++ led) ++ ow := fun p hp => List.mem_append_left _ (subApp hs p hp)
    have key : ∃ k1, k1 < 4 ∧ KeyIn ([T] ++ own) k1 v := by
      match i, hv with
      | 0, hv => cases hv; exact ⟨0, by decide, by decide, .int _ _⟩
      | 1, hv => cases hv; exact ⟨1, by decide, by decide, .str _ _⟩
      | 2, hv => cases hv; exact ⟨2, by decide, by decide, .tuple (.head _) (.cons (.int _ _) .nil)⟩
      | 3, hv => cases hv; exact ⟨3, by decide, by decide, .int _ _⟩
      | _ + 4, hv => simp at hv
    obtain ⟨k1, hk1, K1⟩ := key
    have fin : ∀ h' tk' m', Fr base q.L h' (canon q.aQ q.aK q.aH vN m') → News base q.L h' (muts q { σ with vS := v } ++ consts q ++ (([T] ++ led) ++ ow)) →
        GrowPost base q.L ow (fun m news => ∃ vS kk, KeyIn ([T] ++ own) kk vS ∧ (∃ m0, m = canon q.aQ q.aK q.aH vN m0) ∧ news = muts q { σ with vS := vS } ++ consts q ++ ([T] ++ led)) { s with heap := h₁, toks := tk₁ } Q .next { s with heap := h', toks := tk' } := by
      intro h' tk' m' F' N'
      refine ⟨h', tk', _, muts q { σ with vS := v } ++ consts q ++ ([T] ++ led), rfl, F', by rw [List.append_assoc]; exact N', ?_, v, k1, K1, ⟨_, rfl⟩, rfl⟩
      intro p hp x hx
      rw [List.append_assoc] at hp
      obtain ⟨p', hp', e⟩ := sameAdr (σ' := { σ with vS := vS }) p hp
      rw [← e]
      exact sep p' (by rw [List.append_assoc]; exact hp') x hx
    rcases e : lkp yh k1 with _ | y
    · exact b0 C (σ := { σ with vS := vS }) (k := kk) (s := { s with heap := h₁, toks := tk₁ }) sub (O1.app Ow) hk K1 (tB.mono own1) (tK.mono own1) (tR.mono own1) (tH.mono own1) (DatAll.mono own1 dM) (dN.mono own1) lB lR lM lN (by rw [hrel k1 hk1]; exact e) e (fun h' tk' m' F' N' => fin h' tk' m' F' N') F₁ N₂
    · exact b1 C (σ := { σ with vS := vS }) (k := kk) (s := { s with heap := h₁, toks := tk₁ }) sub (O1.app Ow) hk K1 (tB.mono own1) (tK.mono own1) (tR.mono own1) (tH.mono own1) (DatAll.mono own1 dM) (dN.mono own1) lB lR lM lN (hok k1 y e) (by rw [hrel k1 hk1]; exact e) e (fun h' tk' m' F' N' => fin h' tk' m' F' N') F₁ N₂
  · rintro h' tk' m' news' F' N' ⟨vS, kk, hk, ⟨m0, rfl⟩, rfl⟩
    exact K vS h' tk' m0 [T] kk hk G1 F' N'

omit C in
theorem put_rel {xs : List (Nat × Dat)} {Y : Dat} (h : lkp xs 4 = none) : ∀ k, k < 4 → lkp (put xs 4 Y) k = lkp xs k := by
  intro k hk
  unfold put
  rw [h]
  show lkp (xs ++ [(4, Y)]) k = lkp xs k
  unfold lkp
  rw [List.find?_append]
  have : List.find? (fun p : Nat × Dat => decide (p.1 = k)) [(4, Y)] = none := by
    have : ¬ (4 : Nat) = k := by omega
    simp [this]
  rw [this, Option.or_none]
omit C in
theorem put_len {xs : List (Nat × Dat)} {Y : Dat} (h : lkp xs 4 = none) : (put xs 4 Y).length = xs.length + 1 := by
  unfold put
  rw [h]
  simp

/-- all that stands behind the loop -/
theorem lawTail {b k0 : Nat} {xs yys : List (Nat × Dat)} {ds : List Dat} (hE : PassesOwn (model PRG w) (callerA.deeper (lawEnv q.L q.fa)) (lawEnv q.L q.fa) E) (hb : b ≤ 64) (hs : ∀ p ∈ own, p ∈ led) (O : ownOK q led) (R : Rel w own σ vN b k0 xs xs yys yys ds ds)
    (K : ∀ σ' h tk m add, Fr base q.L h m → News base q.L h (muts q σ' ++ consts q ++ (add ++ led)) → Q (.ret (.bool true)) { s with heap := h, toks := tk })
    (F : Fr base q.L s.heap (canon q.aQ q.aK q.aH vN m₀)) (N : News base q.L s.heap (muts q σ ++ consts q ++ led)) : Go w q [pick 8 lawBody, pick 9 lawBody, pick 10 lawBody, pick 11 lawBody] Q E s := by
  obtain ⟨kS, tB, tK, tR, tH, dM, dN, k4, iB, iK, iR, iH, iM, iN, lM, lN⟩ := R
  have zB := iB.len tB
  have zR := iR.len tR
  have xn : lkp xs 4 = none := iB.none4 (Nat.le_refl _)
  have yn : lkp yys 4 = none := iR.none4 (Nat.le_refl _)
  have zl := DatAll.length dM
  refine splitOne ?_
  refine t0 C hs O kS tB tK tR tH dM dN (by omega) (by omega) (by omega) (by omega) (fun h tk m t F' N' => ?_) F N
  refine splitOne ?_
  unfold Go
  rw [stm9]
  have kN : KeyIn own 4 (Value.str (Str.ofString "new") t) := keyNew
  refine sk9 C (s := { s with heap := h, toks := tk }) ?_
  refine tHas C (σ := { σ with vS := .str (Str.ofString "new") t }) (s := { s with heap := h, toks := tk }) hs O kN tB tK tR tH dM dN (by omega) (by omega) (by omega) (by omega) (fun h1 tk1 m1 F1 N1 => ⟨by rw [yn]; rfl, ?_⟩) F' N'
  refine tNew C (σ := { σ with vS := .str (Str.ofString "new") t }) (s := { s with heap := h1, toks := tk1 }) hs O kN tB tK tR tH dM dN (by omega) (by omega) (by omega) (by omega) rfl yn xn (fun esB nB esR nR h2 tk2 m2 add G2 tB2 tR2 F2 N2 => ⟨rfl, ?_⟩) F1 N1
  have hs2 : ∀ p ∈ add ++ own, p ∈ add ++ led := subApp hs
  have up : ∀ p ∈ own, p ∈ add ++ own := fun p hp => List.mem_append_right _ hp
  have O2 := O.grow G2 C.rise
  have dM2 : DatAll (add ++ own) (σ.vsM ++ [Value.str (Str.ofString "new") t]) (ds ++ [kdat 4]) := snocIn up (.str _ _) dM
  have lB2 : (put xs 4 (.tuple [kdat 4, .int ((σ.vsM ++ [Value.str (Str.ofString "new") t]).length : Int)])).length ≤ 1000 := by rw [put_len xn]; omega
  have lR2 : (put yys 4 (.tuple [kdat 4, .int ((σ.vsM ++ [Value.str (Str.ofString "new") t]).length : Int)])).length ≤ 1000 := by rw [put_len yn]; omega
  have lM2 : (ds ++ [kdat 4]).length ≤ 100 := by rw [List.length_append]; show ds.length + 1 ≤ 100; omega
  refine tHit C (σ := { σ with vS := .str (Str.ofString "new") t, vsM := σ.vsM ++ [Value.str (Str.ofString "new") t], nM := σ.nM + 1, esB := esB, nB := nB, esR := esR, nR := nR }) (s := { s with heap := h2, toks := tk2 }) (own := add ++ own) (led := add ++ led) (z := ((σ.vsM ++ [Value.str (Str.ofString "new") t]).length : Int)) hs2 O2 (kN.mono up) tB2 (tK.mono up) tR2 (tH.mono up) dM2 (dN.mono up) lB2 lR2 lM2 (by omega) (by rw [List.length_append, zl]; rfl) lkp_put (fun h3 tk3 m3 add3 G3 F3 N3 => ⟨rfl, ?_⟩) F2 N2
  have hs3 : ∀ p ∈ add ++ own, p ∈ add3 ++ (add ++ led) := fun p hp => List.mem_append_right _ (hs2 p hp)
  have O3 := O2.grow G3 C.rise
  refine tHas2 C (σ := { σ with vS := .str (Str.ofString "new") t, vsM := σ.vsM ++ [Value.str (Str.ofString "new") t], nM := σ.nM + 1, esB := esB, nB := nB, esR := esR, nR := nR }) (s := { s with heap := h3, toks := tk3 }) (own := add ++ own) hs3 O3 (kN.mono up) tB2 (tK.mono up) tR2 (tH.mono up) dM2 (dN.mono up) lB2 lR2 lM2 (by omega) (fun h4 tk4 m4 F4 N4 => ⟨by rw [lkp_put]; rfl, ?_⟩) F3 N3
  refine splitOne ?_
  refine scopesLoop C (σ := { σ with vS := .str (Str.ofString "new") t, vsM := σ.vsM ++ [Value.str (Str.ofString "new") t], nM := σ.nM + 1, esB := esB, nB := nB, esR := esR, nR := nR }) (s := { s with heap := h4, toks := tk4 }) (own := add ++ own) hE hs3 O3 (kN.mono up) tB2 (tK.mono up) tR2 (tH.mono up) dM2 (dN.mono up) lB2 lR2 lM2 (by omega) (put_rel yn) (fun k y e => dokUp (dokUp (iH.get e))) (fun vS h5 tk5 m5 add5 kk hk G5 F5 N5 => ?_) F4 N4
  have up5 : ∀ p ∈ add ++ own, p ∈ add5 ++ (add ++ own) := fun p hp => List.mem_append_right _ hp
  exact t3 C (σ := { σ with vS := vS, vsM := σ.vsM ++ [Value.str (Str.ofString "new") t], nM := σ.nM + 1, esB := esB, nB := nB, esR := esR, nR := nR }) (s := { s with heap := h5, toks := tk5 }) (own := add5 ++ (add ++ own)) (subApp hs3) (O3.grow G5 C.rise) hk (tB2.mono up5) ((tK.mono up).mono up5) (tR2.mono up5) ((tH.mono up).mono up5) (DatAll.mono up5 dM2) ((dN.mono up).mono up5) lB2 lR2 lM2 (by omega) (by omega) rfl (snocOk iM (dokKey 4)) (put_len xn)
    (fun h6 tk6 m6 F6 N6 => K _ h6 tk6 _ (add5 ++ (add3 ++ add)) F6 (by
      have e : (add5 ++ (add3 ++ add)) ++ led = add5 ++ (add3 ++ (add ++ led)) := by simp only [List.append_assoc]
      rw [e]
      exact N6)) F5 N5
end
end Mine
end

section
open PySem PySem.W PySem.Calls PyProof.Rows
set_option Elab.async false
set_option maxRecDepth 100000
set_option linter.unusedVariables false
namespace Mine
theorem newD {prog : Program} {w : World} {A : Around} {E : Value → Shared → Prop} {s : Shared} {env : Env} {h₀ : Heap} {L : Addr} {m : Str → Option Value} {news : List (Addr × Obj)} {pos : Pos} {Q : Value → Shared → Prop} (F : Fr h₀ L s.heap m) (N : News h₀ L s.heap news)
    (k : ∀ (d : Addr) h', Fr h₀ L h' m → News h₀ L h' ((d, dArr #[] 0) :: news) → (∀ p ∈ news, p.1 < d) → Q (.ref d) { s with heap := h' }) : wpAny (model prog w) A (eval (.Dict [] [] pos) env) Q E s :=
  wpAny_Dict_empty (k _ _ (F.push _) (N.push F _) fun p hp => Heap.lt_size (N p hp).1)
end Mine
end

section
open PySem PySem.W PySem.Calls PyProof.Rows
set_option Elab.async false
set_option maxRecDepth 100000
set_option linter.unusedVariables false
namespace Mine
/-- the ledger at the loop's door -/
def led0 (q : Par) (D : Addr) (ws : List Value) (n0 : Nat) (tA : Addr × Obj) (lN : Addr) (tB : Addr × Obj) (t0 : Tok) : List (Addr × Obj) :=
  [(D, listOf ws.toArray n0), tA, (lN, listOf #[] 0), (q.aH, dArr #[] 0), (q.aK, dArr #[] 0), (q.aR, dArr #[] 0),
   (q.aQ, { cls := .ref 89, dict := some q.dQ, data := .plain, slots := #[some (.ref q.fF), some (.ref q.aR), some (.ref q.fH)] }), (q.dQ, dictOf [] 0),
   (q.fF, madeFn q.L q.fa (Str.ofString "fresh") freshS [(Str.ofString "scope", q.L + 1 + 1 + 1), (Str.ofString "bank", q.L + 1)] q.dcF q.mn q.cF q.ctF), (q.cF, q.ocF),
   (q.fH, madeFn q.L q.fa (Str.ofString "here") hereS [(Str.ofString "scope", q.L + 1 + 1 + 1)] q.dcH q.mn q.cH q.ctH), (q.cH, q.ocH),
   (q.aB, bankObj 38 q.dB #[] 0), (q.dB, dictOf [q.eB] 1),
   (q.fC, madeFn q.L q.fa (Str.ofString "create") createS [(Str.ofString "made", q.L + 1 + 1)] q.dcC q.mn q.cC q.ctC), (q.cC, q.ocC),
   tB, (q.aM, listOf #[] 0), (q.aS, listOf #[.int 0 t0] 0), (q.L + 1 + 1 + 1, q.oS), (q.L + 1 + 1, q.oM), (q.L + 1, q.oB), (103, q.tb)]

theorem enter {w : World} {base : Heap} {q : Par} {loose : List Str} {mean : ExcName → Option Value} {mg mb : Str → Option Value} {s : Shared} {D lN : Addr} {ws : List Value} {ns : List Int} {n0 : Nat} {tA tB : Addr × Obj} {t0 : Tok} {m₀ : Str → Option Value} {P : Flow → Shared → Prop} {E : Value → Shared → Prop} {pk pv pt : Pos} {x1 : Nat}
    (N : News base q.L s.heap (led0 q D ws n0 tA lN tB t0)) (C : Cx w base q loose mean mg mb) (F : Fr base q.L s.heap m₀)
    (g1 : m₀ (Str.ofString "shelf") = some (.ref q.aQ)) (g2 : m₀ (Str.ofString "stock") = some (.ref q.aK)) (g3 : m₀ (Str.ofString "held") = some (.ref q.aH)) (g4 : m₀ (Str.ofString "count") = some (.ref lN))
    (hi : IntsAre ws ns) (hn : ns.length ≤ 63) (a1 : @LT.lt Nat _ q.aH lN) (a2 : @LT.lt Nat _ lN D)
    (done : ∀ h tk m σ own vN k0 xs ys ds, Rel w own σ vN ns.length k0 xs xs ys ys ds ds → ownOK q own → Fr base q.L h (canon q.aQ q.aK q.aH vN m) → News base q.L h (muts q σ ++ consts q ++ own) → P .next { s with heap := h, toks := tk }) :
    wpAny (model PRG w) (callerA.deeper (lawEnv q.L q.fa)) (call (.type "enumerate") [.ref D]) (fun xv s₁ => wpAny (model PRG w) (callerA.deeper (lawEnv q.L q.fa)) (pyIter xv)
      (fun it s₂ => TurnsAt PRG w (callerA.deeper (lawEnv q.L q.fa)) base (lawEnv q.L q.fa) (.Tuple [.Name (Str.ofString "i") pk, .Name (Str.ofString "x") pv] x1 pt) loopBody P E it s₂) E s₁) E s := by
  let σ0 : Sta := ⟨.int 0 t0, [], 0, #[], 0, #[], 0, #[], 0, #[], 0⟩
  have rise := C.rise
  refine enumG (env := lawEnv q.L q.fa) (lo := listOf ws.toArray n0) (news₀ := muts q σ0 ++ consts q ++ [(lN, listOf #[] 0)]) rfl rfl rfl rfl F N (.head _) rfl rfl hi ?_ ?_ (loopIs q w) ?_ ?_ ?_
  · intro p hp
    simp only [muts, consts, led0, σ0, List.cons_append, List.nil_append, List.mem_cons, List.not_mem_nil, or_false] at hp ⊢
    rcases hp with rfl | rfl | rfl | rfl | rfl | rfl | rfl | rfl | rfl | rfl | rfl | rfl | rfl | rfl | rfl | rfl | rfl | rfl | rfl | rfl <;> simp
  · intro p hp e
    rcases List.mem_append.mp hp with hp | hp
    · exact Nat.not_lt_of_le (lowAll C p hp) (by rw [e]; exact Nat.lt_trans a1 a2)
    · rw [List.mem_singleton.mp hp] at e
      exact Nat.ne_of_lt a2 e
  · refine ⟨σ0, [(lN, listOf #[] 0)], .ref lN, 0, [], [], [], ⟨_, canon_self g1 g2 g3 g4⟩, rfl, ⟨⟨by decide, .int _ _⟩, Tab.nil, Tab.nil, Tab.nil, Tab.nil, .nil, .list (.head _) .nil, by decide, Inv.nil, Inv.nil, Inv.nil, Inv.nil, (fun _ h => nomatch h), (fun _ h => nomatch h), Nat.le_refl _, Nat.le_refl _⟩, ?_⟩
    intro p hp
    rw [List.mem_singleton.mp hp]
    obtain ⟨r1, r2, r3, r4, r5⟩ := rise
    have x5 := Nat.lt_trans r5 a1
    have x4 := Nat.lt_trans r4 x5
    have x3 := Nat.lt_trans r3 x4
    have x2 := Nat.lt_trans r2 x3
    have x1 := Nat.lt_trans r1 x2
    exact ⟨Nat.ne_of_gt x1, Nat.ne_of_gt x2, Nat.ne_of_gt x3, Nat.ne_of_gt x4, Nat.ne_of_gt x5, Nat.ne_of_gt a1⟩
  · intro i n t u m₁ news₁ h tk own hin J sep F₁ N₁
    have hi' : i < 63 := by
      have z := (List.getElem?_eq_some_iff.mp hin).1
      omega
    exact loopStep C hi' J sep F₁ N₁
  · rintro h tk m' news' F' N' ⟨σ, own, vN, k0, xs, ys, ds, ⟨m0, rfl⟩, rfl, R, O⟩
    exact done h tk m0 σ own vN k0 xs ys ds R O F' N'
theorem enter2 {w : World} {base : Heap} {q : Par} {loose : List Str} {mean : ExcName → Option Value} {mg mb : Str → Option Value} {s : Shared} {D lN : Addr} {ws : List Value} {ns : List Int} {n0 : Nat} {tA tB : Addr × Obj} {t0 : Tok} {m₀ : Str → Option Value} {P : Flow → Shared → Prop} {E : Value → Shared → Prop} {pk pv pt : Pos} {x1 : Nat}
    (F : Fr base q.L s.heap m₀) (N : News base q.L s.heap (led0 q D ws n0 tA lN tB t0)) (T : Top topProg loose mean mg mb base) (C : Cx w base q loose mean mg mb)
    (g1 : m₀ (Str.ofString "shelf") = some (.ref q.aQ)) (g2 : m₀ (Str.ofString "stock") = some (.ref q.aK)) (g3 : m₀ (Str.ofString "held") = some (.ref q.aH)) (g4 : m₀ (Str.ofString "count") = some (.ref lN))
    (hi : IntsAre ws ns) (hn : ns.length ≤ 63) (a1 : @LT.lt Nat _ q.aH lN) (a2 : @LT.lt Nat _ lN D)
    (done : Cx w base q loose mean mg mb → ∀ h tk m σ own vN k0 xs ys ds, Rel w own σ vN ns.length k0 xs xs ys ys ds ds → ownOK q own → Fr base q.L h (canon q.aQ q.aK q.aH vN m) → News base q.L h (muts q σ ++ consts q ++ own) → P .next { s with heap := h, toks := tk }) :
    wpAny (model PRG w) (callerA.deeper (lawEnv q.L q.fa)) (call (.type "enumerate") [.ref D]) (fun xv s₁ => wpAny (model PRG w) (callerA.deeper (lawEnv q.L q.fa)) (pyIter xv)
      (fun it s₂ => TurnsAt PRG w (callerA.deeper (lawEnv q.L q.fa)) base (lawEnv q.L q.fa) (.Tuple [.Name (Str.ofString "i") pk, .Name (Str.ofString "x") pv] x1 pt) loopBody P E it s₂) E s₁) E s :=
  enter N C F g1 g2 g3 g4 hi hn a1 a2 (done C)
end Mine
end

section
open PySem PySem.W PySem.Calls PyProof.Rows
set_option Elab.async false
set_option maxRecDepth 100000
set_option linter.unusedVariables false
namespace Mine
local macro_rules | `(tactic| walk_at "call ref") => `(tactic| (k_here; (with_reducible show wpAny _ _ (call (Value.ref _) [_]) _ _ _); k_dflt (refine' Mine.call_bank ?k1 ?k2 ?k3 ?k4 ?k5 ?k6 ?_; (case k1 => k_asm); (case k2 => k_asm); (case k3 => k_asm); (case k4 => kernel_rfl); (case k5 => k_is); (case k6 => k_is); k_whole; intro x' d' h' F' N' l1 l2; (try k_lt l1); (try k_lt2 l2); (try k_sweep); k_enter)))
local macro_rules | `(tactic| walk_at "setAttr ref") => `(tactic| (k_here; k_dflt (refine' Mine.setBank ?k1 ?k2 ?k3 ?k4 ?k5 ?k6 ?k7 ?k8 ?_; (case k1 => k_asm); (case k2 => k_asm); (case k3 => k_asm); (case k4 => k_ne); (case k5 => k_all); (case k6 => k_is); (case k7 => kernel_rfl); (case k8 => k_is); k_whole; intro h' e' tk' e1 e2 e3 F' N'; (try k_sweep))))
local macro_rules | `(tactic| walk_at "exec For Tuple Call") => `(tactic| (k_here; (with_reducible show wpAny _ _ (exec (Stmt.For (Expr.Tuple _ _ _) (Expr.Call (Expr.Name (Str.ofString "enumerate") _) _ _ _) _ _ _) _) _ _ _); (rename Fr _ _ _ _ => lF'); (with_unfolding_all refine' For_turns lF' ?_); k_whole))
local macro_rules | `(tactic| walk_at "eval Dict nil nil") => `(tactic| (k_here; k_dflt (refine' Mine.newD ?k1 ?k2 ?_; (case k1 => k_asm); (case k2 => k_asm); k_whole); intro d' h' F' N' l1; (try k_lt l1); (try k_sweep)))
set_option maxHeartbeats 8000000 in
theorem lawHolds : PySem.Challenge.rw_eu0027_01.Holds := hd (by
  k_go0
  all_goals (try k_fold)
  k_steps
  rename News _ _ _ _ => NN
  rename Fr _ _ _ _ => FF
  refine enter2 (q := ⟨_, _, _, _, _, _, _, _, _, _, _, _, _, _, _, _, _, _, _, _, _, _, _, _, _, _, _, _, _, _, _, _⟩) FF NN (by assumption) ?zC rfl rfl rfl rfl (by assumption) ?zn ?z1 ?z2 ?zd
  case zn => first | omega | (simp only [List.length_take]; omega)
  case z1 => (try dsimp only); omega
  case z2 => (try dsimp only); omega
  case zC =>
    refine ⟨by assumption, by assumption, by assumption, by assumption, by assumption, by assumption, by assumption, ⟨_, _, by assumption, by assumption⟩, ⟨_, _, by assumption, by assumption⟩, ⟨_, _, by assumption, by assumption⟩, ⟨by assumption, by assumption, by assumption⟩, ?_⟩
    dsimp only
    refine ⟨?_, ?_, ?_, ?_, ?_, ?_, ?_, ?_, ?_, ?_, ?_, ?_, ?_, ?_, ?_, ?_⟩
    all_goals first
      | omega
      | (simp only [Array.length_toList]; omega)
  case zd =>
    intro C h tk m σ own vN k0 xs ys ds R O F' N'
    dsimp only
    refine lawTail C ?hE (by simp only [List.length_take]; omega) (fun p h => h) O R (fun σ' h' tk' m' add F2 N2 => ?_) F' N'
    case hE => with_unfolding_all passes_own
    clear F' N' R
    dsimp only [muts, consts, madeFn, lawEnv, List.cons_append, List.nil_append] at N2
    k_steps)
end Mine
end

theorem PySem.Challenge.cw_eu0027_01_holds : PySem.Challenge.rw_eu0027_01.Holds := by
  exact Mine.lawHolds
