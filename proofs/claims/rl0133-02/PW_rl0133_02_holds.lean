import PyProof.Rows.All
import Wide.All
import OpenK.AllK
import Wide.FinOn
import Lean
import PySem.Challenge.RW_rl0133_02
set_option Elab.async false
set_option maxRecDepth 100000
section
open PySem PySem.W PyProof.Rows
set_option maxRecDepth 100000
namespace M
section
variable {tb : String → Option Builtin} {p : Program} {w : World} {n₀ : Nat} {ann : Option Value} {q : Pos}

noncomputable def Go (tb : String → Option Builtin) (p : Program) (w : World) (n₀ : Nat) (ann : Option Value) (k : Nat) (s : Shared) (t : Thread) (s' : Shared) (t' : Thread) : Prop := ∃ n, n ≤ k ∧ segGo tb p w n₀ ann 1 n s t = some (s', t')

theorem Go.refl {s : Shared} {t : Thread} : Go tb p w n₀ ann 0 s t s t := ⟨0, Nat.le_refl _, rfl⟩
theorem Go.step {k : Nat} {s s' s2 : Shared} {t t' t2 : Thread} (he : endAt 1 t = none) (hk : stepOk n₀ ann t = true) (hs : PySem.step (denote tb) p w s t = .go s' t') (h : Go tb p w n₀ ann k s' t' s2 t2) : Go tb p w n₀ ann (k + 1) s t s2 t2 := by
  obtain ⟨n, hn, h⟩ := h
  refine ⟨n + 1, Nat.succ_le_succ hn, ?_⟩
  unfold segGo
  rw [he, hk, hs]
  exact h
theorem Go.le {j k : Nat} {s s' : Shared} {t t' : Thread} (h : Go tb p w n₀ ann j s t s' t') (l : j ≤ k) : Go tb p w n₀ ann k s t s' t' := let ⟨n, hn, e⟩ := h; ⟨n, Nat.le_trans hn l, e⟩
theorem Go.trans {j k : Nat} {s1 s2 s3 : Shared} {t1 t2 t3 : Thread} (a : Go tb p w n₀ ann j s1 t1 s2 t2) (b : Go tb p w n₀ ann k s2 t2 s3 t3) : Go tb p w n₀ ann (k + j) s1 t1 s3 t3 := by
  obtain ⟨n, hn, a⟩ := a
  refine Go.le (j := k + n) ?_ (by omega)
  clear hn
  induction n generalizing s1 t1 with
  | zero =>
    obtain ⟨rfl, rfl⟩ : s1 = s2 ∧ t1 = t2 := by simpa [segGo] using a
    exact b
  | succ n ih =>
    unfold segGo at a
    cases he : endAt 1 t1 with
    | some f => rw [he] at a; cases a
    | none =>
      rw [he] at a
      cases hk : stepOk n₀ ann t1 with
      | false => rw [hk] at a; cases a
      | true =>
        rw [hk] at a
        cases hs : PySem.step (denote tb) p w s1 t1 with
        | halt o s' => rw [hs] at a; cases a
        | go s' t' => rw [hs] at a; exact Go.step he hk hs (ih a)
theorem segRun_mono {b : Nat} (k : Nat) : ∀ (n : Nat) (s : Shared) (t : Thread) (r : Flow × Shared × Code × Pos), segRun tb p w n₀ ann b n s t = some r → segRun tb p w n₀ ann b (n + k) s t = some r
  | 0, _, _, _, h => by simp [segRun] at h
  | n + 1, s, t, r, h => by
    rw [show n + 1 + k = n + k + 1 by omega]
    unfold segRun at h ⊢
    cases he : endAt b t with
    | some f => rw [he] at h; exact h
    | none =>
      rw [he] at h
      cases hk : stepOk n₀ ann t with
      | false => rw [hk] at h; cases h
      | true =>
        rw [hk] at h
        cases hs : PySem.step (denote tb) p w s t with
        | halt o s' => rw [hs] at h; cases h
        | go s' t' => rw [hs] at h; exact segRun_mono k n s' t' r h
theorem Go.run {k N M : Nat} {s s' : Shared} {t t' : Thread} {r : Flow × Shared × Code × Pos} (a : Go tb p w n₀ ann k s t s' t') (h : segRun tb p w n₀ ann 1 N s' t' = some r) (l : k + N ≤ M) : segRun tb p w n₀ ann 1 M s t = some r := by
  obtain ⟨n, hn, a⟩ := a
  have := segRun_mono (M - (n + N)) _ _ _ _ (seg_go a h)
  rwa [show n + N + (M - (n + N)) = M by omega] at this

noncomputable def Ev {α : Type} (k : Nat) (tb : String → Option Builtin) (p : Program) (w : World) (n₀ : Nat) (ann : Option Value) (q : Pos) (x : Sem α) (s : Shared) (ps : Pos) (a : α) (s' : Shared) (ps' : Pos) : Prop :=
  ∀ (lv : List Value → List Value) (H : Value → Sem Fin) (gd : Bool → Bool) (K : α → Sem Fin) (c : Code), Go tb p w n₀ ann k s ⟨x.wrap K H gd lv, c, ps, [topFrame q]⟩ s' ⟨K a, c, ps', [topFrame q]⟩

variable {i j : Nat} {α β : Type} {s s' s2 : Shared} {ps ps' ps2 : Pos} {a : α} {b : β}
theorem ev_le {x : Sem α} (h : Ev i tb p w n₀ ann q x s ps a s' ps') (l : i ≤ j) : Ev j tb p w n₀ ann q x s ps a s' ps' := fun lv H gd K c => (h lv H gd K c).le l
theorem ev_pure : Ev 0 tb p w n₀ ann q (pure a : Sem α) s ps a s ps := fun _ _ _ _ _ => Go.refl
theorem ev_bind {x : Sem α} {f : α → Sem β} (h : Ev i tb p w n₀ ann q x s ps a s' ps') (k : Ev j tb p w n₀ ann q (f a) s' ps' b s2 ps2) : Ev (j + i) tb p w n₀ ann q (x >>= f) s ps b s2 ps2 := fun lv H gd K c => by
  rw [Sem.bind_eq_wrap', Sem.wrap_wrap]
  exact (h _ _ _ _ c).trans (k lv H gd K c)
theorem ev_bindp {x : Sem α} {f : α → Sem β} (h : Ev i tb p w n₀ ann q x s ps a s' ps') (k : Ev 0 tb p w n₀ ann q (f a) s' ps' b s2 ps2) : Ev i tb p w n₀ ann q (x >>= f) s ps b s2 ps2 := ev_le (ev_bind h k) (by omega)
theorem ev_keep {x : Sem α} {vs : List Value} (h : Ev i tb p w n₀ ann q x s ps a s' ps') : Ev i tb p w n₀ ann q (x.keep vs) s ps a s' ps' := fun lv H gd K c => by
  rw [Sem.keep_eq_wrap, Sem.wrap_wrap]
  exact h _ _ _ _ c
theorem ev_holding {x : Sem α} {vs : List Value} (h : Ev i tb p w n₀ ann q x s ps a s' ps') : Ev i tb p w n₀ ann q (holding vs x) s ps a s' ps' := by
  unfold holding
  split
  · exact h
  · exact ev_keep h
theorem ev_onRaise {x : Sem α} {g : Value → Sem Unit} (h : Ev i tb p w n₀ ann q x s ps a s' ps') : Ev i tb p w n₀ ann q (x.onRaise g) s ps a s' ps' := fun lv H gd K c => by
  rw [Sem.onRaise_eq_wrap, Sem.wrap_wrap]
  exact h _ _ _ _ c
theorem ev_loadPart {A : Addr} {part : Option Value} {o : Obj} (h : s.heap.get? A = some o) : Ev 1 tb p w n₀ ann q (loadPart A part) s ps o s ps := fun lv H gd K c => by
  obtain ⟨heap, gens, drawn, toks, os⟩ := s
  refine Go.step (s' := ⟨heap, gens, drawn, toks, os⟩) (t' := ⟨K o, c, ps, [topFrame q]⟩) rfl rfl ?_ Go.refl
  show PySem.step (denote tb) p w ⟨heap, gens, drawn, toks, os⟩ ⟨.load A part fun o => K o, c, ps, [topFrame q]⟩ = _
  simp only [PySem.step, show heap.get? A = some o from h]
theorem ev_load {A : Addr} {o : Obj} (h : s.heap.get? A = some o) : Ev 1 tb p w n₀ ann q (load A) s ps o s ps := ev_loadPart h
theorem ev_updatePart {A : Addr} {part : Option Value} {f : Obj → Obj} (h : (s.heap.get? A).isSome = true) (hn : Nat.ble n₀ A = true) : Ev 1 tb p w n₀ ann q (updatePart A part f) s ps () { s with heap := s.heap.update A f } ps := fun lv H gd K c => by
  obtain ⟨heap, gens, drawn, toks, os⟩ := s
  refine Go.step (s' := ⟨heap.update A f, gens, drawn, toks, os⟩) (t' := ⟨K (), c, ps, [topFrame q]⟩) rfl ?_ ?_ Go.refl
  · show (true && (Nat.ble n₀ A || A == mainNs || A == cStatics || ann == some (.ref A))) = true
    rw [hn]; rfl
  · show PySem.step (denote tb) p w ⟨heap, gens, drawn, toks, os⟩ ⟨.update A part f fun o => K o, c, ps, [topFrame q]⟩ = _
    simp only [PySem.step, show (heap.get? A).isSome = true from h, if_true]
theorem ev_alloc {o : Obj} : Ev 1 tb p w n₀ ann q (alloc o) s ps s.heap.objs.size { s with heap := s.heap.push o } ps := fun lv H gd K c => by
  obtain ⟨heap, gens, drawn, toks, os⟩ := s
  exact Go.step (s' := ⟨heap.push o, gens, drawn, toks, os⟩) (t' := ⟨K heap.objs.size, c, ps, [topFrame q]⟩) rfl rfl rfl Go.refl
theorem ev_fresh : Ev 1 tb p w n₀ ann q fresh s ps s.toks { s with toks := s.toks + 1 } ps := fun lv H gd K c => by
  obtain ⟨heap, gens, drawn, toks, os⟩ := s
  exact Go.step (s' := ⟨heap, gens, drawn, toks + 1, os⟩) (t' := ⟨K toks, c, ps, [topFrame q]⟩) rfl rfl rfl Go.refl
theorem ev_rule {r : String} : Ev 1 tb p w n₀ ann q (rule r) s ps () s ps := fun lv H gd K c => by
  obtain ⟨heap, gens, drawn, toks, os⟩ := s
  exact Go.step (s' := ⟨heap, gens, drawn, toks, os⟩) (t' := ⟨K (), c, ps, [topFrame q]⟩) rfl rfl rfl Go.refl
theorem ev_standAt {P : Pos} : Ev 1 tb p w n₀ ann q (standAt P) s ps () s P := fun lv H gd K c => by
  obtain ⟨heap, gens, drawn, toks, os⟩ := s
  exact Go.step (s' := ⟨heap, gens, drawn, toks, os⟩) (t' := ⟨K (), c, P, [topFrame q]⟩) rfl rfl rfl Go.refl
end
end M
end
section
open PySem PySem.W PyProof.Rows
set_option maxRecDepth 100000
namespace M
section
variable {p : Program} {w : World} {n₀ : Nat} {ann : Option Value} {q : Pos} {s : Shared} {ps : Pos}
noncomputable def h1 (x : Int) : Int :=
  let h : Int := x.natAbs % (2 ^ 61 - 1 : Nat)
  let h := if x < 0 then -h else h
  (if h == -1 then -2 else h)
theorem hash_go (p : Program) (w : World) (n₀ : Nat) (ann : Option Value) (q : Pos) (heap : Heap) (gens : Array GenState) (drawn : Drawn) (toks : Nat) (os : OsState) (i : Int) (t : Tok) (ps : Pos) (lv : List Value → List Value) (H : Value → Sem Fin) (gd : Bool → Bool) (K : Int → Sem Fin) (c : Code) :
    segGo treeTable p w n₀ ann 1 5 ⟨heap, gens, drawn, toks, os⟩ ⟨(pyHash (.int i t)).wrap K H gd lv, c, ps, [topFrame q]⟩ = some (⟨heap, gens, drawn, toks + 1, os⟩, ⟨(pyHashByItsType.reduced (h1 i)).wrap K H gd lv, c, ps, [topFrame q]⟩) := by
  revert w
  refine byRow2 "special-get-raises" ?_ ?_
  · intro w; kernel_rfl
  · intro w; kernel_rfl
theorem h1_small {i : Int} (h0 : 0 ≤ i) (h2 : i < 2 ^ 60) : h1 i = i := by
  have e : (((i.natAbs % (2 ^ 61 - 1 : Nat) : Nat)) : Int) = i := by
    have h3 : i.natAbs < 2305843009213693951 := by omega
    rw [show (2 ^ 61 - 1 : Nat) = 2305843009213693951 from rfl, Nat.mod_eq_of_lt h3]; omega
  have e' : ((i.natAbs : Int) % ((2 ^ 61 - 1 : Nat) : Int)) = i := by rw [← Int.natCast_emod]; exact e
  show (if (if i < 0 then -((i.natAbs : Int) % ((2 ^ 61 - 1 : Nat) : Int)) else ((i.natAbs : Int) % ((2 ^ 61 - 1 : Nat) : Int))) == -1 then -2 else (if i < 0 then -((i.natAbs : Int) % ((2 ^ 61 - 1 : Nat) : Int)) else ((i.natAbs : Int) % ((2 ^ 61 - 1 : Nat) : Int)))) = i
  rw [e', if_neg (show ¬ i < 0 by omega), if_neg (by simp; omega)]
theorem reduced_small {i : Int} (h0 : 0 ≤ i) (h2 : i < 2 ^ 60) : pyHashByItsType.reduced i = pure i := by
  unfold pyHashByItsType.reduced
  rw [if_pos (by simp; omega), if_neg (by simp; omega)]
theorem ev_hash {i : Int} {t : Tok} (h0 : 0 ≤ i) (h2 : i < 2 ^ 60) : Ev 5 treeTable p w n₀ ann q (pyHash (.int i t)) s ps i { s with toks := s.toks + 1 } ps := fun lv H gd K c => by
  obtain ⟨heap, gens, drawn, toks, os⟩ := s
  refine ⟨5, Nat.le_refl _, ?_⟩
  rw [hash_go, h1_small h0 h2, reduced_small h0 h2]
  rfl
/-- an int key that no entry has -/
theorem ev_find {d : Addr} {i : Int} {t : Tok} {es : Array DictEntry} {n : Nat} {cl : Value} {dd : Option Addr} {sl : Array (Option Value)} (hd : s.heap.get? d = some ⟨cl, dd, .dict es n, sl⟩) (hn : ∀ e ∈ es, e.hash ≠ i) :
    Ev 1 treeTable p w n₀ ann q (dictFind d (.int i t) i) s ps none s ps := by
  have e : placesWithHash es.size (fun j => es[j]?.map (·.hash)) i = [] := by
    unfold placesWithHash
    rw [List.filter_eq_nil_iff]
    intro j hj
    have hj' : j < es.size := List.mem_range.mp hj
    simp only [Array.getElem?_eq_getElem hj', Option.map_some, beq_iff_eq, Option.some.injEq]
    exact hn _ (Array.getElem_mem hj')
  unfold dictFind
  refine ev_holding (ev_bind (i := 1) (j := 0) (a := es) (s' := s) (ps' := ps) ?_ ?_)
  · unfold dictEntries
    exact ev_bind (ev_loadPart hd) ev_pure
  · dsimp only
    rw [e]
    exact ev_pure
theorem ev_push {d : Addr} {e : DictEntry} {part : Option Value} {es : Array DictEntry} {n : Nat} {cl : Value} {dd : Option Addr} {sl : Array (Option Value)} (hd : s.heap.get? d = some ⟨cl, dd, .dict es n, sl⟩) (hz : es.size ≤ 100000) (hn : Nat.ble n₀ d = true) :
    Ev 3 treeTable p w n₀ ann q (updateDictKeys d (·.push e) part) s ps () { s with heap := s.heap.update d (Obj.mapDictKeys (·.push e)) } ps := by
  unfold updateDictKeys
  refine ev_bind (ev_loadPart hd) ?_
  dsimp only
  refine ev_bind (ev_updatePart (by rw [hd]; rfl) hn) ?_
  unfold lookBehind
  refine ev_bind (ev_loadPart (o := ⟨cl, dd, .dict (es.push e) (n + 1), sl⟩) (Heap.get?_update_self _ hd rfl)) ?_
  rw [pastItsLine_dict (by rw [Array.size_push]; unfold sizeLine; omega)]
  exact ev_pure
end
end M
end
section
open PySem PySem.W PyProof.Rows
set_option maxRecDepth 100000
namespace M
noncomputable abbrev D (l : List DictEntry) (n : Nat) : Obj := ⟨.type "dict", none, .dict l.toArray n, #[]⟩
noncomputable def ents (T d : Nat) : List (Int × Str) → List DictEntry
  | [] => []
  | (i, x) :: r => ⟨i, .int i T, .str x (T + 1)⟩ :: ents (T + d) d r
section
variable {p : Program} {w : World} {n₀ : Nat} {ann : Option Value} {q : Pos} {s : Shared} {ps POS : Pos}
structure Item (p : Program) (w : World) (n₀ : Nat) (ann : Option Value) (q POS : Pos) (ix : Int × Str) (k v : Sem Value) : Prop where
  key : ∀ s ps, Ev 1 treeTable p w n₀ ann q k s ps (.int ix.1 s.toks) { s with toks := s.toks + 1 } ps
  val : ∀ s ps, Ev 2 treeTable p w n₀ ann q v s ps (.str ix.2 s.toks) { s with toks := s.toks + 1 } POS
  lo : 0 ≤ ix.1
  hi : ix.1 < 2 ^ 60
inductive Items (p : Program) (w : World) (n₀ : Nat) (ann : Option Value) (q POS : Pos) : List (Int × Str) → List (Sem Value × Sem Value) → Prop
  | nil : Items p w n₀ ann q POS [] []
  | cons {ix r k v l} : Item p w n₀ ann q POS ix k v → Items p w n₀ ann q POS r l → Items p w n₀ ann q POS (ix :: r) ((k, v) :: l)
/-- a heap but for the object at d -/
structure Hole (h : Obj → Heap) (d : Addr) : Prop where
  get : ∀ l n, (h (D l n)).get? d = some (D l n)
  upd : ∀ l n f, (h (D l n)).update d f = h (f (D l n))
theorem ev_set {h : Obj → Heap} {d : Addr} (Ho : Hole h d) {i : Int} {t : Tok} {v : Value} {l : List DictEntry} {n : Nat} {toks : Nat} (h0 : 0 ≤ i) (h2 : i < 2 ^ 60) (hn : ∀ e ∈ l, e.hash ≠ i) (hz : l.length ≤ 100000) (hd : Nat.ble n₀ d = true) :
    Ev 10 treeTable p w n₀ ann q (dictSet d (.int i t) v) { s with heap := h (D l n), toks := toks } ps () { s with heap := h (D (l ++ [⟨i, .int i t, v⟩]) (n + 1)), toks := toks + 1 } ps := by
  unfold dictSet
  refine ev_holding (ev_bind (ev_hash h0 h2) ?_)
  unfold dictSetHashed
  refine ev_holding (ev_bind (ev_find (es := l.toArray) (n := n) (cl := .type "dict") (dd := none) (sl := #[]) (Ho.get l n) (by simpa using hn)) ?_)
  dsimp only
  refine ev_bind ev_rule ?_
  have := ev_push (p := p) (w := w) (n₀ := n₀) (ann := ann) (q := q) (ps := ps) (s := { s with heap := h (D l n), toks := toks + 1 }) (d := d) (e := ⟨i, .int i t, v⟩) (part := keyPart (.int i t)) (es := l.toArray) (n := n) (cl := .type "dict") (dd := none) (sl := #[]) (Ho.get l n) (by simpa using hz) hd
  dsimp only at this
  rw [Ho.upd] at this
  have e : Obj.mapDictKeys (·.push (⟨i, .int i t, v⟩ : DictEntry)) (D l n) = D (l ++ [⟨i, .int i t, v⟩]) (n + 1) := by
    show (⟨.type "dict", none, .dict (l.toArray.push _) (n + 1), #[]⟩ : Obj) = _
    rw [List.push_toArray]
  rw [e] at this
  exact this
theorem ents_length (T d : Nat) : ∀ l, (ents T d l).length = l.length
  | [] => rfl
  | (_, _) :: r => by simp [ents, ents_length (T + d) d r]
theorem ents_hash {d : Nat} {l : List (Int × Str)} : ∀ {T : Nat} {e : DictEntry}, e ∈ ents T d l → ∃ ix ∈ l, e.hash = ix.1 := by
  induction l with
  | nil => intro T e h; exact absurd h List.not_mem_nil
  | cons a r ih =>
    intro T e h
    obtain ⟨i, x⟩ := a
    rcases List.mem_cons.mp h with rfl | h
    · exact ⟨(i, x), .head _, rfl⟩
    · obtain ⟨ix, h1, h2⟩ := ih h
      exact ⟨ix, .tail _ h1, h2⟩
theorem ev_loop {h : Obj → Heap} {d : Addr} (Ho : Hole h d) (hd : Nat.ble n₀ d = true) : ∀ {ixs : List (Int × Str)} {kvs : List (Sem Value × Sem Value)} (_ : Items p w n₀ ann q POS ixs kvs) (l : List DictEntry) (n toks : Nat) (ps : Pos)
    (_ : (l.map (·.hash) ++ ixs.map (·.1)).Nodup) (_ : l.length + ixs.length ≤ 100000) (f : Sem Value × Sem Value → PUnit → Sem (ForInStep PUnit)) (_ : ∀ k v, f (k, v) ⟨⟩ = (do let kv ← k; let vv ← holding [kv] v; holding [kv, vv] (dictSet d kv vv); pure (.yield ⟨⟩))),
    Ev (13 * ixs.length) treeTable p w n₀ ann q (forIn kvs PUnit.unit f) { s with heap := h (D l n), toks := toks } ps ⟨⟩ { s with heap := h (D (l ++ ents toks 3 ixs) (n + ixs.length)), toks := toks + 3 * ixs.length } (if ixs = [] then ps else POS) := by
  intro ixs kvs I
  induction I with
  | nil =>
    intro l n toks ps _ _ f _
    simp only [List.forIn_nil, ents, List.append_nil, List.length_nil, Nat.mul_zero, Nat.add_zero, if_true]
    exact ev_pure
  | @cons ix r k v kvs' i1 _ ih =>
    obtain ⟨i, x⟩ := ix
    intro l n toks ps nd hz f hf
    rw [List.forIn_cons, hf]
    have hn : ∀ e ∈ l, e.hash ≠ i := by
      intro e he q
      rw [List.nodup_append] at nd
      exact nd.2.2 _ (List.mem_map_of_mem he) i (by simp) q
    simp only [List.length_cons] at hz
    refine ev_le (i := 13 * r.length + 13) ?_ (by simp only [List.length_cons]; omega)
    refine ev_bind (i := 13) (j := 13 * r.length) (a := .yield ⟨⟩) (s' := { s with heap := h (D (l ++ [⟨i, .int i toks, .str x (toks + 1)⟩]) (n + 1)), toks := toks + 3 }) (ps' := POS) ?_ ?_
    · refine ev_bind (i1.key _ _) (ev_bind (ev_holding (i1.val _ _)) ?_)
      refine ev_bind (ev_holding (ev_set Ho i1.lo i1.hi hn (by omega) hd)) ev_pure
    · dsimp only
      have := ih (l ++ [⟨i, .int i toks, .str x (toks + 1)⟩]) (n + 1) (toks + 3) POS (by simpa [List.map_append] using nd) (by simp; omega) f hf
      simp only [ents, List.length_cons, List.append_assoc, List.cons_append, List.nil_append] at this ⊢
      rw [if_neg (by simp), show n + (r.length + 1) = n + 1 + r.length by omega, show toks + 3 * (r.length + 1) = toks + 3 + 3 * r.length by omega]
      simpa using this
end
end M
end
section
open PySem PySem.W PyProof.Rows
set_option maxRecDepth 100000
namespace M
theorem isSub_dict : isSubtype (.type "dict") (.type "dict") = pure true := by kernel_rfl
theorem look_dict : typeLookup (.type "dict") "__iter__" = pure (some (.builtin "dict.__iter__")) := by kernel_rfl
section
variable {p : Program} {w : World} {n₀ : Nat} {ann : Option Value} {q : Pos} {s : Shared} {ps POS : Pos}
theorem hole_push (h : Heap) : Hole (fun o => h.push o) h.objs.size where
  get l n := by
    obtain ⟨objs, life⟩ := h
    simp only [Heap.push, Heap.get?]
    rw [Array.getElem?_push_size]
  upd l n f := by
    obtain ⟨objs, life⟩ := h
    simp only [Heap.push, Heap.update]
    congr 1
    apply Array.ext
    · simp
    · intro i h1 h2
      simp only [Array.getElem_modify, Array.getElem_push]
      simp only [Array.size_modify, Array.size_push] at h1
      by_cases hi : i = objs.size
      · subst hi; simp
      · have : i < objs.size := by omega
        have h3 : objs.size ≠ i := fun e => hi e.symm
        simp [this, h3]
theorem items_length {ixs : List (Int × Str)} {kvs : List (Sem Value × Sem Value)} (I : Items p w n₀ ann q POS ixs kvs) : kvs.length = ixs.length := by
  induction I with
  | nil => rfl
  | cons _ _ ih => simp [ih]
theorem ev_subLong {ixs : List (Int × Str)} {kvs : List (Sem Value × Sem Value)} (I : Items p w n₀ ann q POS ixs kvs) (hl : ¬ kvs.length ≤ 15) (nd : (ixs.map (·.1)).Nodup) (hz : ixs.length ≤ 100000) (hd : Nat.ble n₀ s.heap.objs.size = true) :
    Ev (13 * ixs.length + 2) treeTable p w n₀ ann q (subDict kvs) s ps s.heap.objs.size { s with heap := s.heap.push (D (ents s.toks 3 ixs) ixs.length), toks := s.toks + 3 * ixs.length } POS := by
  unfold subDict
  refine ev_bind (i := 1) (j := 13 * ixs.length + 1) ev_alloc ?_
  dsimp only
  rw [if_neg hl]
  refine ev_bindp (i := 13 * ixs.length + 1) (a := ()) (s' := { s with heap := s.heap.push (D (ents s.toks 3 ixs) ixs.length), toks := s.toks + 3 * ixs.length }) (ps' := POS) (ev_holding (ev_bind (i := 1) (j := 13 * ixs.length) ev_rule ?_)) ev_pure
  have := ev_loop (s := s) (hole_push s.heap) hd I [] 0 s.toks ps (by simpa using nd) (by simpa using hz)
    (fun x _ => match x with | (k, v) => (do let kv ← k; let vv ← holding [kv] v; holding [kv, vv] (dictSet s.heap.objs.size kv vv); pure (.yield ⟨⟩))) (fun k v => rfl)
  have hne : ixs ≠ [] := by rintro rfl; have := items_length I; simp at this; simp [this] at hl
  rw [if_neg hne] at this
  simp only [List.nil_append, Nat.zero_add] at this
  exact ev_bindp this ev_pure
noncomputable def pv (T : Nat) : List (Int × Str) → List (Value × Value)
  | [] => []
  | (i, x) :: r => (.int i T, .str x (T + 1)) :: pv (T + 2) r
theorem ev_pairs : ∀ {ixs : List (Int × Str)} {kvs : List (Sem Value × Sem Value)} (_ : Items p w n₀ ann q POS ixs kvs) (s : Shared) (ps : Pos),
    Ev (3 * ixs.length) treeTable p w n₀ ann q (evalPairs kvs) s ps (pv s.toks ixs) { s with toks := s.toks + 2 * ixs.length } (if ixs = [] then ps else POS) := by
  intro ixs kvs I
  induction I with
  | nil => intro s ps; exact ev_pure
  | @cons ix r k v l i1 _ ih =>
    obtain ⟨i, x⟩ := ix
    intro s ps
    unfold evalPairs
    refine ev_le (i := 3 * r.length + 2 + 1) ?_ (by simp only [List.length_cons]; omega)
    refine ev_bind (i1.key _ _) (ev_bind (ev_holding (i1.val _ _)) (ev_bindp (ev_holding (ih _ _)) ?_))
    dsimp only
    rw [show (if (i, x) :: r = [] then ps else POS) = POS from if_neg (by simp), show (if r = [] then POS else POS) = POS from by split <;> rfl, show s.toks + 1 + 1 + 2 * r.length = s.toks + 2 * (r.length + 1) by omega]
    exact ev_pure
theorem ev_setLoop {h : Obj → Heap} {d : Addr} (Ho : Hole h d) (hd : Nat.ble n₀ d = true) : ∀ (ixs : List (Int × Str)) (T : Nat) (_ : ∀ ix ∈ ixs, 0 ≤ ix.1 ∧ ix.1 < 2 ^ 60) (l : List DictEntry) (n toks : Nat)
    (_ : (l.map (·.hash) ++ ixs.map (·.1)).Nodup) (_ : l.length + ixs.length ≤ 100000) (f : Value × Value → PUnit → Sem (ForInStep PUnit)) (_ : ∀ k v, f (k, v) ⟨⟩ = (do dictSet d k v; pure (.yield ⟨⟩))),
    Ev (10 * ixs.length) treeTable p w n₀ ann q (forIn (pv T ixs) PUnit.unit f) { s with heap := h (D l n), toks := toks } ps ⟨⟩ { s with heap := h (D (l ++ ents T 2 ixs) (n + ixs.length)), toks := toks + ixs.length } ps := by
  intro ixs
  induction ixs with
  | nil =>
    intro T _ l n toks _ _ f _
    simp only [pv, List.forIn_nil, ents, List.append_nil, List.length_nil, Nat.add_zero]
    exact ev_pure
  | cons ix r ih =>
    obtain ⟨i, x⟩ := ix
    intro T hb l n toks nd hz f hf
    simp only [pv]
    rw [List.forIn_cons, hf]
    have hn : ∀ e ∈ l, e.hash ≠ i := by
      intro e he q
      rw [List.nodup_append] at nd
      exact nd.2.2 _ (List.mem_map_of_mem he) i (by simp) q
    simp only [List.length_cons] at hz
    obtain ⟨b1, b2⟩ := hb (i, x) (.head _)
    refine ev_le (i := 10 * r.length + 10) ?_ (by simp only [List.length_cons]; omega)
    refine ev_bind (i := 10) (j := 10 * r.length) (a := .yield ⟨⟩) (s' := { s with heap := h (D (l ++ [⟨i, .int i T, .str x (T + 1)⟩]) (n + 1)), toks := toks + 1 }) (ps' := ps) (ev_bind (ev_set Ho b1 b2 hn (by omega) hd) ev_pure) ?_
    dsimp only
    have := ih (T + 2) (fun ix h => hb ix (.tail _ h)) (l ++ [⟨i, .int i T, .str x (T + 1)⟩]) (n + 1) (toks + 1) (by simpa [List.map_append] using nd) (by simp; omega) f hf
    simp only [ents, List.length_cons, List.append_assoc, List.cons_append, List.nil_append] at this ⊢
    rw [show n + (r.length + 1) = n + 1 + r.length by omega, show toks + (r.length + 1) = toks + 1 + r.length by omega]
    exact this
theorem ev_subShort {ixs : List (Int × Str)} {kvs : List (Sem Value × Sem Value)} (I : Items p w n₀ ann q POS ixs kvs) (hl : kvs.length ≤ 15) (hne : ixs ≠ []) (nd : (ixs.map (·.1)).Nodup) (hb : ∀ ix ∈ ixs, 0 ≤ ix.1 ∧ ix.1 < 2 ^ 60) (hd : Nat.ble n₀ s.heap.objs.size = true) :
    Ev (13 * ixs.length + 2) treeTable p w n₀ ann q (subDict kvs) s ps s.heap.objs.size { s with heap := s.heap.push (D (ents s.toks 2 ixs) ixs.length), toks := s.toks + 3 * ixs.length } POS := by
  have hlen := items_length I
  unfold subDict
  refine ev_bind (i := 1) (j := 13 * ixs.length + 1) ev_alloc ?_
  dsimp only
  rw [if_pos hl]
  refine ev_le (i := 10 * ixs.length + 3 * ixs.length) ?_ (by omega)
  refine ev_bindp (i := 10 * ixs.length + 3 * ixs.length) (a := ()) (s' := { s with heap := s.heap.push (D (ents s.toks 2 ixs) ixs.length), toks := s.toks + 3 * ixs.length }) (ps' := POS) (ev_holding (ev_bind (ev_pairs I _ _) ?_)) ev_pure
  rw [if_neg hne]
  refine ev_holding ?_
  have := ev_setLoop (p := p) (w := w) (n₀ := n₀) (ann := ann) (q := q) (ps := POS) (s := s) (hole_push s.heap) hd ixs s.toks hb [] 0 (s.toks + 2 * ixs.length) (by simpa using nd) (by simp; omega)
    (fun x _ => match x with | (k, v) => (do dictSet s.heap.objs.size k v; pure (.yield ⟨⟩))) (fun k v => rfl)
  simp only [List.nil_append, Nat.zero_add] at this
  rw [show s.toks + 2 * ixs.length + ixs.length = s.toks + 3 * ixs.length by omega] at this
  exact ev_bindp this ev_pure
end
end M
end
section
open PySem PySem.W PyProof.Rows
set_option maxRecDepth 100000
namespace M
section
variable {p : Program} {w : World} {n₀ : Nat} {ann : Option Value} {q : Pos} {s : Shared} {ps POS : Pos}
/-- the entries that a table's dict can bear: int keys -/
noncomputable def IntKeys (l : List DictEntry) : Prop := ∀ e ∈ l, ∃ i t v, e = ⟨i, .int i t, v⟩
theorem ents_int {T d : Nat} : ∀ {l : List (Int × Str)}, IntKeys (ents T d l)
  | [], e, h => by cases h
  | (i, x) :: r, e, h => by
    rcases List.mem_cons.mp h with rfl | h
    · exact ⟨_, _, _, rfl⟩
    · exact ents_int e h
theorem ev_put {h : Obj → Heap} {d : Addr} (Ho : Hole h d) {i : Int} {t : Tok} {v : Value} {l : List DictEntry} {n : Nat} (hn : ∀ e ∈ l, e.hash ≠ i) (hz : l.length ≤ 100000) (hd : Nat.ble n₀ d = true) :
    Ev 4 treeTable p w n₀ ann q (dictPut d i (.int i t) v) { s with heap := h (D l n) } ps () { s with heap := h (D (l ++ [⟨i, .int i t, v⟩]) (n + 1)) } ps := by
  unfold dictPut
  refine ev_bind (ev_find (es := l.toArray) (n := n) (cl := .type "dict") (dd := none) (sl := #[]) (Ho.get l n) (by simpa using hn)) ?_
  dsimp only
  have := ev_push (p := p) (w := w) (n₀ := n₀) (ann := ann) (q := q) (ps := ps) (s := { s with heap := h (D l n) }) (d := d) (e := ⟨i, .int i t, v⟩) (part := none) (es := l.toArray) (n := n) (cl := .type "dict") (dd := none) (sl := #[]) (Ho.get l n) (by simpa using hz) hd
  dsimp only at this
  rw [Ho.upd] at this
  have e : Obj.mapDictKeys (·.push (⟨i, .int i t, v⟩ : DictEntry)) (D l n) = D (l ++ [⟨i, .int i t, v⟩]) (n + 1) := by
    show (⟨.type "dict", none, .dict (l.toArray.push _) (n + 1), #[]⟩ : Obj) = _
    rw [List.push_toArray]
  rw [e] at this
  exact this
theorem ev_entries {a : Addr} {part : Option Value} {l : List DictEntry} {n : Nat} (h : s.heap.get? a = some (D l n)) : Ev 1 treeTable p w n₀ ann q (dictEntries a part) s ps l.toArray s ps := by
  unfold dictEntries
  exact ev_bind (ev_loadPart h) ev_pure
theorem ev_epoch {a : Addr} {part : Option Value} {l : List DictEntry} {n : Nat} (h : s.heap.get? a = some (D l n)) : Ev 1 treeTable p w n₀ ann q (dictEpoch a part) s ps n s ps := by
  unfold dictEpoch
  exact ev_bind (ev_loadPart h) ev_pure
/-- the merge's loop, from place j on -/
theorem ev_mergeLoop {h : Obj → Heap} {d a : Addr} (Ho : Hole h d) (hd : Nat.ble n₀ d = true) {sub : List DictEntry} {m : Nat} (hsub : ∀ l n, (h (D l n)).get? a = some (D sub m)) (hint : IntKeys sub) (f : Nat → PUnit → Sem (ForInStep PUnit))
    (hf : ∀ i, f i ⟨⟩ = (do
      let some e := (← dictEntries a)[i]? | unsupported "dict.changed-during-merge"
      holding [e.key, e.val] (do
        if false then
          if (← dictFind d e.key e.hash).isSome then rule "dict.merge.duplicate-key"; raiseNew (← newExc (.type "KeyError") [e.key])
        dictPut d e.hash e.key e.val)
      if (← dictEpoch a) != m then unsupported "dict.changed-during-merge"
      pure (.yield ⟨⟩))) : ∀ (k j : Nat) (_ : j + k = sub.length) (l : List DictEntry) (n : Nat) (_ : (l.map (·.hash) ++ (sub.drop j).map (·.hash)).Nodup) (_ : l.length + k ≤ 100000),
    Ev (6 * k) treeTable p w n₀ ann q (forIn (List.range' j k) PUnit.unit f) { s with heap := h (D l n) } ps ⟨⟩ { s with heap := h (D (l ++ sub.drop j) (n + k)) } ps := by
  intro k
  induction k with
  | zero =>
    intro j hj l n _ _
    rw [show sub.drop j = [] from List.drop_eq_nil_of_le (by omega)]
    simp only [List.range'_zero, List.forIn_nil, List.append_nil, Nat.add_zero]
    exact ev_pure
  | succ k ih =>
    intro j hj l n nd hz
    have hlt : j < sub.length := by omega
    rw [List.range'_succ, List.forIn_cons, hf]
    obtain ⟨i, t, v, he⟩ := hint _ (List.getElem_mem hlt)
    have hdrop : sub.drop j = ⟨i, .int i t, v⟩ :: sub.drop (j + 1) := by rw [← he]; exact List.drop_eq_getElem_cons hlt
    have hn : ∀ e ∈ l, e.hash ≠ i := by
      intro e he' q
      rw [List.nodup_append] at nd
      exact nd.2.2 _ (List.mem_map_of_mem he') i (by rw [hdrop]; simp) q
    refine ev_le (i := 6 * k + 6) ?_ (by omega)
    refine ev_bind (i := 6) (j := 6 * k) (a := .yield ⟨⟩) (s' := { s with heap := h (D (l ++ [⟨i, .int i t, v⟩]) (n + 1)) }) (ps' := ps) ?_ ?_
    · refine ev_bind (ev_entries (hsub l n)) ?_
      rw [show (sub.toArray)[j]? = some (⟨i, .int i t, v⟩ : DictEntry) by simp [List.getElem?_eq_getElem hlt, he]]
      dsimp only
      refine ev_bind (s' := { s with heap := h (D (l ++ [⟨i, .int i t, v⟩]) (n + 1)) }) (ps' := ps) (ev_holding (ev_put Ho hn (by omega) hd)) (ev_bind (ev_epoch (s := { s with heap := h (D (l ++ [⟨i, .int i t, v⟩]) (n + 1)) }) (hsub _ _)) ?_)
      rw [if_neg (by simp)]
      exact ev_pure
    · dsimp only
      have := ih (j + 1) (by omega) (l ++ [⟨i, .int i t, v⟩]) (n + 1) (by rw [hdrop] at nd; simpa [List.map_append] using nd) (by simp; omega)
      rw [hdrop, show n + (k + 1) = n + 1 + k by omega]
      simpa using this
theorem ev_merge {h : Obj → Heap} {d a : Addr} (Ho : Hole h d) (hd : Nat.ble n₀ d = true) {sub l : List DictEntry} {n : Nat} (hsub : ∀ l n, (h (D l n)).get? a = some (D sub sub.length)) (hint : IntKeys sub) (hne : l ≠ []) (has : (a == sysModules) = false)
    (nd : (l.map (·.hash) ++ sub.map (·.hash)).Nodup) (hz : l.length + sub.length ≤ 100000) :
    Ev (6 * sub.length + 5) treeTable p w n₀ ann q (mergeMapping d (.ref a) false) { s with heap := h (D l n) } ps () { s with heap := h (D (l ++ sub) (n + sub.length)) } ps := by
  unfold mergeMapping
  refine ev_bind (i := 1) (j := 6 * sub.length + 4) (a := true) (s' := { s with heap := h (D l n) }) (ps' := ps) ?_ ?_
  · unfold isInstance typeOf
    refine ev_bind (ev_bind (ev_loadPart (s := { s with heap := h (D l n) }) (hsub l n)) ev_pure) ?_
    dsimp only
    rw [isSub_dict]; exact ev_pure
  · dsimp only
    rw [if_pos rfl]
    refine ev_bind (i := 1) (j := 6 * sub.length + 3) (a := some (.builtin "dict.__iter__")) (s' := { s with heap := h (D l n) }) (ps' := ps) ?_ ?_
    · unfold specialOf typeOf
      refine ev_bind (ev_bind (ev_loadPart (s := { s with heap := h (D l n) }) (hsub l n)) ev_pure) ?_
      dsimp only
      rw [look_dict]; exact ev_pure
    refine ev_bind (i := 0) (j := 6 * sub.length + 3) ev_pure ?_
    rw [show ((some (.builtin "dict.__iter__") : Option Value) == some (.builtin "dict.__iter__")) = true by simp]
    dsimp only
    rw [has]
    rw [if_neg (by simp)]
    refine ev_bind (i := 1) (j := 6 * sub.length + 2) (ev_entries (Ho.get l n)) ?_
    rw [if_neg (by simpa using hne)]
    refine ev_bind (i := 1) (j := 6 * sub.length + 1) (ev_entries (hsub l n)) (ev_bind (i := 1) (j := 6 * sub.length) (ev_epoch (hsub l n)) ?_)
    have := ev_mergeLoop (p := p) (w := w) (n₀ := n₀) (ann := ann) (q := q) (ps := ps) (s := s) Ho hd hsub hint
      (fun i _ => (do
      let some e := (← dictEntries a)[i]? | unsupported "dict.changed-during-merge"
      holding [e.key, e.val] (do
        if false then
          if (← dictFind d e.key e.hash).isSome then rule "dict.merge.duplicate-key"; raiseNew (← newExc (.type "KeyError") [e.key])
        dictPut d e.hash e.key e.val)
      if (← dictEpoch a) != sub.length then unsupported "dict.changed-during-merge"
      pure (.yield ⟨⟩))) (fun i => rfl) sub.length 0 (by omega) l n (by simpa using nd) hz
    rw [← List.range_eq_range'] at this
    simp only [List.drop_zero] at this
    simp only [List.size_toArray]
    exact ev_bindp this ev_pure
end
end M
end
section
open PySem PySem.W PyProof.Rows
set_option maxRecDepth 100000
namespace M
theorem lt_add1 (a b : Nat) : a < a + 1 + b := by omega
theorem ne_one {a b : Nat} (h : 11 ≤ a) : a + 1 + b ≠ 1 := by omega
noncomputable def hp (h0 : Heap) (m : Obj) (subs : List Obj) : Heap := subs.foldl Heap.push (h0.push m)
theorem hp_snoc (h0 : Heap) (m o : Obj) (subs : List Obj) : hp h0 m (subs ++ [o]) = (hp h0 m subs).push o := by simp [hp]
theorem hp_size (h0 : Heap) (m : Obj) (subs : List Obj) : (hp h0 m subs).objs.size = h0.objs.size + 1 + subs.length := by
  unfold hp
  have : ∀ (l : List Obj) (h : Heap), (l.foldl Heap.push h).objs.size = h.objs.size + l.length := by
    intro l
    induction l with
    | nil => intro h; rfl
    | cons o l ih => intro h; rw [List.foldl_cons, ih]; obtain ⟨a, b⟩ := h; simp [Heap.push]; omega
  rw [this]
  obtain ⟨a, b⟩ := h0
  simp [Heap.push]
theorem get_push_lt {h : Heap} {o : Obj} {d : Addr} (hd : d < h.objs.size) : (h.push o).get? d = h.get? d := by
  obtain ⟨objs, life⟩ := h
  simp only [Heap.push, Heap.get?]
  rw [Array.getElem?_push_lt hd, Array.getElem?_eq_getElem hd]
theorem upd_push_lt {h : Heap} {o : Obj} {d : Addr} {f : Obj → Obj} (hd : d < h.objs.size) : (h.push o).update d f = (h.update d f).push o := by
  obtain ⟨objs, life⟩ := h
  simp only [Heap.push, Heap.update]
  congr 1
  apply Array.ext
  · simp
  · intro i h1 h2
    simp only [Array.getElem_modify, Array.getElem_push, Array.size_modify]
    simp only [Array.size_modify, Array.size_push] at h1
    dsimp only at hd
    by_cases hi : i < objs.size
    · by_cases hdi : d = i
      · subst hdi; simp [hi]
      · simp [hi, hdi]
    · have : d ≠ i := fun e => hi (e ▸ hd)
      simp [hi, this]
theorem hole_hp (h0 : Heap) : ∀ subs : List Obj, Hole (fun m => hp h0 m subs) h0.objs.size := by
  suffices ∀ n (subs : List Obj), subs.length = n → Hole (fun m => hp h0 m subs) h0.objs.size from fun s => this _ s rfl
  intro n
  induction n with
  | zero => intro subs h; obtain rfl := List.length_eq_zero_iff.mp h; exact hole_push h0
  | succ n ih =>
    intro subs h
    obtain ⟨xs, x, rfl⟩ : ∃ xs x, subs = xs ++ [x] := by
      have hne : subs ≠ [] := by rintro rfl; simp at h
      exact ⟨subs.dropLast, subs.getLast hne, (List.dropLast_concat_getLast hne).symm⟩
    have H := ih xs (by simpa using h)
    constructor
    · intro l k
      rw [hp_snoc, get_push_lt (by rw [hp_size]; exact lt_add1 _ _)]
      exact H.get l k
    · intro l k f
      rw [hp_snoc, upd_push_lt (by rw [hp_size]; exact lt_add1 _ _), hp_snoc]
      exact congrArg (fun h => Heap.push h x) (H.upd l k f)
section
variable {p : Program} {w : World} {n₀ : Nat} {ann : Option Value} {q : Pos} {s : Shared} {ps POS : Pos}
noncomputable def flush (run : List (Sem Value × Sem Value)) (main : Option Addr) : Sem (Option Addr) :=
  if run.isEmpty = true then pure main
  else match main with
    | none => do
      let x ← subDict run
      pure (some x)
    | some d => do
      let sub ← holding [.ref d] (subDict run)
      (holding [.ref d, .ref sub] (mergeMapping d (.ref sub) false)).onRaise fun x => do
        let _ ← holding [.ref d, x] (runValue (.builtin "proto.let_go" {}))
        pure ()
      pure (some d)
/-- a chunk behind the first -/
theorem ev_flush {h0 : Heap} {subs : List Obj} {l : List DictEntry} {n toks : Nat} {ixs : List (Int × Str)} {kvs : List (Sem Value × Sem Value)} {D' : List DictEntry} {cs : Nat} (hs : ∀ (s : Shared) (ps : Pos), s.toks = toks → Nat.ble n₀ s.heap.objs.size = true → Ev cs treeTable p w n₀ ann q (subDict kvs) s ps s.heap.objs.size { s with heap := s.heap.push (D D' D'.length), toks := s.toks + 3 * ixs.length } POS)
    (hint : IntKeys D') (hkv : kvs.isEmpty = false) (hn0 : n₀ ≤ h0.objs.size) (h11 : 11 ≤ h0.objs.size) (hl : l ≠ []) (nd : (l.map (·.hash) ++ D'.map (·.hash)).Nodup) (hz : l.length + D'.length ≤ 100000) :
    Ev (6 * D'.length + 5 + cs) treeTable p w n₀ ann q (flush kvs (some h0.objs.size)) { s with heap := hp h0 (D l n) subs, toks := toks } ps (some h0.objs.size)
      { s with heap := hp h0 (D (l ++ D') (n + D'.length)) (subs ++ [D D' D'.length]), toks := toks + 3 * ixs.length } POS := by
  unfold flush
  rw [hkv, if_neg (by simp)]
  dsimp only
  have hble : ∀ m, n₀ ≤ m → Nat.ble n₀ m = true := fun m h => Nat.ble_eq_true_of_le h
  refine ev_bind (ev_holding (hs { s with heap := hp h0 (D l n) subs, toks := toks } ps rfl (hble _ (by dsimp only; rw [hp_size]; omega)))) ?_
  dsimp only
  rw [← hp_snoc, hp_size]
  refine ev_bindp (a := ()) (s' := { s with heap := hp h0 (D (l ++ D') (n + D'.length)) (subs ++ [D D' D'.length]), toks := toks + 3 * ixs.length }) (ps' := POS) (ev_onRaise (ev_holding ?_)) ev_pure
  exact ev_merge (s := { s with toks := toks + 3 * ixs.length }) (hole_hp h0 (subs ++ [D D' D'.length])) (hble _ hn0)
    (fun l n => by
      rw [hp_snoc, ← hp_size h0 (D l n) subs]
      exact (hole_push (hp h0 (D l n) subs)).get D' D'.length) hint hl (beq_eq_false_iff_ne.mpr (ne_one h11)) nd hz
theorem ents_app (T d : Nat) : ∀ a b : List (Int × Str), ents T d (a ++ b) = ents T d a ++ ents (T + d * a.length) d b
  | [], b => by simp [ents]
  | (i, x) :: a, b => by simp only [List.cons_append, ents, ents_app (T + d) d a b, List.length_cons]; rw [show T + d + d * a.length = T + d * (a.length + 1) by rw [Nat.mul_add]; omega]
theorem ents_app_at {T d n : Nat} {a b : List (Int × Str)} (h : a.length = n) : ents T d (a ++ b) = ents T d a ++ ents (T + d * n) d b := by rw [← h]; exact ents_app T d a b
theorem ents_hashes (T d : Nat) : ∀ a : List (Int × Str), (ents T d a).map (·.hash) = a.map (·.1)
  | [] => rfl
  | (i, x) :: a => by simp [ents, ents_hashes (T + d) d a]
noncomputable abbrev some1 (kv : Sem Value × Sem Value) : Option (Sem Value) × Sem Value := (some kv.1, kv.2)
noncomputable abbrev St := Option Addr × List (Sem Value × Sem Value)
section
variable {i1 j1 : Nat} {f : Option (Sem Value) × Sem Value → St → Sem (ForInStep St)}
theorem loop_run (hf : ∀ k v main run, f (some k, v) (main, run) = if ((run ++ [(k, v)]).length == 17) = true then (do let main ← flush (run ++ [(k, v)]) main; pure (.yield (main, []))) else pure (.yield (main, run ++ [(k, v)])))
    {r : St} {s2 : Shared} {ps2 : Pos} {rest : List (Option (Sem Value) × Sem Value)} {main main' : Option Addr} {s1 : Shared} {ps1 : Pos} : ∀ (ch : List (Sem Value × Sem Value)) (run : List (Sem Value × Sem Value)), ch ≠ [] → run.length + ch.length = 17 →
    Ev i1 treeTable p w n₀ ann q (flush (run ++ ch) main) s ps main' s1 ps1 → Ev j1 treeTable p w n₀ ann q (forIn rest ((main', []) : St) f) s1 ps1 r s2 ps2 →
    Ev (j1 + i1) treeTable p w n₀ ann q (forIn (ch.map some1 ++ rest) ((main, run) : St) f) s ps r s2 ps2
  | [], _, h, _, _, _ => absurd rfl h
  | (k, v) :: ch, run, _, hl, h1, h2 => by
    rw [List.map_cons, List.cons_append, List.forIn_cons, hf]
    by_cases hc : ch = []
    · subst hc
      rw [if_pos (by simp at hl ⊢; omega)]
      refine ev_bind (a := .yield (main', [])) (ev_bindp h1 ev_pure) ?_
      simpa using h2
    · have : ch.length ≠ 0 := fun e => hc (List.length_eq_zero_iff.mp e)
      rw [if_neg (by simp at hl ⊢; omega)]
      refine ev_bind (i := 0) (j := j1 + i1) ev_pure ?_
      exact loop_run hf ch (run ++ [(k, v)]) hc (by simp at hl ⊢; omega) (by simpa using h1) h2
theorem loop_short (hf : ∀ k v main run, f (some k, v) (main, run) = if ((run ++ [(k, v)]).length == 17) = true then (do let main ← flush (run ++ [(k, v)]) main; pure (.yield (main, []))) else pure (.yield (main, run ++ [(k, v)])))
    {main : Option Addr} : ∀ (ch : List (Sem Value × Sem Value)) (run : List (Sem Value × Sem Value)), run.length + ch.length < 17 →
    Ev 0 treeTable p w n₀ ann q (forIn (ch.map some1) ((main, run) : St) f) s ps ((main, run ++ ch) : St) s ps
  | [], run, _ => by simp only [List.map_nil, List.forIn_nil, List.append_nil]; exact ev_pure
  | (k, v) :: ch, run, hl => by
    rw [List.map_cons, List.forIn_cons, hf, if_neg (by simp at hl ⊢; omega)]
    refine ev_bind (i := 0) (j := 0) ev_pure ?_
    have := loop_short (main := main) hf ch (run ++ [(k, v)]) (by simp at hl ⊢; omega)
    simpa using this
end
theorem items_take {ixs : List (Int × Str)} {kvs : List (Sem Value × Sem Value)} (I : Items p w n₀ ann q POS ixs kvs) : ∀ n, Items p w n₀ ann q POS (ixs.take n) (kvs.take n) ∧ Items p w n₀ ann q POS (ixs.drop n) (kvs.drop n) := by
  induction I with
  | nil => intro n; simp; exact .nil
  | cons i1 i2 ih =>
    intro n
    cases n with
    | zero => exact ⟨.nil, .cons i1 i2⟩
    | succ n => exact ⟨.cons i1 (ih n).1, (ih n).2⟩
noncomputable def subsOf : Nat → Nat → List (Int × Str) → List Obj
  | 0, _, _ => []
  | m + 1, T, ixs => D (ents T 3 (ixs.take 17)) 17 :: subsOf m (T + 51) (ixs.drop 17)
theorem ev_chunks {f : Option (Sem Value) × Sem Value → St → Sem (ForInStep St)} (hf : ∀ k v main run, f (some k, v) (main, run) = if ((run ++ [(k, v)]).length == 17) = true then (do let main ← flush (run ++ [(k, v)]) main; pure (.yield (main, []))) else pure (.yield (main, run ++ [(k, v)])))
    {h0 : Heap} (hn0 : n₀ ≤ h0.objs.size) (h11 : 11 ≤ h0.objs.size) {r : St} {s2 : Shared} {ps2 : Pos} {j1 : Nat} {rest : List (Option (Sem Value) × Sem Value)} : ∀ (m : Nat) (ixs : List (Int × Str)) (kvs : List (Sem Value × Sem Value)) (_ : Items p w n₀ ann q POS ixs kvs) (_ : ixs.length = 17 * m)
    (l : List DictEntry) (n toks : Nat) (subs : List Obj) (_ : l ≠ []) (_ : (l.map (·.hash) ++ ixs.map (·.1)).Nodup) (_ : l.length + ixs.length ≤ 100000),
    Ev j1 treeTable p w n₀ ann q (forIn rest ((some h0.objs.size, []) : St) f) { s with heap := hp h0 (D (l ++ ents toks 3 ixs) (n + ixs.length)) (subs ++ subsOf m toks ixs), toks := toks + 3 * ixs.length } POS r s2 ps2 →
    Ev (j1 + 330 * m) treeTable p w n₀ ann q (forIn (kvs.map some1 ++ rest) ((some h0.objs.size, []) : St) f) { s with heap := hp h0 (D l n) subs, toks := toks } POS r s2 ps2 := by
  intro m
  induction m with
  | zero =>
    intro ixs kvs I hlen l n toks subs _ _ _ h
    obtain rfl : ixs = [] := List.length_eq_zero_iff.mp (by simpa using hlen)
    cases I
    simpa [ents, subsOf] using h
  | succ m ih =>
    intro ixs kvs I hlen l n toks subs hl nd hz h
    obtain ⟨I1, I2⟩ := items_take I 17
    have hk := items_length I
    have e1 : (ixs.take 17).length = 17 := by rw [List.length_take]; omega
    have e2 : (kvs.take 17).length = 17 := by rw [List.length_take]; omega
    have hcut : ixs = ixs.take 17 ++ ixs.drop 17 := (List.take_append_drop 17 ixs).symm
    have nd' : (l.map (·.hash) ++ ((ixs.take 17).map (·.1) ++ (ixs.drop 17).map (·.1))).Nodup := by rw [← List.map_append, ← hcut]; exact nd
    have nd1 : (l.map (·.hash) ++ (ixs.take 17).map (·.1)).Nodup := by rw [← List.append_assoc] at nd'; exact (List.nodup_append.mp nd').1
    rw [show kvs = kvs.take 17 ++ kvs.drop 17 from (List.take_append_drop 17 kvs).symm, List.map_append, List.append_assoc]
    have hents : (ents toks 3 (ixs.take 17)).length = 17 := by rw [ents_length, e1]
    refine ev_le (i := j1 + 330 * m + 330) ?_ (by omega)
    refine loop_run hf (i1 := 330) (j1 := j1 + 330 * m) (kvs.take 17) [] (by intro e; rw [e] at e2; simp at e2) (by simp [e2]) (main' := some h0.objs.size)
      (s1 := { s with heap := hp h0 (D (l ++ ents toks 3 (ixs.take 17)) (n + 17)) (subs ++ [D (ents toks 3 (ixs.take 17)) 17]), toks := toks + 3 * 17 }) (ps1 := POS) ?_ ?_
    · have := ev_flush (p := p) (w := w) (n₀ := n₀) (ann := ann) (q := q) (POS := POS) (s := s) (ps := POS) (h0 := h0) (subs := subs) (l := l) (n := n) (toks := toks) (ixs := ixs.take 17) (kvs := kvs.take 17) (D' := ents toks 3 (ixs.take 17))
        (fun s ps ht hb => by
          subst ht
          have := ev_subLong (s := s) (ps := ps) I1 (by rw [e2]; omega) (by rw [List.nodup_append] at nd1; exact nd1.2.1) (by omega) hb
          rw [e1] at this ⊢
          rw [ents_length, e1]
          exact this) ents_int (by cases hh : kvs.take 17 with | nil => rw [hh] at e2; simp at e2 | cons a b => rfl) hn0 h11 hl (by rw [ents_hashes]; exact nd1) (by rw [ents_length]; omega)
      rw [hents, e1] at this
      simpa using this
    · refine ih (ixs.drop 17) (kvs.drop 17) I2 (by rw [List.length_drop]; omega) _ _ _ _ (by simp [hl]) ?_ ?_ ?_
      · rw [List.map_append, ents_hashes, List.append_assoc]; exact nd'
      · rw [List.length_append, ents_length, List.length_take, List.length_drop]; omega
      · have e3 : (ixs.drop 17).length = 17 * m := by rw [List.length_drop]; omega
        have e4 : ents toks 3 ixs = ents toks 3 (ixs.take 17) ++ ents (toks + 3 * 17) 3 (ixs.drop 17) := by
          rw [← ents_app_at e1, ← hcut]
        rw [e4, hlen] at h
        simp only [subsOf] at h
        rw [e3, List.append_assoc, List.append_assoc, show n + 17 + 17 * m = n + 17 * (m + 1) by omega, show toks + 3 * 17 + 3 * (17 * m) = toks + 3 * (17 * (m + 1)) by omega]
        simpa using h
end
end M
end
section
open PySem PySem.W PyProof.Rows
set_option maxRecDepth 100000
namespace M
section
variable {p : Program} {w : World} {n₀ : Nat} {ann : Option Value} {q : Pos} {s : Shared} {ps POS : Pos}
theorem items_app {a b : List (Int × Str)} {kvs : List (Sem Value × Sem Value)} (I : Items p w n₀ ann q POS (a ++ b) kvs) : ∃ ka kb, kvs = ka ++ kb ∧ Items p w n₀ ann q POS a ka ∧ Items p w n₀ ann q POS b kb := by
  have := items_take I a.length
  rw [List.take_left' rfl, List.drop_left' rfl] at this
  exact ⟨_, _, (List.take_append_drop a.length kvs).symm, this.1, this.2⟩
theorem items_bound {ixs : List (Int × Str)} {kvs : List (Sem Value × Sem Value)} (I : Items p w n₀ ann q POS ixs kvs) : ∀ ix ∈ ixs, 0 ≤ ix.1 ∧ ix.1 < 2 ^ 60 := by
  induction I with
  | nil => intro ix h; cases h
  | cons i1 _ ih =>
    intro ix h
    rcases List.mem_cons.mp h with rfl | h
    · exact ⟨i1.lo, i1.hi⟩
    · exact ih ix h
theorem ev_display (m : Nat) {a b c : List (Int × Str)} {kvs : List (Sem Value × Sem Value)} (I : Items p w n₀ ann q POS (a ++ (b ++ c)) kvs) (ha : a.length = 17) (hb : b.length = 17 * m) (hc0 : c ≠ []) (hc : c.length ≤ 15) (nd : ((a ++ (b ++ c)).map (·.1)).Nodup) (hz : (a ++ (b ++ c)).length ≤ 100000) (hn0 : n₀ ≤ s.heap.objs.size) (h11 : 11 ≤ s.heap.objs.size) :
    Ev (6 * c.length + 5 + (13 * c.length + 2) + (330 * m + 223)) treeTable p w n₀ ann q (dictDisplay (kvs.map some1)) s ps (.ref s.heap.objs.size)
      { s with heap := hp s.heap (D (ents s.toks 3 (a ++ b) ++ ents (s.toks + 3 * (a ++ b).length) 2 c) (a ++ (b ++ c)).length) (subsOf m (s.toks + 51) b ++ [D (ents (s.toks + 3 * (a ++ b).length) 2 c) c.length]), toks := s.toks + 3 * (a ++ (b ++ c)).length } POS := by
  obtain ⟨ka, kbc, rfl, Ia, Ibc⟩ := items_app I
  obtain ⟨kb, kc, rfl, Ib, Ic⟩ := items_app Ibc
  have la := items_length Ia
  have lb := items_length Ib
  have lc := items_length Ic
  have hble : ∀ m, n₀ ≤ m → Nat.ble n₀ m = true := fun m h => Nat.ble_eq_true_of_le h
  have hcl : c.length ≠ 0 := fun e => hc0 (List.length_eq_zero_iff.mp e)
  simp only [List.map_append] at nd
  have nda : (a.map (·.1)).Nodup := (List.nodup_append.mp nd).1
  have ndc : (c.map (·.1)).Nodup := (List.nodup_append.mp (List.nodup_append.mp nd).2.1).2.1
  simp only [List.length_append] at hz
  unfold dictDisplay
  dsimp only
  rw [List.map_append]
  have hane : ents s.toks 3 a ≠ [] := fun e => by have := ents_length s.toks 3 a; rw [e, ha] at this; simp at this
  refine ev_bind (i := 330 * m + 223) (j := 6 * c.length + 5 + (13 * c.length + 2)) (a := ((some s.heap.objs.size, kc) : St)) (s' := { s with heap := hp s.heap (D (ents s.toks 3 (a ++ b)) (17 + b.length)) (subsOf m (s.toks + 51) b), toks := s.toks + 51 + 3 * b.length }) (ps' := POS) ?_ ?_
  · refine loop_run (i1 := 223) (j1 := 330 * m) (fun _ _ _ _ => rfl) ka [] (by intro e; rw [e] at la; simp at la; omega) (by simp; omega) (main' := some s.heap.objs.size) (s1 := { s with heap := hp s.heap (D (ents s.toks 3 a) 17) [], toks := s.toks + 51 }) (ps1 := POS) ?_ ?_
    · show Ev _ treeTable p w n₀ ann q (flush ka none) _ _ _ _ _
      unfold flush
      have : ka.isEmpty = false := by cases ka with | nil => simp at la; omega | cons _ _ => rfl
      rw [this, if_neg (by simp)]
      have := ev_subLong (s := s) (ps := ps) Ia (by omega) nda (by omega) (hble _ hn0)
      rw [ha] at this
      exact ev_bindp this ev_pure
    · rw [List.map_append]
      refine ev_le (i := 0 + 330 * m) ?_ (by omega)
      refine ev_chunks (j1 := 0) (s := s) (fun _ _ _ _ => rfl) hn0 h11 m b kb Ib hb (ents s.toks 3 a) 17 (s.toks + 51) [] hane ?_ ?_ ?_
      · rw [ents_hashes]; rw [← List.append_assoc] at nd; exact (List.nodup_append.mp nd).1
      · rw [ents_length]; omega
      · have e : ents s.toks 3 (a ++ b) = ents s.toks 3 a ++ ents (s.toks + 51) 3 b := by rw [ents_app_at ha]
        rw [e]
        simp only [List.nil_append]
        exact loop_short (fun _ _ _ _ => rfl) kc [] (by simp; omega)
  · dsimp only
    refine ev_bindp (a := some s.heap.objs.size) (s' := { s with heap := hp s.heap (D (ents s.toks 3 (a ++ b) ++ ents (s.toks + 3 * (a ++ b).length) 2 c) (a ++ (b ++ c)).length) (subsOf m (s.toks + 51) b ++ [D (ents (s.toks + 3 * (a ++ b).length) 2 c) c.length]), toks := s.toks + 3 * (a ++ (b ++ c)).length }) (ps' := POS) ?_ ev_pure
    show Ev _ treeTable p w n₀ ann q (flush kc (some s.heap.objs.size)) _ _ _ _ _
    have etok : s.toks + 51 + 3 * b.length = s.toks + 3 * (a ++ b).length := by rw [List.length_append]; omega
    have el : (ents (s.toks + 3 * (a ++ b).length) 2 c).length = c.length := ents_length _ _ _
    have := ev_flush (p := p) (w := w) (n₀ := n₀) (ann := ann) (q := q) (POS := POS) (s := s) (ps := POS) (h0 := s.heap) (subs := subsOf m (s.toks + 51) b) (l := ents s.toks 3 (a ++ b)) (n := 17 + b.length) (toks := s.toks + 3 * (a ++ b).length) (ixs := c) (kvs := kc) (D' := ents (s.toks + 3 * (a ++ b).length) 2 c)
      (fun s' ps ht hb => by
        have := ev_subShort (s := s') (ps := ps) Ic (by omega) hc0 ndc (items_bound Ic) hb
        rw [← ht, ents_length]
        exact this) ents_int (by cases kc with | nil => simp at lc; omega | cons _ _ => rfl) hn0 h11
      (by rw [ents_app_at ha]; simp [hane]) (by rw [ents_hashes, ents_hashes, List.map_append, List.append_assoc]; exact nd) (by rw [ents_length, ents_length, List.length_append]; omega)
    rw [etok]
    rw [el] at this
    rw [show (a ++ (b ++ c)).length = 17 + b.length + c.length by simp only [List.length_append]; omega]
    rw [show s.toks + 3 * (a ++ b).length + 3 * c.length = s.toks + 3 * (17 + b.length + c.length) by simp only [List.length_append]; omega] at this
    exact this
/-- the keys and values of a written table -/
noncomputable def keyI (k : Option Expr) : Option Int := match k with | some e => (match e with | .Constant c _ _ => (match c with | .int i => some i | _ => none) | _ => none) | none => none
noncomputable def valS (e : Expr) : Option Str := match e with | .Constant c _ _ => (match c with | .str x => some x | _ => none) | _ => none
noncomputable def astIx : List (Option Expr) → List Expr → List (Int × Str)
  | k :: ks, v :: vs => match keyI k with | some i => (match valS v with | some x => (i, x) :: astIx ks vs | none => []) | none => []
  | _, _ => []
noncomputable def astOk : List (Option Expr) → List Expr → Bool
  | k :: ks, v :: vs => match keyI k with | some i => (match valS v with | some _ => decide (0 ≤ i) && decide (i < 2 ^ 60) && astOk ks vs | none => false) | none => false
  | [], [] => true
  | _, _ => false
theorem keyI_eq {k : Option Expr} {i : Int} (h : keyI k = some i) : ∃ a b, k = some (.Constant (.int i) a b) := by
  cases k with
  | none => cases h
  | some e =>
    cases e <;> try cases h
    rename_i c a b
    cases c <;> try cases h
    exact ⟨a, b, rfl⟩
theorem valS_eq {e : Expr} {x : Str} (h : valS e = some x) : ∃ a b, e = .Constant (.str x) a b := by
  cases e <;> try cases h
  rename_i c a b
  cases c <;> try cases h
  exact ⟨a, b, rfl⟩
theorem items_ast (env : Env) (POS : Pos) : ∀ (ks : List (Option Expr)) (vs : List Expr), astOk ks vs = true →
    ∃ kvs, (evalEachOpt ks env).zip ((evalEach vs env).map fun v => do let x ← v; standAt POS; pure x) = kvs.map some1 ∧ Items p w n₀ ann q POS (astIx ks vs) kvs
  | [], [], _ => ⟨[], rfl, .nil⟩
  | [], _ :: _, h => nomatch h
  | _ :: _, [], h => nomatch h
  | k :: ks, v :: vs, h => by
    rw [astOk] at h
    rw [astIx]
    cases hk : keyI k with
    | none => rw [hk] at h; cases h
    | some i =>
    cases hv : valS v with
    | none => rw [hk, hv] at h; cases h
    | some x =>
    rw [hk, hv] at h
    dsimp only at h ⊢
    obtain ⟨a, b, rfl⟩ := keyI_eq hk
    obtain ⟨c, d, rfl⟩ := valS_eq hv
    simp only [Bool.and_eq_true, decide_eq_true_eq] at h
    obtain ⟨kvs, e, I⟩ := items_ast env POS ks vs h.2
    refine ⟨(mkInt i, do let x ← mkText x; standAt POS; pure x) :: kvs, ?_, .cons ⟨fun s ps => ?_, fun s ps => ?_, h.1.1, h.1.2⟩ I⟩
    · rw [List.map_cons, ← e]; rfl
    · exact ev_bind ev_fresh ev_pure
    · exact ev_bind (ev_bind ev_fresh ev_pure) (ev_bind ev_standAt ev_pure)
end
end M
end
section
open PySem PySem.W PyProof.Rows
set_option maxRecDepth 100000
namespace M
noncomputable section
noncomputable abbrev PR : Program := PySem.Challenge.pw_rl0133_02
noncomputable def stAt (i : Nat) : Stmt := match PR.main.body[i]? with | some s => s | none => .Pass ⟨0, 0, 0, 0⟩
noncomputable def pmAt (i : Nat) : Arguments := match stAt i with | .FunctionDef _ a _ _ _ _ _ _ _ _ => a | _ => ⟨[], [], none, [], [], none, []⟩
noncomputable def bdAt (i : Nat) : List Stmt := match stAt i with | .FunctionDef _ _ b _ _ _ _ _ _ _ => b | _ => []
noncomputable def scAt (i : Nat) : Scope := match stAt i with | .FunctionDef _ _ _ _ _ _ sc _ _ _ => sc | _ => default
noncomputable def fd (i : Nat) (name : Str) (g : Addr) (pm cd : Value) : FuncData :=
  { name := name, qualname := name, params := pmAt i, body := .stmts (bdAt i), scope := scAt i, globals := g, closure := [], defaults := .none, kwdefaults := .none, doc := .none, pyModule := pm, annotations := none, code := cd, closureTuple := .none, builtins := 0 }
noncomputable def b3K : List (Option Expr) := match stAt 11 with | .Assign _ (.Dict ks _ _) _ => ks | _ => []
noncomputable def b3V : List Expr := match stAt 11 with | .Assign _ (.Dict _ vs _) _ => vs | _ => []
noncomputable def b3I : List (Int × Str) := astIx b3K b3V
noncomputable def b3E : List DictEntry := ents 338 3 (b3I.take 646) ++ ents 2276 2 (b3I.drop 646)
noncomputable abbrev N := BT.node
noncomputable abbrev Z := BT.nil
noncomputable def L0 : Life := {}
noncomputable def o11 (P : Params) : Obj := ⟨.type "tuple", none, .seq #[] 0, #[]⟩
noncomputable def o13 (P : Params) : Obj := ⟨.type "code", none, .fields #[.str (Str.ofString "<module>") 182, .str (Str.ofString "<module>") 183, .str (Str.ofString "/claim/cut.py") 184, .int 1 0, .int 0 0, .int 0 0, .int 0 0, .int 0 0, .ref 11, .bool false, .int 181 0, .ref 12, .none, .none, .none, .none, .int 185 0, .int 1 0, .str (Str.ofString "/claim/cut.py") 186], #[]⟩
noncomputable def o14 (P : Params) : Obj := ⟨.type "frame", none, .plain, #[some (.ref 13), some (.ref 3), some (.ref 3), none, some (.str (Str.ofString "__main__") 164), none, some (.ref 0)]⟩
noncomputable def o15 (P : Params) : Obj := ⟨.type "tuple", none, .seq #[] 0, #[]⟩
noncomputable def o16 (P : Params) : Obj := ⟨.none, none, .fields #[], #[]⟩
noncomputable def o17 (P : Params) : Obj := ⟨.type "tuple", none, .seq #[.str (Str.ofString "a") 194, .str (Str.ofString "b") 195, .str (Str.ofString "n") 196, .str (Str.ofString "pad") 197, .str (Str.ofString "half_n") 198, .str (Str.ofString "mask") 199, .str (Str.ofString "b1") 200, .str (Str.ofString "b2") 201, .str (Str.ofString "q1") 202, .str (Str.ofString "r") 203, .str (Str.ofString "q2") 204] 0, #[]⟩
noncomputable def o18 (P : Params) : Obj := ⟨.type "tuple", none, .seq #[] 0, #[]⟩
noncomputable def o19 (P : Params) : Obj := ⟨.none, none, .func (fd 2 (Str.ofString "_div2n1n") 0 (.none) (.none)), #[]⟩
noncomputable def o20 (P : Params) : Obj := ⟨.type "code", none, .fields #[.str (Str.ofString "_div2n1n") 191, .str (Str.ofString "_div2n1n") 192, .str (Str.ofString "/claim/cut.py") 193, .int 3 0, .int 3 0, .int 0 0, .int 0 0, .int 3 0, .ref 15, .bool true, .int 181 0, .ref 16, .none, .ref 17, .ref 18, .ref 19, .int 205 0, .int 3 0, .str (Str.ofString "/claim/cut.py") 206], #[]⟩
noncomputable def o21 (P : Params) : Obj := ⟨.type "function", none, .func (fd 2 (Str.ofString "_div2n1n") 3 (.str (Str.ofString "cpy313._pylong") 187) (.ref 20)), #[]⟩
noncomputable def o22 (P : Params) : Obj := ⟨.type "tuple", none, .seq #[] 0, #[]⟩
noncomputable def o23 (P : Params) : Obj := ⟨.none, none, .fields #[], #[]⟩
noncomputable def o24 (P : Params) : Obj := ⟨.type "tuple", none, .seq #[.str (Str.ofString "a12") 211, .str (Str.ofString "a3") 212, .str (Str.ofString "b") 213, .str (Str.ofString "b1") 214, .str (Str.ofString "b2") 215, .str (Str.ofString "n") 216, .str (Str.ofString "q") 217, .str (Str.ofString "r") 218] 0, #[]⟩
noncomputable def o25 (P : Params) : Obj := ⟨.type "tuple", none, .seq #[] 0, #[]⟩
noncomputable def o26 (P : Params) : Obj := ⟨.none, none, .func (fd 3 (Str.ofString "_div3n2n") 0 (.none) (.none)), #[]⟩
noncomputable def o27 (P : Params) : Obj := ⟨.type "code", none, .fields #[.str (Str.ofString "_div3n2n") 208, .str (Str.ofString "_div3n2n") 209, .str (Str.ofString "/claim/cut.py") 210, .int 19 0, .int 6 0, .int 0 0, .int 0 0, .int 3 0, .ref 22, .bool true, .int 181 0, .ref 23, .none, .ref 24, .ref 25, .ref 26, .int 219 0, .int 19 0, .str (Str.ofString "/claim/cut.py") 220], #[]⟩
noncomputable def o28 (P : Params) : Obj := ⟨.type "function", none, .func (fd 3 (Str.ofString "_div3n2n") 3 (.str (Str.ofString "cpy313._pylong") 187) (.ref 27)), #[]⟩
noncomputable def o29 (P : Params) : Obj := ⟨.type "tuple", none, .seq #[] 0, #[]⟩
noncomputable def o30 (P : Params) : Obj := ⟨.none, none, .fields #[], #[]⟩
noncomputable def o31 (P : Params) : Obj := ⟨.type "tuple", none, .seq #[.str (Str.ofString "a") 225, .str (Str.ofString "n") 226] 0, #[]⟩
noncomputable def o32 (P : Params) : Obj := ⟨.type "tuple", none, .seq #[.str (Str.ofString "n") 227, .str (Str.ofString "a_digits") 228, .str (Str.ofString "inner") 229] 0, #[]⟩
noncomputable def o33 (P : Params) : Obj := ⟨.none, none, .func (fd 4 (Str.ofString "_int2digits") 0 (.none) (.none)), #[]⟩
noncomputable def o34 (P : Params) : Obj := ⟨.type "code", none, .fields #[.str (Str.ofString "_int2digits") 222, .str (Str.ofString "_int2digits") 223, .str (Str.ofString "/claim/cut.py") 224, .int 29 0, .int 2 0, .int 0 0, .int 0 0, .int 3 0, .ref 29, .bool true, .int 181 0, .ref 30, .none, .ref 31, .ref 32, .ref 33, .int 230 0, .int 29 0, .str (Str.ofString "/claim/cut.py") 231], #[]⟩
noncomputable def o35 (P : Params) : Obj := ⟨.type "function", none, .func (fd 4 (Str.ofString "_int2digits") 3 (.str (Str.ofString "cpy313._pylong") 187) (.ref 34)), #[]⟩
noncomputable def o36 (P : Params) : Obj := ⟨.type "tuple", none, .seq #[] 0, #[]⟩
noncomputable def o37 (P : Params) : Obj := ⟨.none, none, .fields #[], #[]⟩
noncomputable def o38 (P : Params) : Obj := ⟨.type "tuple", none, .seq #[.str (Str.ofString "digits") 236, .str (Str.ofString "n") 237] 0, #[]⟩
noncomputable def o39 (P : Params) : Obj := ⟨.type "tuple", none, .seq #[.str (Str.ofString "digits") 238, .str (Str.ofString "n") 239, .str (Str.ofString "inner") 240] 0, #[]⟩
noncomputable def o40 (P : Params) : Obj := ⟨.none, none, .func (fd 5 (Str.ofString "_digits2int") 0 (.none) (.none)), #[]⟩
noncomputable def o41 (P : Params) : Obj := ⟨.type "code", none, .fields #[.str (Str.ofString "_digits2int") 233, .str (Str.ofString "_digits2int") 234, .str (Str.ofString "/claim/cut.py") 235, .int 45 0, .int 2 0, .int 0 0, .int 0 0, .int 3 0, .ref 36, .bool true, .int 181 0, .ref 37, .none, .ref 38, .ref 39, .ref 40, .int 241 0, .int 45 0, .str (Str.ofString "/claim/cut.py") 242], #[]⟩
noncomputable def o42 (P : Params) : Obj := ⟨.type "function", none, .func (fd 5 (Str.ofString "_digits2int") 3 (.str (Str.ofString "cpy313._pylong") 187) (.ref 41)), #[]⟩
noncomputable def o43 (P : Params) : Obj := ⟨.type "tuple", none, .seq #[] 0, #[]⟩
noncomputable def o44 (P : Params) : Obj := ⟨.none, none, .fields #[], #[]⟩
noncomputable def o45 (P : Params) : Obj := ⟨.type "tuple", none, .seq #[.str (Str.ofString "a") 247, .str (Str.ofString "b") 248, .str (Str.ofString "n") 249, .str (Str.ofString "a_digits") 250, .str (Str.ofString "r") 251, .str (Str.ofString "q_digits") 252, .str (Str.ofString "a_digit") 253, .str (Str.ofString "q_digit") 254, .str (Str.ofString "q") 255] 0, #[]⟩
noncomputable def o46 (P : Params) : Obj := ⟨.type "tuple", none, .seq #[] 0, #[]⟩
noncomputable def o47 (P : Params) : Obj := ⟨.none, none, .func (fd 6 (Str.ofString "_divmod_pos") 0 (.none) (.none)), #[]⟩
noncomputable def o48 (P : Params) : Obj := ⟨.type "code", none, .fields #[.str (Str.ofString "_divmod_pos") 244, .str (Str.ofString "_divmod_pos") 245, .str (Str.ofString "/claim/cut.py") 246, .int 54 0, .int 2 0, .int 0 0, .int 0 0, .int 3 0, .ref 43, .bool true, .int 181 0, .ref 44, .none, .ref 45, .ref 46, .ref 47, .int 256 0, .int 54 0, .str (Str.ofString "/claim/cut.py") 257], #[]⟩
noncomputable def o49 (P : Params) : Obj := ⟨.type "function", none, .func (fd 6 (Str.ofString "_divmod_pos") 3 (.str (Str.ofString "cpy313._pylong") 187) (.ref 48)), #[]⟩
noncomputable def o50 (P : Params) : Obj := ⟨.type "tuple", none, .seq #[] 0, #[]⟩
noncomputable def o51 (P : Params) : Obj := ⟨.none, none, .fields #[], #[]⟩
noncomputable def o52 (P : Params) : Obj := ⟨.type "tuple", none, .seq #[.str (Str.ofString "a") 262, .str (Str.ofString "b") 263, .str (Str.ofString "q") 264, .str (Str.ofString "r") 265] 0, #[]⟩
noncomputable def o53 (P : Params) : Obj := ⟨.type "tuple", none, .seq #[] 0, #[]⟩
noncomputable def o54 (P : Params) : Obj := ⟨.none, none, .func (fd 7 (Str.ofString "int_divmod") 0 (.none) (.none)), #[]⟩
noncomputable def o55 (P : Params) : Obj := ⟨.type "code", none, .fields #[.str (Str.ofString "int_divmod") 259, .str (Str.ofString "int_divmod") 260, .str (Str.ofString "/claim/cut.py") 261, .int 65 0, .int 2 0, .int 0 0, .int 0 0, .int 3 0, .ref 50, .bool true, .int 181 0, .ref 51, .none, .ref 52, .ref 53, .ref 54, .int 266 0, .int 65 0, .str (Str.ofString "/claim/cut.py") 267], #[]⟩
noncomputable def o56 (P : Params) : Obj := ⟨.type "function", none, .func (fd 7 (Str.ofString "int_divmod") 3 (.str (Str.ofString "cpy313._pylong") 187) (.ref 55)), #[]⟩
noncomputable def o57 (P : Params) : Obj := ⟨.type "list", none, .seq #[.int 173 271, .int 847 272, .int 6150 273, .int 6155 274, .int 6156 275, .int 6157 276, .int 8203 277, .int 8204 278, .int 8205 279, .int 8288 280, .int 65279 281] 0, #[]⟩
noncomputable def o58 (P : Params) : Obj := ⟨.type "range", none, .fields #[.int 65024 282, .int 65040 283, .int 1 284], #[]⟩
noncomputable def o59 (P : Params) : Obj := ⟨.type "list", none, .seq #[.int 65024 287, .int 65025 288, .int 65026 289, .int 65027 290, .int 65028 291, .int 65029 292, .int 65030 293, .int 65031 294, .int 65032 295, .int 65033 296, .int 65034 297, .int 65035 298, .int 65036 299, .int 65037 300, .int 65038 301, .int 65039 302] 18, #[]⟩
noncomputable def o60 (P : Params) : Obj := ⟨.type "range_iterator", none, .fields #[.int 65040 0, .int 0 0, .int 1 0], #[]⟩
noncomputable def o61 (P : Params) : Obj := ⟨.type "tuple", none, .seq #[] 0, #[]⟩
noncomputable def o62 (P : Params) : Obj := ⟨.type "StopIteration", none, .fields #[.ref 61, .none, .none, .none, .bool false, .none], #[]⟩
noncomputable def o63 (P : Params) : Obj := ⟨.type "list", none, .seq #[.int 173 271, .int 847 272, .int 6150 273, .int 6155 274, .int 6156 275, .int 6157 276, .int 8203 277, .int 8204 278, .int 8205 279, .int 8288 280, .int 65279 281, .int 65024 287, .int 65025 288, .int 65026 289, .int 65027 290, .int 65028 291, .int 65029 292, .int 65030 293, .int 65031 294, .int 65032 295, .int 65033 296, .int 65034 297, .int 65035 298, .int 65036 299, .int 65037 300, .int 65038 301, .int 65039 302] 0, #[]⟩
noncomputable def o64 (P : Params) : Obj := ⟨.type "set", none, .set #[(65024, .int 65024 287), (65025, .int 65025 288), (65026, .int 65026 289), (65027, .int 65027 290), (65028, .int 65028 291), (65029, .int 65029 292), (6150, .int 6150 273), (65030, .int 65030 293), (65031, .int 65031 294), (65032, .int 65032 295), (65033, .int 65033 296), (6155, .int 6155 274), (6156, .int 6156 275), (6157, .int 6157 276), (8203, .int 8203 277), (8204, .int 8204 278), (8205, .int 8205 279), (65034, .int 65034 297), (65035, .int 65035 298), (65036, .int 65036 299), (65037, .int 65037 300), (65038, .int 65038 301), (65039, .int 65039 302), (173, .int 173 271), (847, .int 847 272), (8288, .int 8288 280), (65279, .int 65279 281)] 29 ⟨127, #[0, 1, 2, 3, 4, 5, 6, 7, 8, 9, 10, 11, 12, 13, 14, 15, 16, 17, 18, 19, 20, 21, 22, 45, 79, 96, 127], #[], 0, !P.followText "set-order", 2, true⟩, #[]⟩
noncomputable def o65 (P : Params) : Obj := ⟨.type "list_iterator", none, .fields #[.none, .int 27 0], #[]⟩
noncomputable def o66 (P : Params) : Obj := ⟨.type "tuple", none, .seq #[] 0, #[]⟩
noncomputable def o67 (P : Params) : Obj := ⟨.type "StopIteration", none, .fields #[.ref 66, .none, .none, .none, .bool false, .none], #[]⟩
noncomputable def o68 (P : Params) : Obj := ⟨.type "tuple", none, .seq #[] 0, #[]⟩
noncomputable def o69 (P : Params) : Obj := ⟨.none, none, .fields #[], #[]⟩
noncomputable def o70 (P : Params) : Obj := ⟨.type "tuple", none, .seq #[.str (Str.ofString "code") 334] 0, #[]⟩
noncomputable def o71 (P : Params) : Obj := ⟨.type "tuple", none, .seq #[] 0, #[]⟩
noncomputable def o72 (P : Params) : Obj := ⟨.none, none, .func (fd 10 (Str.ofString "in_table_b1") 0 (.none) (.none)), #[]⟩
noncomputable def o73 (P : Params) : Obj := ⟨.type "code", none, .fields #[.str (Str.ofString "in_table_b1") 331, .str (Str.ofString "in_table_b1") 332, .str (Str.ofString "/claim/cut.py") 333, .int 78 0, .int 1 0, .int 0 0, .int 0 0, .int 3 0, .ref 68, .bool true, .int 181 0, .ref 69, .none, .ref 70, .ref 71, .ref 72, .int 335 0, .int 78 0, .str (Str.ofString "/claim/cut.py") 336], #[]⟩
noncomputable def o74 (P : Params) : Obj := ⟨.type "function", none, .func (fd 10 (Str.ofString "in_table_b1") 3 (.str (Str.ofString "cpy313.stringprep") 269) (.ref 73)), #[]⟩
noncomputable def o75 (_ : Params) : Obj := ⟨.type "dict", none, .dict (b3E.toArray) 650, #[]⟩
noncomputable def o76 (_ : Params) : Obj := ⟨.type "dict", none, .dict ((b3E.drop 17).take 17).toArray 17, #[]⟩
noncomputable def o77 (_ : Params) : Obj := ⟨.type "dict", none, .dict ((b3E.drop 34).take 17).toArray 17, #[]⟩
noncomputable def o78 (_ : Params) : Obj := ⟨.type "dict", none, .dict ((b3E.drop 51).take 17).toArray 17, #[]⟩
noncomputable def o79 (_ : Params) : Obj := ⟨.type "dict", none, .dict ((b3E.drop 68).take 17).toArray 17, #[]⟩
noncomputable def o80 (_ : Params) : Obj := ⟨.type "dict", none, .dict ((b3E.drop 85).take 17).toArray 17, #[]⟩
noncomputable def o81 (_ : Params) : Obj := ⟨.type "dict", none, .dict ((b3E.drop 102).take 17).toArray 17, #[]⟩
noncomputable def o82 (_ : Params) : Obj := ⟨.type "dict", none, .dict ((b3E.drop 119).take 17).toArray 17, #[]⟩
noncomputable def o83 (_ : Params) : Obj := ⟨.type "dict", none, .dict ((b3E.drop 136).take 17).toArray 17, #[]⟩
noncomputable def o84 (_ : Params) : Obj := ⟨.type "dict", none, .dict ((b3E.drop 153).take 17).toArray 17, #[]⟩
noncomputable def o85 (_ : Params) : Obj := ⟨.type "dict", none, .dict ((b3E.drop 170).take 17).toArray 17, #[]⟩
noncomputable def o86 (_ : Params) : Obj := ⟨.type "dict", none, .dict ((b3E.drop 187).take 17).toArray 17, #[]⟩
noncomputable def o87 (_ : Params) : Obj := ⟨.type "dict", none, .dict ((b3E.drop 204).take 17).toArray 17, #[]⟩
noncomputable def o88 (_ : Params) : Obj := ⟨.type "dict", none, .dict ((b3E.drop 221).take 17).toArray 17, #[]⟩
noncomputable def o89 (_ : Params) : Obj := ⟨.type "dict", none, .dict ((b3E.drop 238).take 17).toArray 17, #[]⟩
noncomputable def o90 (_ : Params) : Obj := ⟨.type "dict", none, .dict ((b3E.drop 255).take 17).toArray 17, #[]⟩
noncomputable def o91 (_ : Params) : Obj := ⟨.type "dict", none, .dict ((b3E.drop 272).take 17).toArray 17, #[]⟩
noncomputable def o92 (_ : Params) : Obj := ⟨.type "dict", none, .dict ((b3E.drop 289).take 17).toArray 17, #[]⟩
noncomputable def o93 (_ : Params) : Obj := ⟨.type "dict", none, .dict ((b3E.drop 306).take 17).toArray 17, #[]⟩
noncomputable def o94 (_ : Params) : Obj := ⟨.type "dict", none, .dict ((b3E.drop 323).take 17).toArray 17, #[]⟩
noncomputable def o95 (_ : Params) : Obj := ⟨.type "dict", none, .dict ((b3E.drop 340).take 17).toArray 17, #[]⟩
noncomputable def o96 (_ : Params) : Obj := ⟨.type "dict", none, .dict ((b3E.drop 357).take 17).toArray 17, #[]⟩
noncomputable def o97 (_ : Params) : Obj := ⟨.type "dict", none, .dict ((b3E.drop 374).take 17).toArray 17, #[]⟩
noncomputable def o98 (_ : Params) : Obj := ⟨.type "dict", none, .dict ((b3E.drop 391).take 17).toArray 17, #[]⟩
noncomputable def o99 (_ : Params) : Obj := ⟨.type "dict", none, .dict ((b3E.drop 408).take 17).toArray 17, #[]⟩
noncomputable def o100 (_ : Params) : Obj := ⟨.type "dict", none, .dict ((b3E.drop 425).take 17).toArray 17, #[]⟩
noncomputable def o101 (_ : Params) : Obj := ⟨.type "dict", none, .dict ((b3E.drop 442).take 17).toArray 17, #[]⟩
noncomputable def o102 (_ : Params) : Obj := ⟨.type "dict", none, .dict ((b3E.drop 459).take 17).toArray 17, #[]⟩
noncomputable def o103 (_ : Params) : Obj := ⟨.type "dict", none, .dict ((b3E.drop 476).take 17).toArray 17, #[]⟩
noncomputable def o104 (_ : Params) : Obj := ⟨.type "dict", none, .dict ((b3E.drop 493).take 17).toArray 17, #[]⟩
noncomputable def o105 (_ : Params) : Obj := ⟨.type "dict", none, .dict ((b3E.drop 510).take 17).toArray 17, #[]⟩
noncomputable def o106 (_ : Params) : Obj := ⟨.type "dict", none, .dict ((b3E.drop 527).take 17).toArray 17, #[]⟩
noncomputable def o107 (_ : Params) : Obj := ⟨.type "dict", none, .dict ((b3E.drop 544).take 17).toArray 17, #[]⟩
noncomputable def o108 (_ : Params) : Obj := ⟨.type "dict", none, .dict ((b3E.drop 561).take 17).toArray 17, #[]⟩
noncomputable def o109 (_ : Params) : Obj := ⟨.type "dict", none, .dict ((b3E.drop 578).take 17).toArray 17, #[]⟩
noncomputable def o110 (_ : Params) : Obj := ⟨.type "dict", none, .dict ((b3E.drop 595).take 17).toArray 17, #[]⟩
noncomputable def o111 (_ : Params) : Obj := ⟨.type "dict", none, .dict ((b3E.drop 612).take 17).toArray 17, #[]⟩
noncomputable def o112 (_ : Params) : Obj := ⟨.type "dict", none, .dict ((b3E.drop 629).take 17).toArray 17, #[]⟩
noncomputable def o113 (_ : Params) : Obj := ⟨.type "dict", none, .dict ((b3E.drop 646).take 4).toArray 4, #[]⟩
noncomputable def o114 (P : Params) : Obj := ⟨.type "tuple", none, .seq #[] 0, #[]⟩
noncomputable def o115 (P : Params) : Obj := ⟨.none, none, .fields #[], #[]⟩
noncomputable def o116 (P : Params) : Obj := ⟨.type "tuple", none, .seq #[.str (Str.ofString "code") 2292, .str (Str.ofString "r") 2293] 0, #[]⟩
noncomputable def o117 (P : Params) : Obj := ⟨.type "tuple", none, .seq #[] 0, #[]⟩
noncomputable def o118 (P : Params) : Obj := ⟨.none, none, .func (fd 12 (Str.ofString "map_table_b3") 0 (.none) (.none)), #[]⟩
noncomputable def o119 (P : Params) : Obj := ⟨.type "code", none, .fields #[.str (Str.ofString "map_table_b3") 2289, .str (Str.ofString "map_table_b3") 2290, .str (Str.ofString "/claim/cut.py") 2291, .int 81 0, .int 1 0, .int 0 0, .int 0 0, .int 3 0, .ref 114, .bool true, .int 181 0, .ref 115, .none, .ref 116, .ref 117, .ref 118, .int 2294 0, .int 81 0, .str (Str.ofString "/claim/cut.py") 2295], #[]⟩
noncomputable def o120 (P : Params) : Obj := ⟨.type "function", none, .func (fd 12 (Str.ofString "map_table_b3") 3 (.str (Str.ofString "cpy313.stringprep") 269) (.ref 119)), #[]⟩
noncomputable def o121 (P : Params) : Obj := ⟨.type "dict", none, .dict #[⟨PyData.keyHash P (Str.ofString "!"), .str (Str.ofString "!") 2397, .int 54 2395⟩, ⟨PyData.keyHash P (Str.ofString "!="), .str (Str.ofString "!=") 2399, .int 28 2343⟩, ⟨PyData.keyHash P (Str.ofString "%"), .str (Str.ofString "%") 2401, .int 24 2335⟩, ⟨PyData.keyHash P (Str.ofString "%="), .str (Str.ofString "%=") 2403, .int 40 2367⟩, ⟨PyData.keyHash P (Str.ofString "&"), .str (Str.ofString "&") 2405, .int 19 2325⟩, ⟨PyData.keyHash P (Str.ofString "&="), .str (Str.ofString "&=") 2407, .int 41 2369⟩, ⟨PyData.keyHash P (Str.ofString "("), .str (Str.ofString "(") 2409, .int 7 2301⟩, ⟨PyData.keyHash P (Str.ofString ")"), .str (Str.ofString ")") 2411, .int 8 2303⟩, ⟨PyData.keyHash P (Str.ofString "*"), .str (Str.ofString "*") 2413, .int 16 2319⟩, ⟨PyData.keyHash P (Str.ofString "**"), .str (Str.ofString "**") 2415, .int 35 2357⟩, ⟨PyData.keyHash P (Str.ofString "**="), .str (Str.ofString "**=") 2417, .int 46 2379⟩, ⟨PyData.keyHash P (Str.ofString "*="), .str (Str.ofString "*=") 2419, .int 38 2363⟩, ⟨PyData.keyHash P (Str.ofString "+"), .str (Str.ofString "+") 2421, .int 14 2315⟩, ⟨PyData.keyHash P (Str.ofString "+="), .str (Str.ofString "+=") 2423, .int 36 2359⟩, ⟨PyData.keyHash P (Str.ofString ","), .str (Str.ofString ",") 2425, .int 12 2311⟩, ⟨PyData.keyHash P (Str.ofString "-"), .str (Str.ofString "-") 2427, .int 15 2317⟩, ⟨PyData.keyHash P (Str.ofString "-="), .str (Str.ofString "-=") 2429, .int 37 2361⟩, ⟨PyData.keyHash P (Str.ofString "->"), .str (Str.ofString "->") 2431, .int 51 2389⟩, ⟨PyData.keyHash P (Str.ofString "."), .str (Str.ofString ".") 2433, .int 23 2333⟩, ⟨PyData.keyHash P (Str.ofString "..."), .str (Str.ofString "...") 2435, .int 52 2391⟩, ⟨PyData.keyHash P (Str.ofString "/"), .str (Str.ofString "/") 2437, .int 17 2321⟩, ⟨PyData.keyHash P (Str.ofString "//"), .str (Str.ofString "//") 2439, .int 47 2381⟩, ⟨PyData.keyHash P (Str.ofString "//="), .str (Str.ofString "//=") 2441, .int 48 2383⟩, ⟨PyData.keyHash P (Str.ofString "/="), .str (Str.ofString "/=") 2443, .int 39 2365⟩, ⟨PyData.keyHash P (Str.ofString ":"), .str (Str.ofString ":") 2445, .int 11 2309⟩, ⟨PyData.keyHash P (Str.ofString ":="), .str (Str.ofString ":=") 2447, .int 53 2393⟩, ⟨PyData.keyHash P (Str.ofString ";"), .str (Str.ofString ";") 2449, .int 13 2313⟩, ⟨PyData.keyHash P (Str.ofString "<"), .str (Str.ofString "<") 2451, .int 20 2327⟩, ⟨PyData.keyHash P (Str.ofString "<<"), .str (Str.ofString "<<") 2453, .int 33 2353⟩, ⟨PyData.keyHash P (Str.ofString "<<="), .str (Str.ofString "<<=") 2455, .int 44 2375⟩, ⟨PyData.keyHash P (Str.ofString "<="), .str (Str.ofString "<=") 2457, .int 29 2345⟩, ⟨PyData.keyHash P (Str.ofString "="), .str (Str.ofString "=") 2459, .int 22 2331⟩, ⟨PyData.keyHash P (Str.ofString "=="), .str (Str.ofString "==") 2461, .int 27 2341⟩, ⟨PyData.keyHash P (Str.ofString ">"), .str (Str.ofString ">") 2463, .int 21 2329⟩, ⟨PyData.keyHash P (Str.ofString ">="), .str (Str.ofString ">=") 2465, .int 30 2347⟩, ⟨PyData.keyHash P (Str.ofString ">>"), .str (Str.ofString ">>") 2466, .int 34 2355⟩, ⟨PyData.keyHash P (Str.ofString ">>="), .str (Str.ofString ">>=") 2467, .int 45 2377⟩, ⟨PyData.keyHash P (Str.ofString "@"), .str (Str.ofString "@") 2468, .int 49 2385⟩, ⟨PyData.keyHash P (Str.ofString "@="), .str (Str.ofString "@=") 2469, .int 50 2387⟩, ⟨PyData.keyHash P (Str.ofString "["), .str (Str.ofString "[") 2470, .int 9 2305⟩, ⟨PyData.keyHash P (Str.ofString "]"), .str (Str.ofString "]") 2471, .int 10 2307⟩, ⟨PyData.keyHash P (Str.ofString "^"), .str (Str.ofString "^") 2472, .int 32 2351⟩, ⟨PyData.keyHash P (Str.ofString "^="), .str (Str.ofString "^=") 2473, .int 43 2373⟩, ⟨PyData.keyHash P (Str.ofString "{"), .str (Str.ofString "{") 2474, .int 25 2337⟩, ⟨PyData.keyHash P (Str.ofString "|"), .str (Str.ofString "|") 2475, .int 18 2323⟩, ⟨PyData.keyHash P (Str.ofString "|="), .str (Str.ofString "|=") 2476, .int 42 2371⟩, ⟨PyData.keyHash P (Str.ofString "}"), .str (Str.ofString "}") 2477, .int 26 2339⟩, ⟨PyData.keyHash P (Str.ofString "~"), .str (Str.ofString "~") 2478, .int 31 2349⟩] 48, #[]⟩
noncomputable def o122 (P : Params) : Obj := ⟨.type "dict", none, .dict #[⟨PyData.keyHash P (Str.ofString "->"), .str (Str.ofString "->") 2431, .int 51 2389⟩, ⟨PyData.keyHash P (Str.ofString "."), .str (Str.ofString ".") 2433, .int 23 2333⟩, ⟨PyData.keyHash P (Str.ofString "..."), .str (Str.ofString "...") 2435, .int 52 2391⟩, ⟨PyData.keyHash P (Str.ofString "/"), .str (Str.ofString "/") 2437, .int 17 2321⟩, ⟨PyData.keyHash P (Str.ofString "//"), .str (Str.ofString "//") 2439, .int 47 2381⟩, ⟨PyData.keyHash P (Str.ofString "//="), .str (Str.ofString "//=") 2441, .int 48 2383⟩, ⟨PyData.keyHash P (Str.ofString "/="), .str (Str.ofString "/=") 2443, .int 39 2365⟩, ⟨PyData.keyHash P (Str.ofString ":"), .str (Str.ofString ":") 2445, .int 11 2309⟩, ⟨PyData.keyHash P (Str.ofString ":="), .str (Str.ofString ":=") 2447, .int 53 2393⟩, ⟨PyData.keyHash P (Str.ofString ";"), .str (Str.ofString ";") 2449, .int 13 2313⟩, ⟨PyData.keyHash P (Str.ofString "<"), .str (Str.ofString "<") 2451, .int 20 2327⟩, ⟨PyData.keyHash P (Str.ofString "<<"), .str (Str.ofString "<<") 2453, .int 33 2353⟩, ⟨PyData.keyHash P (Str.ofString "<<="), .str (Str.ofString "<<=") 2455, .int 44 2375⟩, ⟨PyData.keyHash P (Str.ofString "<="), .str (Str.ofString "<=") 2457, .int 29 2345⟩, ⟨PyData.keyHash P (Str.ofString "="), .str (Str.ofString "=") 2459, .int 22 2331⟩, ⟨PyData.keyHash P (Str.ofString "=="), .str (Str.ofString "==") 2461, .int 27 2341⟩, ⟨PyData.keyHash P (Str.ofString ">"), .str (Str.ofString ">") 2463, .int 21 2329⟩] 17, #[]⟩
noncomputable def o123 (P : Params) : Obj := ⟨.type "dict", none, .dict #[⟨PyData.keyHash P (Str.ofString ">="), .str (Str.ofString ">=") 2465, .int 30 2347⟩, ⟨PyData.keyHash P (Str.ofString ">>"), .str (Str.ofString ">>") 2466, .int 34 2355⟩, ⟨PyData.keyHash P (Str.ofString ">>="), .str (Str.ofString ">>=") 2467, .int 45 2377⟩, ⟨PyData.keyHash P (Str.ofString "@"), .str (Str.ofString "@") 2468, .int 49 2385⟩, ⟨PyData.keyHash P (Str.ofString "@="), .str (Str.ofString "@=") 2469, .int 50 2387⟩, ⟨PyData.keyHash P (Str.ofString "["), .str (Str.ofString "[") 2470, .int 9 2305⟩, ⟨PyData.keyHash P (Str.ofString "]"), .str (Str.ofString "]") 2471, .int 10 2307⟩, ⟨PyData.keyHash P (Str.ofString "^"), .str (Str.ofString "^") 2472, .int 32 2351⟩, ⟨PyData.keyHash P (Str.ofString "^="), .str (Str.ofString "^=") 2473, .int 43 2373⟩, ⟨PyData.keyHash P (Str.ofString "{"), .str (Str.ofString "{") 2474, .int 25 2337⟩, ⟨PyData.keyHash P (Str.ofString "|"), .str (Str.ofString "|") 2475, .int 18 2323⟩, ⟨PyData.keyHash P (Str.ofString "|="), .str (Str.ofString "|=") 2476, .int 42 2371⟩, ⟨PyData.keyHash P (Str.ofString "}"), .str (Str.ofString "}") 2477, .int 26 2339⟩, ⟨PyData.keyHash P (Str.ofString "~"), .str (Str.ofString "~") 2478, .int 31 2349⟩] 14, #[]⟩
noncomputable def o124 (P : Params) : Obj := ⟨.type "tuple", none, .seq #[] 0, #[]⟩
noncomputable def o125 (P : Params) : Obj := ⟨.none, none, .fields #[], #[]⟩
noncomputable def o126 (P : Params) : Obj := ⟨.type "tuple", none, .seq #[.str (Str.ofString "x") 2497] 0, #[]⟩
noncomputable def o127 (P : Params) : Obj := ⟨.type "tuple", none, .seq #[] 0, #[]⟩
noncomputable def o128 (P : Params) : Obj := ⟨.none, none, .func (fd 64 (Str.ofString "ISEOF") 0 (.none) (.none)), #[]⟩
noncomputable def o129 (P : Params) : Obj := ⟨.type "code", none, .fields #[.str (Str.ofString "ISEOF") 2494, .str (Str.ofString "ISEOF") 2495, .str (Str.ofString "/claim/cut.py") 2496, .int 137 0, .int 1 0, .int 0 0, .int 0 0, .int 3 0, .ref 124, .bool true, .int 181 0, .ref 125, .none, .ref 126, .ref 127, .ref 128, .int 2498 0, .int 137 0, .str (Str.ofString "/claim/cut.py") 2499], #[]⟩
noncomputable def o130 (P : Params) : Obj := ⟨.type "function", none, .func (fd 64 (Str.ofString "ISEOF") 3 (.str (Str.ofString "cpy313.token") 2297) (.ref 129)), #[]⟩
noncomputable def o131 (P : Params) : Obj := ⟨.type "tuple", none, .seq #[] 0, #[]⟩
noncomputable def o132 (P : Params) : Obj := ⟨.none, none, .fields #[], #[]⟩
noncomputable def o133 (P : Params) : Obj := ⟨.type "tuple", none, .seq #[.str (Str.ofString "script") 2506, .str (Str.ofString "cells") 2507, .str (Str.ofString "place") 2508] 0, #[]⟩
noncomputable def o134 (P : Params) : Obj := ⟨.type "tuple", none, .seq #[] 0, #[]⟩
noncomputable def o135 (P : Params) : Obj := ⟨.none, none, .func (fd 66 (Str.ofString "_law_cells") 0 (.none) (.none)), #[]⟩
noncomputable def o136 (P : Params) : Obj := ⟨.type "code", none, .fields #[.str (Str.ofString "_law_cells") 2503, .str (Str.ofString "_law_cells") 2504, .str (Str.ofString "/claim/cut.py") 2505, .int 140 0, .int 1 0, .int 0 0, .int 0 0, .int 3 0, .ref 131, .bool true, .int 181 0, .ref 132, .none, .ref 133, .ref 134, .ref 135, .int 2509 0, .int 140 0, .str (Str.ofString "/claim/cut.py") 2510], #[]⟩
noncomputable def o137 (P : Params) : Obj := ⟨.type "function", none, .func (fd 66 (Str.ofString "_law_cells") 3 (.str (Str.ofString "law_rl0133_02") 2501) (.ref 136)), #[]⟩
noncomputable def o138 (P : Params) : Obj := ⟨.type "tuple", none, .seq #[] 0, #[]⟩
noncomputable def o139 (P : Params) : Obj := ⟨.none, none, .fields #[], #[]⟩
noncomputable def o140 (P : Params) : Obj := ⟨.none, none, .func (fd 67 (Str.ofString "_law_prepared") 0 (.none) (.none)), #[]⟩
noncomputable def o141 (P : Params) : Obj := ⟨.type "code", none, .fields #[.str (Str.ofString "_law_prepared") 2512, .str (Str.ofString "_law_prepared") 2513, .str (Str.ofString "/claim/cut.py") 2514, .int 145 0, .int 3 0, .int 0 0, .int 0 0, .int 3 0, .ref 138, .bool true, .int 181 0, .ref 139, .none, .none, .none, .ref 140, .int 2515 0, .int 145 0, .str (Str.ofString "/claim/cut.py") 2516], #[]⟩
noncomputable def o142 (P : Params) : Obj := ⟨.type "function", none, .func (fd 67 (Str.ofString "_law_prepared") 3 (.str (Str.ofString "law_rl0133_02") 2501) (.ref 141)), #[]⟩
noncomputable def o143 (P : Params) : Obj := ⟨.type "tuple", none, .seq #[] 0, #[]⟩
noncomputable def o144 (P : Params) : Obj := ⟨.none, none, .fields #[], #[]⟩
noncomputable def o145 (P : Params) : Obj := ⟨.type "tuple", none, .seq #[.str (Str.ofString "text") 2521, .str (Str.ofString "worths") 2522, .str (Str.ofString "sums") 2523, .str (Str.ofString "end") 2524, .str (Str.ofString "total") 2525, .str (Str.ofString "size") 2526] 0, #[]⟩
noncomputable def o146 (P : Params) : Obj := ⟨.type "tuple", none, .seq #[] 0, #[]⟩
noncomputable def o147 (P : Params) : Obj := ⟨.none, none, .func (fd 68 (Str.ofString "_law_sum") 0 (.none) (.none)), #[]⟩
noncomputable def o148 (P : Params) : Obj := ⟨.type "code", none, .fields #[.str (Str.ofString "_law_sum") 2518, .str (Str.ofString "_law_sum") 2519, .str (Str.ofString "/claim/cut.py") 2520, .int 149 0, .int 2 0, .int 0 0, .int 0 0, .int 3 0, .ref 143, .bool true, .int 181 0, .ref 144, .none, .ref 145, .ref 146, .ref 147, .int 2527 0, .int 149 0, .str (Str.ofString "/claim/cut.py") 2528], #[]⟩
noncomputable def o149 (P : Params) : Obj := ⟨.type "function", none, .func (fd 68 (Str.ofString "_law_sum") 3 (.str (Str.ofString "law_rl0133_02") 2501) (.ref 148)), #[]⟩
noncomputable def o150 (P : Params) : Obj := ⟨.type "tuple", none, .seq #[] 0, #[]⟩
noncomputable def o151 (P : Params) : Obj := ⟨.none, none, .fields #[], #[]⟩
noncomputable def o152 (P : Params) : Obj := ⟨.type "tuple", none, .seq #[.str (Str.ofString "count") 2533, .str (Str.ofString "worths") 2534, .str (Str.ofString "older") 2535, .str (Str.ofString "newer") 2536, .str (Str.ofString "place") 2537] 0, #[]⟩
noncomputable def o153 (P : Params) : Obj := ⟨.type "tuple", none, .seq #[] 0, #[]⟩
noncomputable def o154 (P : Params) : Obj := ⟨.none, none, .func (fd 69 (Str.ofString "_law_told") 0 (.none) (.none)), #[]⟩
noncomputable def o155 (P : Params) : Obj := ⟨.type "code", none, .fields #[.str (Str.ofString "_law_told") 2530, .str (Str.ofString "_law_told") 2531, .str (Str.ofString "/claim/cut.py") 2532, .int 158 0, .int 2 0, .int 0 0, .int 0 0, .int 3 0, .ref 150, .bool true, .int 181 0, .ref 151, .none, .ref 152, .ref 153, .ref 154, .int 2538 0, .int 158 0, .str (Str.ofString "/claim/cut.py") 2539], #[]⟩
noncomputable def o156 (P : Params) : Obj := ⟨.type "function", none, .func (fd 69 (Str.ofString "_law_told") 3 (.str (Str.ofString "law_rl0133_02") 2501) (.ref 155)), #[]⟩
noncomputable def o157 (P : Params) : Obj := ⟨.type "tuple", none, .seq #[] 0, #[]⟩
noncomputable def o158 (P : Params) : Obj := ⟨.none, none, .fields #[], #[]⟩
noncomputable def o159 (P : Params) : Obj := ⟨.type "tuple", none, .seq #[.str (Str.ofString "upper") 2544, .str (Str.ofString "lower") 2545, .str (Str.ofString "turn") 2546] 0, #[]⟩
noncomputable def o160 (P : Params) : Obj := ⟨.type "tuple", none, .seq #[] 0, #[]⟩
noncomputable def o161 (P : Params) : Obj := ⟨.none, none, .func (fd 70 (Str.ofString "_law_measure") 0 (.none) (.none)), #[]⟩
noncomputable def o162 (P : Params) : Obj := ⟨.type "code", none, .fields #[.str (Str.ofString "_law_measure") 2541, .str (Str.ofString "_law_measure") 2542, .str (Str.ofString "/claim/cut.py") 2543, .int 163 0, .int 2 0, .int 0 0, .int 0 0, .int 3 0, .ref 157, .bool true, .int 181 0, .ref 158, .none, .ref 159, .ref 160, .ref 161, .int 2547 0, .int 163 0, .str (Str.ofString "/claim/cut.py") 2548], #[]⟩
noncomputable def o163 (P : Params) : Obj := ⟨.type "function", none, .func (fd 70 (Str.ofString "_law_measure") 3 (.str (Str.ofString "law_rl0133_02") 2501) (.ref 162)), #[]⟩
noncomputable def o164 (P : Params) : Obj := ⟨.type "tuple", none, .seq #[] 0, #[]⟩
noncomputable def o165 (P : Params) : Obj := ⟨.none, none, .fields #[], #[]⟩
noncomputable def o166 (P : Params) : Obj := ⟨.type "tuple", none, .seq #[.str (Str.ofString "upper") 2553, .str (Str.ofString "lower") 2554] 0, #[]⟩
noncomputable def o167 (P : Params) : Obj := ⟨.type "tuple", none, .seq #[] 0, #[]⟩
noncomputable def o168 (P : Params) : Obj := ⟨.none, none, .func (fd 71 (Str.ofString "_law_common") 0 (.none) (.none)), #[]⟩
noncomputable def o169 (P : Params) : Obj := ⟨.type "code", none, .fields #[.str (Str.ofString "_law_common") 2550, .str (Str.ofString "_law_common") 2551, .str (Str.ofString "/claim/cut.py") 2552, .int 168 0, .int 2 0, .int 0 0, .int 0 0, .int 3 0, .ref 164, .bool true, .int 181 0, .ref 165, .none, .ref 166, .ref 167, .ref 168, .int 2555 0, .int 168 0, .str (Str.ofString "/claim/cut.py") 2556], #[]⟩
noncomputable def o170 (P : Params) : Obj := ⟨.type "function", none, .func (fd 71 (Str.ofString "_law_common") 3 (.str (Str.ofString "law_rl0133_02") 2501) (.ref 169)), #[]⟩
noncomputable def o171 (P : Params) : Obj := ⟨.type "tuple", none, .seq #[] 0, #[]⟩
noncomputable def o172 (P : Params) : Obj := ⟨.none, none, .fields #[], #[]⟩
noncomputable def o173 (P : Params) : Obj := ⟨.type "tuple", none, .seq #[.str (Str.ofString "script") 2561, .str (Str.ofString "cells") 2562, .str (Str.ofString "sign") 2563, .str (Str.ofString "one") 2564, .str (Str.ofString "worths") 2565, .str (Str.ofString "first") 2566, .str (Str.ofString "second") 2567, .str (Str.ofString "m") 2568, .str (Str.ofString "n") 2569, .str (Str.ofString "answer") 2570, .str (Str.ofString "told") 2571] 0, #[]⟩
noncomputable def o174 (P : Params) : Obj := ⟨.type "tuple", none, .seq #[] 0, #[]⟩
noncomputable def o175 (P : Params) : Obj := ⟨.none, none, .func (fd 72 (Str.ofString "law") 0 (.none) (.none)), #[]⟩
noncomputable def o176 (P : Params) : Obj := ⟨.type "code", none, .fields #[.str (Str.ofString "law") 2558, .str (Str.ofString "law") 2559, .str (Str.ofString "/claim/cut.py") 2560, .int 172 0, .int 1 0, .int 0 0, .int 0 0, .int 3 0, .ref 171, .bool true, .int 181 0, .ref 172, .none, .ref 173, .ref 174, .ref 175, .int 2572 0, .int 172 0, .str (Str.ofString "/claim/cut.py") 2573], #[]⟩
noncomputable def o177 (P : Params) : Obj := ⟨.type "function", none, .func (fd 72 (Str.ofString "law") 3 (.str (Str.ofString "law_rl0133_02") 2501) (.ref 176)), #[]⟩
noncomputable def n0 (P : Params) : Obj := ⟨.type "dict", none, .dict #[⟨PyData.keyHash P (Str.ofString "__name__"), .str (Str.ofString "__name__") 165, .str (Str.ofString "__main__") 164⟩, ⟨PyData.keyHash P (Str.ofString "__doc__"), .str (Str.ofString "__doc__") 166, .none⟩, ⟨PyData.keyHash P (Str.ofString "__package__"), .str (Str.ofString "__package__") 167, .none⟩, ⟨PyData.keyHash P (Str.ofString "__loader__"), .str (Str.ofString "__loader__") 168, .builtin "__main__.__loader__#opaque"⟩, ⟨PyData.keyHash P (Str.ofString "__spec__"), .str (Str.ofString "__spec__") 169, .none⟩, ⟨PyData.keyHash P (Str.ofString "__annotations__"), .str (Str.ofString "__annotations__") 170, .ref 6⟩, ⟨PyData.keyHash P (Str.ofString "__builtins__"), .str (Str.ofString "__builtins__") 171, .ref 4⟩, ⟨PyData.keyHash P (Str.ofString "__file__"), .str (Str.ofString "__file__") 173, .str (Str.ofString "/claim/cut.py") 172⟩, ⟨PyData.keyHash P (Str.ofString "__cached__"), .str (Str.ofString "__cached__") 174, .none⟩] 9, #[]⟩
noncomputable def c0 (_ : Params) : Obj := ⟨.none, none, .fields #[], #[]⟩
noncomputable def t0 (P : Params) : BT := (N (boot_o_0 P) (N (boot_o_1 P) (N (n0 P) (N (boot_o_7 P) Z Z) (N (o11 P) Z Z)) (N (boot_o_5 P) (N (boot_o_9 P) Z Z) (N (o13 P) Z Z))) (N (boot_o_2 P) (N (boot_o_4 P) (N (boot_o_8 P) Z Z) (N (c0 P) Z Z)) (N (boot_o_6 P) (N (boot_o_10 P) Z Z) (N (o14 P) Z Z))))
noncomputable def s0 (w : World) (os : OsState) : SharedT := ⟨t0 w.params, 15, L0, #[], boot_drawn, 187, os⟩
noncomputable def p0 : Pos := ⟨0, 0, 0, 0⟩
noncomputable def n1 (P : Params) : Obj := ⟨.type "dict", none, .dict #[⟨PyData.keyHash P (Str.ofString "__name__"), .str (Str.ofString "__name__") 165, .str (Str.ofString "cpy313.stringprep") 269⟩, ⟨PyData.keyHash P (Str.ofString "__doc__"), .str (Str.ofString "__doc__") 166, .none⟩, ⟨PyData.keyHash P (Str.ofString "__package__"), .str (Str.ofString "__package__") 167, .none⟩, ⟨PyData.keyHash P (Str.ofString "__loader__"), .str (Str.ofString "__loader__") 168, .builtin "__main__.__loader__#opaque"⟩, ⟨PyData.keyHash P (Str.ofString "__spec__"), .str (Str.ofString "__spec__") 169, .none⟩, ⟨PyData.keyHash P (Str.ofString "__annotations__"), .str (Str.ofString "__annotations__") 170, .ref 6⟩, ⟨PyData.keyHash P (Str.ofString "__builtins__"), .str (Str.ofString "__builtins__") 171, .ref 4⟩, ⟨PyData.keyHash P (Str.ofString "__file__"), .str (Str.ofString "__file__") 173, .str (Str.ofString "/claim/cut.py") 172⟩, ⟨PyData.keyHash P (Str.ofString "__cached__"), .str (Str.ofString "__cached__") 174, .none⟩, ⟨PyData.keyHash P (Str.ofString "_DIV_LIMIT"), .str (Str.ofString "_DIV_LIMIT") 190, .int 4000 189⟩, ⟨PyData.keyHash P (Str.ofString "_div2n1n"), .str (Str.ofString "_div2n1n") 207, .ref 21⟩, ⟨PyData.keyHash P (Str.ofString "_div3n2n"), .str (Str.ofString "_div3n2n") 221, .ref 28⟩, ⟨PyData.keyHash P (Str.ofString "_int2digits"), .str (Str.ofString "_int2digits") 232, .ref 35⟩, ⟨PyData.keyHash P (Str.ofString "_digits2int"), .str (Str.ofString "_digits2int") 243, .ref 42⟩, ⟨PyData.keyHash P (Str.ofString "_divmod_pos"), .str (Str.ofString "_divmod_pos") 258, .ref 49⟩, ⟨PyData.keyHash P (Str.ofString "int_divmod"), .str (Str.ofString "int_divmod") 268, .ref 56⟩] 16, #[]⟩
noncomputable def c1 (_ : Params) : Obj := ⟨.none, none, .fields #[.int 3 0, .int 0 0, .ref 20, .int 19 0, .int 0 0, .ref 27, .int 29 0, .int 0 0, .ref 34, .int 45 0, .int 0 0, .ref 41, .int 54 0, .int 0 0, .ref 48, .int 65 0, .int 0 0, .ref 55], #[]⟩
noncomputable def t1 (P : Params) : BT := (N (boot_o_0 P) (N (boot_o_1 P) (N (n1 P) (N (boot_o_7 P) (N (o15 P) (N (o31 P) Z Z) (N (o47 P) Z Z)) (N (o23 P) (N (o39 P) Z Z) (N (o55 P) Z Z))) (N (o11 P) (N (o19 P) (N (o35 P) Z Z) (N (o51 P) Z Z)) (N (o27 P) (N (o43 P) Z Z) Z))) (N (boot_o_5 P) (N (boot_o_9 P) (N (o17 P) (N (o33 P) Z Z) (N (o49 P) Z Z)) (N (o25 P) (N (o41 P) Z Z) Z)) (N (o13 P) (N (o21 P) (N (o37 P) Z Z) (N (o53 P) Z Z)) (N (o29 P) (N (o45 P) Z Z) Z)))) (N (boot_o_2 P) (N (boot_o_4 P) (N (boot_o_8 P) (N (o16 P) (N (o32 P) Z Z) (N (o48 P) Z Z)) (N (o24 P) (N (o40 P) Z Z) (N (o56 P) Z Z))) (N (c1 P) (N (o20 P) (N (o36 P) Z Z) (N (o52 P) Z Z)) (N (o28 P) (N (o44 P) Z Z) Z))) (N (boot_o_6 P) (N (boot_o_10 P) (N (o18 P) (N (o34 P) Z Z) (N (o50 P) Z Z)) (N (o26 P) (N (o42 P) Z Z) Z)) (N (o14 P) (N (o22 P) (N (o38 P) Z Z) (N (o54 P) Z Z)) (N (o30 P) (N (o46 P) Z Z) Z)))))
noncomputable def s1 (w : World) (os : OsState) : SharedT := ⟨t1 w.params, 57, L0, #[], boot_drawn, 271, os⟩
noncomputable def p1 : Pos := ⟨76, 0, 76, 8⟩
noncomputable def n2 (P : Params) : Obj := ⟨.type "dict", none, .dict #[⟨PyData.keyHash P (Str.ofString "__name__"), .str (Str.ofString "__name__") 165, .str (Str.ofString "cpy313.stringprep") 269⟩, ⟨PyData.keyHash P (Str.ofString "__doc__"), .str (Str.ofString "__doc__") 166, .none⟩, ⟨PyData.keyHash P (Str.ofString "__package__"), .str (Str.ofString "__package__") 167, .none⟩, ⟨PyData.keyHash P (Str.ofString "__loader__"), .str (Str.ofString "__loader__") 168, .builtin "__main__.__loader__#opaque"⟩, ⟨PyData.keyHash P (Str.ofString "__spec__"), .str (Str.ofString "__spec__") 169, .none⟩, ⟨PyData.keyHash P (Str.ofString "__annotations__"), .str (Str.ofString "__annotations__") 170, .ref 6⟩, ⟨PyData.keyHash P (Str.ofString "__builtins__"), .str (Str.ofString "__builtins__") 171, .ref 4⟩, ⟨PyData.keyHash P (Str.ofString "__file__"), .str (Str.ofString "__file__") 173, .str (Str.ofString "/claim/cut.py") 172⟩, ⟨PyData.keyHash P (Str.ofString "__cached__"), .str (Str.ofString "__cached__") 174, .none⟩, ⟨PyData.keyHash P (Str.ofString "_DIV_LIMIT"), .str (Str.ofString "_DIV_LIMIT") 190, .int 4000 189⟩, ⟨PyData.keyHash P (Str.ofString "_div2n1n"), .str (Str.ofString "_div2n1n") 207, .ref 21⟩, ⟨PyData.keyHash P (Str.ofString "_div3n2n"), .str (Str.ofString "_div3n2n") 221, .ref 28⟩, ⟨PyData.keyHash P (Str.ofString "_int2digits"), .str (Str.ofString "_int2digits") 232, .ref 35⟩, ⟨PyData.keyHash P (Str.ofString "_digits2int"), .str (Str.ofString "_digits2int") 243, .ref 42⟩, ⟨PyData.keyHash P (Str.ofString "_divmod_pos"), .str (Str.ofString "_divmod_pos") 258, .ref 49⟩, ⟨PyData.keyHash P (Str.ofString "int_divmod"), .str (Str.ofString "int_divmod") 268, .ref 56⟩, ⟨PyData.keyHash P (Str.ofString "b1_set"), .str (Str.ofString "b1_set") 330, .ref 64⟩] 17, #[]⟩
noncomputable def c2 (_ : Params) : Obj := ⟨.none, none, .fields #[.int 3 0, .int 0 0, .ref 20, .int 19 0, .int 0 0, .ref 27, .int 29 0, .int 0 0, .ref 34, .int 45 0, .int 0 0, .ref 41, .int 54 0, .int 0 0, .ref 48, .int 65 0, .int 0 0, .ref 55], #[]⟩
noncomputable def t2 (P : Params) : BT := (N (boot_o_0 P) (N (boot_o_1 P) (N (n2 P) (N (boot_o_7 P) (N (o15 P) (N (o31 P) (N (o63 P) Z Z) Z) (N (o47 P) Z Z)) (N (o23 P) (N (o39 P) Z Z) (N (o55 P) Z Z))) (N (o11 P) (N (o19 P) (N (o35 P) (N (o67 P) Z Z) Z) (N (o51 P) Z Z)) (N (o27 P) (N (o43 P) Z Z) (N (o59 P) Z Z)))) (N (boot_o_5 P) (N (boot_o_9 P) (N (o17 P) (N (o33 P) (N (o65 P) Z Z) Z) (N (o49 P) Z Z)) (N (o25 P) (N (o41 P) Z Z) (N (o57 P) Z Z))) (N (o13 P) (N (o21 P) (N (o37 P) Z Z) (N (o53 P) Z Z)) (N (o29 P) (N (o45 P) Z Z) (N (o61 P) Z Z))))) (N (boot_o_2 P) (N (boot_o_4 P) (N (boot_o_8 P) (N (o16 P) (N (o32 P) (N (o64 P) Z Z) Z) (N (o48 P) Z Z)) (N (o24 P) (N (o40 P) Z Z) (N (o56 P) Z Z))) (N (c2 P) (N (o20 P) (N (o36 P) Z Z) (N (o52 P) Z Z)) (N (o28 P) (N (o44 P) Z Z) (N (o60 P) Z Z)))) (N (boot_o_6 P) (N (boot_o_10 P) (N (o18 P) (N (o34 P) (N (o66 P) Z Z) Z) (N (o50 P) Z Z)) (N (o26 P) (N (o42 P) Z Z) (N (o58 P) Z Z))) (N (o14 P) (N (o22 P) (N (o38 P) Z Z) (N (o54 P) Z Z)) (N (o30 P) (N (o46 P) Z Z) (N (o62 P) Z Z))))))
noncomputable def s2 (w : World) (os : OsState) : SharedT := ⟨t2 w.params, 68, L0, #[], boot_drawn, 331, os⟩
noncomputable def p2 : Pos := ⟨77, 0, 77, 6⟩
noncomputable def n3 (P : Params) : Obj := ⟨.type "dict", none, .dict #[⟨PyData.keyHash P (Str.ofString "__name__"), .str (Str.ofString "__name__") 165, .str (Str.ofString "cpy313.stringprep") 269⟩, ⟨PyData.keyHash P (Str.ofString "__doc__"), .str (Str.ofString "__doc__") 166, .none⟩, ⟨PyData.keyHash P (Str.ofString "__package__"), .str (Str.ofString "__package__") 167, .none⟩, ⟨PyData.keyHash P (Str.ofString "__loader__"), .str (Str.ofString "__loader__") 168, .builtin "__main__.__loader__#opaque"⟩, ⟨PyData.keyHash P (Str.ofString "__spec__"), .str (Str.ofString "__spec__") 169, .none⟩, ⟨PyData.keyHash P (Str.ofString "__annotations__"), .str (Str.ofString "__annotations__") 170, .ref 6⟩, ⟨PyData.keyHash P (Str.ofString "__builtins__"), .str (Str.ofString "__builtins__") 171, .ref 4⟩, ⟨PyData.keyHash P (Str.ofString "__file__"), .str (Str.ofString "__file__") 173, .str (Str.ofString "/claim/cut.py") 172⟩, ⟨PyData.keyHash P (Str.ofString "__cached__"), .str (Str.ofString "__cached__") 174, .none⟩, ⟨PyData.keyHash P (Str.ofString "_DIV_LIMIT"), .str (Str.ofString "_DIV_LIMIT") 190, .int 4000 189⟩, ⟨PyData.keyHash P (Str.ofString "_div2n1n"), .str (Str.ofString "_div2n1n") 207, .ref 21⟩, ⟨PyData.keyHash P (Str.ofString "_div3n2n"), .str (Str.ofString "_div3n2n") 221, .ref 28⟩, ⟨PyData.keyHash P (Str.ofString "_int2digits"), .str (Str.ofString "_int2digits") 232, .ref 35⟩, ⟨PyData.keyHash P (Str.ofString "_digits2int"), .str (Str.ofString "_digits2int") 243, .ref 42⟩, ⟨PyData.keyHash P (Str.ofString "_divmod_pos"), .str (Str.ofString "_divmod_pos") 258, .ref 49⟩, ⟨PyData.keyHash P (Str.ofString "int_divmod"), .str (Str.ofString "int_divmod") 268, .ref 56⟩, ⟨PyData.keyHash P (Str.ofString "b1_set"), .str (Str.ofString "b1_set") 330, .ref 64⟩, ⟨PyData.keyHash P (Str.ofString "in_table_b1"), .str (Str.ofString "in_table_b1") 337, .ref 74⟩] 18, #[]⟩
noncomputable def c3 (_ : Params) : Obj := ⟨.none, none, .fields #[.int 3 0, .int 0 0, .ref 20, .int 19 0, .int 0 0, .ref 27, .int 29 0, .int 0 0, .ref 34, .int 45 0, .int 0 0, .ref 41, .int 54 0, .int 0 0, .ref 48, .int 65 0, .int 0 0, .ref 55, .int 78 0, .int 0 0, .ref 73], #[]⟩
noncomputable def t3 (P : Params) : BT := (N (boot_o_0 P) (N (boot_o_1 P) (N (n3 P) (N (boot_o_7 P) (N (o15 P) (N (o31 P) (N (o63 P) Z Z) Z) (N (o47 P) Z Z)) (N (o23 P) (N (o39 P) (N (o71 P) Z Z) Z) (N (o55 P) Z Z))) (N (o11 P) (N (o19 P) (N (o35 P) (N (o67 P) Z Z) Z) (N (o51 P) Z Z)) (N (o27 P) (N (o43 P) Z Z) (N (o59 P) Z Z)))) (N (boot_o_5 P) (N (boot_o_9 P) (N (o17 P) (N (o33 P) (N (o65 P) Z Z) Z) (N (o49 P) Z Z)) (N (o25 P) (N (o41 P) (N (o73 P) Z Z) Z) (N (o57 P) Z Z))) (N (o13 P) (N (o21 P) (N (o37 P) (N (o69 P) Z Z) Z) (N (o53 P) Z Z)) (N (o29 P) (N (o45 P) Z Z) (N (o61 P) Z Z))))) (N (boot_o_2 P) (N (boot_o_4 P) (N (boot_o_8 P) (N (o16 P) (N (o32 P) (N (o64 P) Z Z) Z) (N (o48 P) Z Z)) (N (o24 P) (N (o40 P) (N (o72 P) Z Z) Z) (N (o56 P) Z Z))) (N (c3 P) (N (o20 P) (N (o36 P) (N (o68 P) Z Z) Z) (N (o52 P) Z Z)) (N (o28 P) (N (o44 P) Z Z) (N (o60 P) Z Z)))) (N (boot_o_6 P) (N (boot_o_10 P) (N (o18 P) (N (o34 P) (N (o66 P) Z Z) Z) (N (o50 P) Z Z)) (N (o26 P) (N (o42 P) (N (o74 P) Z Z) Z) (N (o58 P) Z Z))) (N (o14 P) (N (o22 P) (N (o38 P) (N (o70 P) Z Z) Z) (N (o54 P) Z Z)) (N (o30 P) (N (o46 P) Z Z) (N (o62 P) Z Z))))))
noncomputable def s3 (w : World) (os : OsState) : SharedT := ⟨t3 w.params, 75, L0, #[], boot_drawn, 338, os⟩
noncomputable def p3 : Pos := ⟨78, 0, 79, 30⟩
noncomputable def n4 (P : Params) : Obj := ⟨.type "dict", none, .dict #[⟨PyData.keyHash P (Str.ofString "__name__"), .str (Str.ofString "__name__") 165, .str (Str.ofString "cpy313.stringprep") 269⟩, ⟨PyData.keyHash P (Str.ofString "__doc__"), .str (Str.ofString "__doc__") 166, .none⟩, ⟨PyData.keyHash P (Str.ofString "__package__"), .str (Str.ofString "__package__") 167, .none⟩, ⟨PyData.keyHash P (Str.ofString "__loader__"), .str (Str.ofString "__loader__") 168, .builtin "__main__.__loader__#opaque"⟩, ⟨PyData.keyHash P (Str.ofString "__spec__"), .str (Str.ofString "__spec__") 169, .none⟩, ⟨PyData.keyHash P (Str.ofString "__annotations__"), .str (Str.ofString "__annotations__") 170, .ref 6⟩, ⟨PyData.keyHash P (Str.ofString "__builtins__"), .str (Str.ofString "__builtins__") 171, .ref 4⟩, ⟨PyData.keyHash P (Str.ofString "__file__"), .str (Str.ofString "__file__") 173, .str (Str.ofString "/claim/cut.py") 172⟩, ⟨PyData.keyHash P (Str.ofString "__cached__"), .str (Str.ofString "__cached__") 174, .none⟩, ⟨PyData.keyHash P (Str.ofString "_DIV_LIMIT"), .str (Str.ofString "_DIV_LIMIT") 190, .int 4000 189⟩, ⟨PyData.keyHash P (Str.ofString "_div2n1n"), .str (Str.ofString "_div2n1n") 207, .ref 21⟩, ⟨PyData.keyHash P (Str.ofString "_div3n2n"), .str (Str.ofString "_div3n2n") 221, .ref 28⟩, ⟨PyData.keyHash P (Str.ofString "_int2digits"), .str (Str.ofString "_int2digits") 232, .ref 35⟩, ⟨PyData.keyHash P (Str.ofString "_digits2int"), .str (Str.ofString "_digits2int") 243, .ref 42⟩, ⟨PyData.keyHash P (Str.ofString "_divmod_pos"), .str (Str.ofString "_divmod_pos") 258, .ref 49⟩, ⟨PyData.keyHash P (Str.ofString "int_divmod"), .str (Str.ofString "int_divmod") 268, .ref 56⟩, ⟨PyData.keyHash P (Str.ofString "b1_set"), .str (Str.ofString "b1_set") 330, .ref 64⟩, ⟨PyData.keyHash P (Str.ofString "in_table_b1"), .str (Str.ofString "in_table_b1") 337, .ref 74⟩, ⟨PyData.keyHash P (Str.ofString "b3_exceptions"), .str (Str.ofString "b3_exceptions") 2288, .ref 75⟩] 19, #[]⟩
noncomputable def c4 (_ : Params) : Obj := ⟨.none, none, .fields #[.int 3 0, .int 0 0, .ref 20, .int 19 0, .int 0 0, .ref 27, .int 29 0, .int 0 0, .ref 34, .int 45 0, .int 0 0, .ref 41, .int 54 0, .int 0 0, .ref 48, .int 65 0, .int 0 0, .ref 55, .int 78 0, .int 0 0, .ref 73], #[]⟩
noncomputable def t4 (P : Params) : BT := (N (boot_o_0 P) (N (boot_o_1 P) (N (n4 P) (N (boot_o_7 P) (N (o15 P) (N (o31 P) (N (o63 P) Z Z) (N (o95 P) Z Z)) (N (o47 P) (N (o79 P) Z Z) (N (o111 P) Z Z))) (N (o23 P) (N (o39 P) (N (o71 P) Z Z) (N (o103 P) Z Z)) (N (o55 P) (N (o87 P) Z Z) Z))) (N (o11 P) (N (o19 P) (N (o35 P) (N (o67 P) Z Z) (N (o99 P) Z Z)) (N (o51 P) (N (o83 P) Z Z) Z)) (N (o27 P) (N (o43 P) (N (o75 P) Z Z) (N (o107 P) Z Z)) (N (o59 P) (N (o91 P) Z Z) Z)))) (N (boot_o_5 P) (N (boot_o_9 P) (N (o17 P) (N (o33 P) (N (o65 P) Z Z) (N (o97 P) Z Z)) (N (o49 P) (N (o81 P) Z Z) (N (o113 P) Z Z))) (N (o25 P) (N (o41 P) (N (o73 P) Z Z) (N (o105 P) Z Z)) (N (o57 P) (N (o89 P) Z Z) Z))) (N (o13 P) (N (o21 P) (N (o37 P) (N (o69 P) Z Z) (N (o101 P) Z Z)) (N (o53 P) (N (o85 P) Z Z) Z)) (N (o29 P) (N (o45 P) (N (o77 P) Z Z) (N (o109 P) Z Z)) (N (o61 P) (N (o93 P) Z Z) Z))))) (N (boot_o_2 P) (N (boot_o_4 P) (N (boot_o_8 P) (N (o16 P) (N (o32 P) (N (o64 P) Z Z) (N (o96 P) Z Z)) (N (o48 P) (N (o80 P) Z Z) (N (o112 P) Z Z))) (N (o24 P) (N (o40 P) (N (o72 P) Z Z) (N (o104 P) Z Z)) (N (o56 P) (N (o88 P) Z Z) Z))) (N (c4 P) (N (o20 P) (N (o36 P) (N (o68 P) Z Z) (N (o100 P) Z Z)) (N (o52 P) (N (o84 P) Z Z) Z)) (N (o28 P) (N (o44 P) (N (o76 P) Z Z) (N (o108 P) Z Z)) (N (o60 P) (N (o92 P) Z Z) Z)))) (N (boot_o_6 P) (N (boot_o_10 P) (N (o18 P) (N (o34 P) (N (o66 P) Z Z) (N (o98 P) Z Z)) (N (o50 P) (N (o82 P) Z Z) Z)) (N (o26 P) (N (o42 P) (N (o74 P) Z Z) (N (o106 P) Z Z)) (N (o58 P) (N (o90 P) Z Z) Z))) (N (o14 P) (N (o22 P) (N (o38 P) (N (o70 P) Z Z) (N (o102 P) Z Z)) (N (o54 P) (N (o86 P) Z Z) Z)) (N (o30 P) (N (o46 P) (N (o78 P) Z Z) (N (o110 P) Z Z)) (N (o62 P) (N (o94 P) Z Z) Z))))))
noncomputable def s4 (w : World) (os : OsState) : SharedT := ⟨t4 w.params, 114, L0, #[], boot_drawn, 2289, os⟩
noncomputable def p4 : Pos := ⟨80, 0, 80, 13⟩
noncomputable def n5 (P : Params) : Obj := ⟨.type "dict", none, .dict #[⟨PyData.keyHash P (Str.ofString "__name__"), .str (Str.ofString "__name__") 165, .str (Str.ofString "cpy313.token") 2297⟩, ⟨PyData.keyHash P (Str.ofString "__doc__"), .str (Str.ofString "__doc__") 166, .none⟩, ⟨PyData.keyHash P (Str.ofString "__package__"), .str (Str.ofString "__package__") 167, .none⟩, ⟨PyData.keyHash P (Str.ofString "__loader__"), .str (Str.ofString "__loader__") 168, .builtin "__main__.__loader__#opaque"⟩, ⟨PyData.keyHash P (Str.ofString "__spec__"), .str (Str.ofString "__spec__") 169, .none⟩, ⟨PyData.keyHash P (Str.ofString "__annotations__"), .str (Str.ofString "__annotations__") 170, .ref 6⟩, ⟨PyData.keyHash P (Str.ofString "__builtins__"), .str (Str.ofString "__builtins__") 171, .ref 4⟩, ⟨PyData.keyHash P (Str.ofString "__file__"), .str (Str.ofString "__file__") 173, .str (Str.ofString "/claim/cut.py") 172⟩, ⟨PyData.keyHash P (Str.ofString "__cached__"), .str (Str.ofString "__cached__") 174, .none⟩, ⟨PyData.keyHash P (Str.ofString "_DIV_LIMIT"), .str (Str.ofString "_DIV_LIMIT") 190, .int 4000 189⟩, ⟨PyData.keyHash P (Str.ofString "_div2n1n"), .str (Str.ofString "_div2n1n") 207, .ref 21⟩, ⟨PyData.keyHash P (Str.ofString "_div3n2n"), .str (Str.ofString "_div3n2n") 221, .ref 28⟩, ⟨PyData.keyHash P (Str.ofString "_int2digits"), .str (Str.ofString "_int2digits") 232, .ref 35⟩, ⟨PyData.keyHash P (Str.ofString "_digits2int"), .str (Str.ofString "_digits2int") 243, .ref 42⟩, ⟨PyData.keyHash P (Str.ofString "_divmod_pos"), .str (Str.ofString "_divmod_pos") 258, .ref 49⟩, ⟨PyData.keyHash P (Str.ofString "int_divmod"), .str (Str.ofString "int_divmod") 268, .ref 56⟩, ⟨PyData.keyHash P (Str.ofString "b1_set"), .str (Str.ofString "b1_set") 330, .ref 64⟩, ⟨PyData.keyHash P (Str.ofString "in_table_b1"), .str (Str.ofString "in_table_b1") 337, .ref 74⟩, ⟨PyData.keyHash P (Str.ofString "b3_exceptions"), .str (Str.ofString "b3_exceptions") 2288, .ref 75⟩, ⟨PyData.keyHash P (Str.ofString "map_table_b3"), .str (Str.ofString "map_table_b3") 2296, .ref 120⟩, ⟨PyData.keyHash P (Str.ofString "ENDMARKER"), .str (Str.ofString "ENDMARKER") 2300, .int 0 2299⟩, ⟨PyData.keyHash P (Str.ofString "LPAR"), .str (Str.ofString "LPAR") 2302, .int 7 2301⟩, ⟨PyData.keyHash P (Str.ofString "RPAR"), .str (Str.ofString "RPAR") 2304, .int 8 2303⟩, ⟨PyData.keyHash P (Str.ofString "LSQB"), .str (Str.ofString "LSQB") 2306, .int 9 2305⟩, ⟨PyData.keyHash P (Str.ofString "RSQB"), .str (Str.ofString "RSQB") 2308, .int 10 2307⟩, ⟨PyData.keyHash P (Str.ofString "COLON"), .str (Str.ofString "COLON") 2310, .int 11 2309⟩, ⟨PyData.keyHash P (Str.ofString "COMMA"), .str (Str.ofString "COMMA") 2312, .int 12 2311⟩, ⟨PyData.keyHash P (Str.ofString "SEMI"), .str (Str.ofString "SEMI") 2314, .int 13 2313⟩, ⟨PyData.keyHash P (Str.ofString "PLUS"), .str (Str.ofString "PLUS") 2316, .int 14 2315⟩, ⟨PyData.keyHash P (Str.ofString "MINUS"), .str (Str.ofString "MINUS") 2318, .int 15 2317⟩, ⟨PyData.keyHash P (Str.ofString "STAR"), .str (Str.ofString "STAR") 2320, .int 16 2319⟩, ⟨PyData.keyHash P (Str.ofString "SLASH"), .str (Str.ofString "SLASH") 2322, .int 17 2321⟩, ⟨PyData.keyHash P (Str.ofString "VBAR"), .str (Str.ofString "VBAR") 2324, .int 18 2323⟩, ⟨PyData.keyHash P (Str.ofString "AMPER"), .str (Str.ofString "AMPER") 2326, .int 19 2325⟩, ⟨PyData.keyHash P (Str.ofString "LESS"), .str (Str.ofString "LESS") 2328, .int 20 2327⟩, ⟨PyData.keyHash P (Str.ofString "GREATER"), .str (Str.ofString "GREATER") 2330, .int 21 2329⟩, ⟨PyData.keyHash P (Str.ofString "EQUAL"), .str (Str.ofString "EQUAL") 2332, .int 22 2331⟩, ⟨PyData.keyHash P (Str.ofString "DOT"), .str (Str.ofString "DOT") 2334, .int 23 2333⟩, ⟨PyData.keyHash P (Str.ofString "PERCENT"), .str (Str.ofString "PERCENT") 2336, .int 24 2335⟩, ⟨PyData.keyHash P (Str.ofString "LBRACE"), .str (Str.ofString "LBRACE") 2338, .int 25 2337⟩, ⟨PyData.keyHash P (Str.ofString "RBRACE"), .str (Str.ofString "RBRACE") 2340, .int 26 2339⟩] 41, #[]⟩
noncomputable def c5 (_ : Params) : Obj := ⟨.none, none, .fields #[.int 3 0, .int 0 0, .ref 20, .int 19 0, .int 0 0, .ref 27, .int 29 0, .int 0 0, .ref 34, .int 45 0, .int 0 0, .ref 41, .int 54 0, .int 0 0, .ref 48, .int 65 0, .int 0 0, .ref 55, .int 78 0, .int 0 0, .ref 73, .int 81 0, .int 0 0, .ref 119], #[]⟩
noncomputable def t5 (P : Params) : BT := (N (boot_o_0 P) (N (boot_o_1 P) (N (n5 P) (N (boot_o_7 P) (N (o15 P) (N (o31 P) (N (o63 P) Z Z) (N (o95 P) Z Z)) (N (o47 P) (N (o79 P) Z Z) (N (o111 P) Z Z))) (N (o23 P) (N (o39 P) (N (o71 P) Z Z) (N (o103 P) Z Z)) (N (o55 P) (N (o87 P) Z Z) (N (o119 P) Z Z)))) (N (o11 P) (N (o19 P) (N (o35 P) (N (o67 P) Z Z) (N (o99 P) Z Z)) (N (o51 P) (N (o83 P) Z Z) (N (o115 P) Z Z))) (N (o27 P) (N (o43 P) (N (o75 P) Z Z) (N (o107 P) Z Z)) (N (o59 P) (N (o91 P) Z Z) Z)))) (N (boot_o_5 P) (N (boot_o_9 P) (N (o17 P) (N (o33 P) (N (o65 P) Z Z) (N (o97 P) Z Z)) (N (o49 P) (N (o81 P) Z Z) (N (o113 P) Z Z))) (N (o25 P) (N (o41 P) (N (o73 P) Z Z) (N (o105 P) Z Z)) (N (o57 P) (N (o89 P) Z Z) Z))) (N (o13 P) (N (o21 P) (N (o37 P) (N (o69 P) Z Z) (N (o101 P) Z Z)) (N (o53 P) (N (o85 P) Z Z) (N (o117 P) Z Z))) (N (o29 P) (N (o45 P) (N (o77 P) Z Z) (N (o109 P) Z Z)) (N (o61 P) (N (o93 P) Z Z) Z))))) (N (boot_o_2 P) (N (boot_o_4 P) (N (boot_o_8 P) (N (o16 P) (N (o32 P) (N (o64 P) Z Z) (N (o96 P) Z Z)) (N (o48 P) (N (o80 P) Z Z) (N (o112 P) Z Z))) (N (o24 P) (N (o40 P) (N (o72 P) Z Z) (N (o104 P) Z Z)) (N (o56 P) (N (o88 P) Z Z) (N (o120 P) Z Z)))) (N (c5 P) (N (o20 P) (N (o36 P) (N (o68 P) Z Z) (N (o100 P) Z Z)) (N (o52 P) (N (o84 P) Z Z) (N (o116 P) Z Z))) (N (o28 P) (N (o44 P) (N (o76 P) Z Z) (N (o108 P) Z Z)) (N (o60 P) (N (o92 P) Z Z) Z)))) (N (boot_o_6 P) (N (boot_o_10 P) (N (o18 P) (N (o34 P) (N (o66 P) Z Z) (N (o98 P) Z Z)) (N (o50 P) (N (o82 P) Z Z) (N (o114 P) Z Z))) (N (o26 P) (N (o42 P) (N (o74 P) Z Z) (N (o106 P) Z Z)) (N (o58 P) (N (o90 P) Z Z) Z))) (N (o14 P) (N (o22 P) (N (o38 P) (N (o70 P) Z Z) (N (o102 P) Z Z)) (N (o54 P) (N (o86 P) Z Z) (N (o118 P) Z Z))) (N (o30 P) (N (o46 P) (N (o78 P) Z Z) (N (o110 P) Z Z)) (N (o62 P) (N (o94 P) Z Z) Z))))))
noncomputable def s5 (w : World) (os : OsState) : SharedT := ⟨t5 w.params, 121, L0, #[], boot_drawn, 2341, os⟩
noncomputable def p5 : Pos := ⟨107, 0, 107, 6⟩
noncomputable def n6 (P : Params) : Obj := ⟨.type "dict", none, .dict #[⟨PyData.keyHash P (Str.ofString "__name__"), .str (Str.ofString "__name__") 165, .str (Str.ofString "cpy313.token") 2297⟩, ⟨PyData.keyHash P (Str.ofString "__doc__"), .str (Str.ofString "__doc__") 166, .none⟩, ⟨PyData.keyHash P (Str.ofString "__package__"), .str (Str.ofString "__package__") 167, .none⟩, ⟨PyData.keyHash P (Str.ofString "__loader__"), .str (Str.ofString "__loader__") 168, .builtin "__main__.__loader__#opaque"⟩, ⟨PyData.keyHash P (Str.ofString "__spec__"), .str (Str.ofString "__spec__") 169, .none⟩, ⟨PyData.keyHash P (Str.ofString "__annotations__"), .str (Str.ofString "__annotations__") 170, .ref 6⟩, ⟨PyData.keyHash P (Str.ofString "__builtins__"), .str (Str.ofString "__builtins__") 171, .ref 4⟩, ⟨PyData.keyHash P (Str.ofString "__file__"), .str (Str.ofString "__file__") 173, .str (Str.ofString "/claim/cut.py") 172⟩, ⟨PyData.keyHash P (Str.ofString "__cached__"), .str (Str.ofString "__cached__") 174, .none⟩, ⟨PyData.keyHash P (Str.ofString "_DIV_LIMIT"), .str (Str.ofString "_DIV_LIMIT") 190, .int 4000 189⟩, ⟨PyData.keyHash P (Str.ofString "_div2n1n"), .str (Str.ofString "_div2n1n") 207, .ref 21⟩, ⟨PyData.keyHash P (Str.ofString "_div3n2n"), .str (Str.ofString "_div3n2n") 221, .ref 28⟩, ⟨PyData.keyHash P (Str.ofString "_int2digits"), .str (Str.ofString "_int2digits") 232, .ref 35⟩, ⟨PyData.keyHash P (Str.ofString "_digits2int"), .str (Str.ofString "_digits2int") 243, .ref 42⟩, ⟨PyData.keyHash P (Str.ofString "_divmod_pos"), .str (Str.ofString "_divmod_pos") 258, .ref 49⟩, ⟨PyData.keyHash P (Str.ofString "int_divmod"), .str (Str.ofString "int_divmod") 268, .ref 56⟩, ⟨PyData.keyHash P (Str.ofString "b1_set"), .str (Str.ofString "b1_set") 330, .ref 64⟩, ⟨PyData.keyHash P (Str.ofString "in_table_b1"), .str (Str.ofString "in_table_b1") 337, .ref 74⟩, ⟨PyData.keyHash P (Str.ofString "b3_exceptions"), .str (Str.ofString "b3_exceptions") 2288, .ref 75⟩, ⟨PyData.keyHash P (Str.ofString "map_table_b3"), .str (Str.ofString "map_table_b3") 2296, .ref 120⟩, ⟨PyData.keyHash P (Str.ofString "ENDMARKER"), .str (Str.ofString "ENDMARKER") 2300, .int 0 2299⟩, ⟨PyData.keyHash P (Str.ofString "LPAR"), .str (Str.ofString "LPAR") 2302, .int 7 2301⟩, ⟨PyData.keyHash P (Str.ofString "RPAR"), .str (Str.ofString "RPAR") 2304, .int 8 2303⟩, ⟨PyData.keyHash P (Str.ofString "LSQB"), .str (Str.ofString "LSQB") 2306, .int 9 2305⟩, ⟨PyData.keyHash P (Str.ofString "RSQB"), .str (Str.ofString "RSQB") 2308, .int 10 2307⟩, ⟨PyData.keyHash P (Str.ofString "COLON"), .str (Str.ofString "COLON") 2310, .int 11 2309⟩, ⟨PyData.keyHash P (Str.ofString "COMMA"), .str (Str.ofString "COMMA") 2312, .int 12 2311⟩, ⟨PyData.keyHash P (Str.ofString "SEMI"), .str (Str.ofString "SEMI") 2314, .int 13 2313⟩, ⟨PyData.keyHash P (Str.ofString "PLUS"), .str (Str.ofString "PLUS") 2316, .int 14 2315⟩, ⟨PyData.keyHash P (Str.ofString "MINUS"), .str (Str.ofString "MINUS") 2318, .int 15 2317⟩, ⟨PyData.keyHash P (Str.ofString "STAR"), .str (Str.ofString "STAR") 2320, .int 16 2319⟩, ⟨PyData.keyHash P (Str.ofString "SLASH"), .str (Str.ofString "SLASH") 2322, .int 17 2321⟩, ⟨PyData.keyHash P (Str.ofString "VBAR"), .str (Str.ofString "VBAR") 2324, .int 18 2323⟩, ⟨PyData.keyHash P (Str.ofString "AMPER"), .str (Str.ofString "AMPER") 2326, .int 19 2325⟩, ⟨PyData.keyHash P (Str.ofString "LESS"), .str (Str.ofString "LESS") 2328, .int 20 2327⟩, ⟨PyData.keyHash P (Str.ofString "GREATER"), .str (Str.ofString "GREATER") 2330, .int 21 2329⟩, ⟨PyData.keyHash P (Str.ofString "EQUAL"), .str (Str.ofString "EQUAL") 2332, .int 22 2331⟩, ⟨PyData.keyHash P (Str.ofString "DOT"), .str (Str.ofString "DOT") 2334, .int 23 2333⟩, ⟨PyData.keyHash P (Str.ofString "PERCENT"), .str (Str.ofString "PERCENT") 2336, .int 24 2335⟩, ⟨PyData.keyHash P (Str.ofString "LBRACE"), .str (Str.ofString "LBRACE") 2338, .int 25 2337⟩, ⟨PyData.keyHash P (Str.ofString "RBRACE"), .str (Str.ofString "RBRACE") 2340, .int 26 2339⟩, ⟨PyData.keyHash P (Str.ofString "EQEQUAL"), .str (Str.ofString "EQEQUAL") 2342, .int 27 2341⟩, ⟨PyData.keyHash P (Str.ofString "NOTEQUAL"), .str (Str.ofString "NOTEQUAL") 2344, .int 28 2343⟩, ⟨PyData.keyHash P (Str.ofString "LESSEQUAL"), .str (Str.ofString "LESSEQUAL") 2346, .int 29 2345⟩, ⟨PyData.keyHash P (Str.ofString "GREATEREQUAL"), .str (Str.ofString "GREATEREQUAL") 2348, .int 30 2347⟩, ⟨PyData.keyHash P (Str.ofString "TILDE"), .str (Str.ofString "TILDE") 2350, .int 31 2349⟩, ⟨PyData.keyHash P (Str.ofString "CIRCUMFLEX"), .str (Str.ofString "CIRCUMFLEX") 2352, .int 32 2351⟩, ⟨PyData.keyHash P (Str.ofString "LEFTSHIFT"), .str (Str.ofString "LEFTSHIFT") 2354, .int 33 2353⟩, ⟨PyData.keyHash P (Str.ofString "RIGHTSHIFT"), .str (Str.ofString "RIGHTSHIFT") 2356, .int 34 2355⟩, ⟨PyData.keyHash P (Str.ofString "DOUBLESTAR"), .str (Str.ofString "DOUBLESTAR") 2358, .int 35 2357⟩, ⟨PyData.keyHash P (Str.ofString "PLUSEQUAL"), .str (Str.ofString "PLUSEQUAL") 2360, .int 36 2359⟩, ⟨PyData.keyHash P (Str.ofString "MINEQUAL"), .str (Str.ofString "MINEQUAL") 2362, .int 37 2361⟩, ⟨PyData.keyHash P (Str.ofString "STAREQUAL"), .str (Str.ofString "STAREQUAL") 2364, .int 38 2363⟩, ⟨PyData.keyHash P (Str.ofString "SLASHEQUAL"), .str (Str.ofString "SLASHEQUAL") 2366, .int 39 2365⟩, ⟨PyData.keyHash P (Str.ofString "PERCENTEQUAL"), .str (Str.ofString "PERCENTEQUAL") 2368, .int 40 2367⟩, ⟨PyData.keyHash P (Str.ofString "AMPEREQUAL"), .str (Str.ofString "AMPEREQUAL") 2370, .int 41 2369⟩, ⟨PyData.keyHash P (Str.ofString "VBAREQUAL"), .str (Str.ofString "VBAREQUAL") 2372, .int 42 2371⟩, ⟨PyData.keyHash P (Str.ofString "CIRCUMFLEXEQUAL"), .str (Str.ofString "CIRCUMFLEXEQUAL") 2374, .int 43 2373⟩, ⟨PyData.keyHash P (Str.ofString "LEFTSHIFTEQUAL"), .str (Str.ofString "LEFTSHIFTEQUAL") 2376, .int 44 2375⟩, ⟨PyData.keyHash P (Str.ofString "RIGHTSHIFTEQUAL"), .str (Str.ofString "RIGHTSHIFTEQUAL") 2378, .int 45 2377⟩, ⟨PyData.keyHash P (Str.ofString "DOUBLESTAREQUAL"), .str (Str.ofString "DOUBLESTAREQUAL") 2380, .int 46 2379⟩, ⟨PyData.keyHash P (Str.ofString "DOUBLESLASH"), .str (Str.ofString "DOUBLESLASH") 2382, .int 47 2381⟩, ⟨PyData.keyHash P (Str.ofString "DOUBLESLASHEQUAL"), .str (Str.ofString "DOUBLESLASHEQUAL") 2384, .int 48 2383⟩, ⟨PyData.keyHash P (Str.ofString "AT"), .str (Str.ofString "AT") 2386, .int 49 2385⟩, ⟨PyData.keyHash P (Str.ofString "ATEQUAL"), .str (Str.ofString "ATEQUAL") 2388, .int 50 2387⟩, ⟨PyData.keyHash P (Str.ofString "RARROW"), .str (Str.ofString "RARROW") 2390, .int 51 2389⟩, ⟨PyData.keyHash P (Str.ofString "ELLIPSIS"), .str (Str.ofString "ELLIPSIS") 2392, .int 52 2391⟩, ⟨PyData.keyHash P (Str.ofString "COLONEQUAL"), .str (Str.ofString "COLONEQUAL") 2394, .int 53 2393⟩, ⟨PyData.keyHash P (Str.ofString "EXCLAMATION"), .str (Str.ofString "EXCLAMATION") 2396, .int 54 2395⟩] 69, #[]⟩
noncomputable def c6 (_ : Params) : Obj := ⟨.none, none, .fields #[.int 3 0, .int 0 0, .ref 20, .int 19 0, .int 0 0, .ref 27, .int 29 0, .int 0 0, .ref 34, .int 45 0, .int 0 0, .ref 41, .int 54 0, .int 0 0, .ref 48, .int 65 0, .int 0 0, .ref 55, .int 78 0, .int 0 0, .ref 73, .int 81 0, .int 0 0, .ref 119], #[]⟩
noncomputable def t6 (P : Params) : BT := (N (boot_o_0 P) (N (boot_o_1 P) (N (n6 P) (N (boot_o_7 P) (N (o15 P) (N (o31 P) (N (o63 P) Z Z) (N (o95 P) Z Z)) (N (o47 P) (N (o79 P) Z Z) (N (o111 P) Z Z))) (N (o23 P) (N (o39 P) (N (o71 P) Z Z) (N (o103 P) Z Z)) (N (o55 P) (N (o87 P) Z Z) (N (o119 P) Z Z)))) (N (o11 P) (N (o19 P) (N (o35 P) (N (o67 P) Z Z) (N (o99 P) Z Z)) (N (o51 P) (N (o83 P) Z Z) (N (o115 P) Z Z))) (N (o27 P) (N (o43 P) (N (o75 P) Z Z) (N (o107 P) Z Z)) (N (o59 P) (N (o91 P) Z Z) Z)))) (N (boot_o_5 P) (N (boot_o_9 P) (N (o17 P) (N (o33 P) (N (o65 P) Z Z) (N (o97 P) Z Z)) (N (o49 P) (N (o81 P) Z Z) (N (o113 P) Z Z))) (N (o25 P) (N (o41 P) (N (o73 P) Z Z) (N (o105 P) Z Z)) (N (o57 P) (N (o89 P) Z Z) Z))) (N (o13 P) (N (o21 P) (N (o37 P) (N (o69 P) Z Z) (N (o101 P) Z Z)) (N (o53 P) (N (o85 P) Z Z) (N (o117 P) Z Z))) (N (o29 P) (N (o45 P) (N (o77 P) Z Z) (N (o109 P) Z Z)) (N (o61 P) (N (o93 P) Z Z) Z))))) (N (boot_o_2 P) (N (boot_o_4 P) (N (boot_o_8 P) (N (o16 P) (N (o32 P) (N (o64 P) Z Z) (N (o96 P) Z Z)) (N (o48 P) (N (o80 P) Z Z) (N (o112 P) Z Z))) (N (o24 P) (N (o40 P) (N (o72 P) Z Z) (N (o104 P) Z Z)) (N (o56 P) (N (o88 P) Z Z) (N (o120 P) Z Z)))) (N (c6 P) (N (o20 P) (N (o36 P) (N (o68 P) Z Z) (N (o100 P) Z Z)) (N (o52 P) (N (o84 P) Z Z) (N (o116 P) Z Z))) (N (o28 P) (N (o44 P) (N (o76 P) Z Z) (N (o108 P) Z Z)) (N (o60 P) (N (o92 P) Z Z) Z)))) (N (boot_o_6 P) (N (boot_o_10 P) (N (o18 P) (N (o34 P) (N (o66 P) Z Z) (N (o98 P) Z Z)) (N (o50 P) (N (o82 P) Z Z) (N (o114 P) Z Z))) (N (o26 P) (N (o42 P) (N (o74 P) Z Z) (N (o106 P) Z Z)) (N (o58 P) (N (o90 P) Z Z) Z))) (N (o14 P) (N (o22 P) (N (o38 P) (N (o70 P) Z Z) (N (o102 P) Z Z)) (N (o54 P) (N (o86 P) Z Z) (N (o118 P) Z Z))) (N (o30 P) (N (o46 P) (N (o78 P) Z Z) (N (o110 P) Z Z)) (N (o62 P) (N (o94 P) Z Z) Z))))))
noncomputable def s6 (w : World) (os : OsState) : SharedT := ⟨t6 w.params, 121, L0, #[], boot_drawn, 2397, os⟩
noncomputable def p6 : Pos := ⟨135, 0, 135, 11⟩
noncomputable def n7 (P : Params) : Obj := ⟨.type "dict", none, .dict #[⟨PyData.keyHash P (Str.ofString "__name__"), .str (Str.ofString "__name__") 165, .str (Str.ofString "cpy313.token") 2297⟩, ⟨PyData.keyHash P (Str.ofString "__doc__"), .str (Str.ofString "__doc__") 166, .none⟩, ⟨PyData.keyHash P (Str.ofString "__package__"), .str (Str.ofString "__package__") 167, .none⟩, ⟨PyData.keyHash P (Str.ofString "__loader__"), .str (Str.ofString "__loader__") 168, .builtin "__main__.__loader__#opaque"⟩, ⟨PyData.keyHash P (Str.ofString "__spec__"), .str (Str.ofString "__spec__") 169, .none⟩, ⟨PyData.keyHash P (Str.ofString "__annotations__"), .str (Str.ofString "__annotations__") 170, .ref 6⟩, ⟨PyData.keyHash P (Str.ofString "__builtins__"), .str (Str.ofString "__builtins__") 171, .ref 4⟩, ⟨PyData.keyHash P (Str.ofString "__file__"), .str (Str.ofString "__file__") 173, .str (Str.ofString "/claim/cut.py") 172⟩, ⟨PyData.keyHash P (Str.ofString "__cached__"), .str (Str.ofString "__cached__") 174, .none⟩, ⟨PyData.keyHash P (Str.ofString "_DIV_LIMIT"), .str (Str.ofString "_DIV_LIMIT") 190, .int 4000 189⟩, ⟨PyData.keyHash P (Str.ofString "_div2n1n"), .str (Str.ofString "_div2n1n") 207, .ref 21⟩, ⟨PyData.keyHash P (Str.ofString "_div3n2n"), .str (Str.ofString "_div3n2n") 221, .ref 28⟩, ⟨PyData.keyHash P (Str.ofString "_int2digits"), .str (Str.ofString "_int2digits") 232, .ref 35⟩, ⟨PyData.keyHash P (Str.ofString "_digits2int"), .str (Str.ofString "_digits2int") 243, .ref 42⟩, ⟨PyData.keyHash P (Str.ofString "_divmod_pos"), .str (Str.ofString "_divmod_pos") 258, .ref 49⟩, ⟨PyData.keyHash P (Str.ofString "int_divmod"), .str (Str.ofString "int_divmod") 268, .ref 56⟩, ⟨PyData.keyHash P (Str.ofString "b1_set"), .str (Str.ofString "b1_set") 330, .ref 64⟩, ⟨PyData.keyHash P (Str.ofString "in_table_b1"), .str (Str.ofString "in_table_b1") 337, .ref 74⟩, ⟨PyData.keyHash P (Str.ofString "b3_exceptions"), .str (Str.ofString "b3_exceptions") 2288, .ref 75⟩, ⟨PyData.keyHash P (Str.ofString "map_table_b3"), .str (Str.ofString "map_table_b3") 2296, .ref 120⟩, ⟨PyData.keyHash P (Str.ofString "ENDMARKER"), .str (Str.ofString "ENDMARKER") 2300, .int 0 2299⟩, ⟨PyData.keyHash P (Str.ofString "LPAR"), .str (Str.ofString "LPAR") 2302, .int 7 2301⟩, ⟨PyData.keyHash P (Str.ofString "RPAR"), .str (Str.ofString "RPAR") 2304, .int 8 2303⟩, ⟨PyData.keyHash P (Str.ofString "LSQB"), .str (Str.ofString "LSQB") 2306, .int 9 2305⟩, ⟨PyData.keyHash P (Str.ofString "RSQB"), .str (Str.ofString "RSQB") 2308, .int 10 2307⟩, ⟨PyData.keyHash P (Str.ofString "COLON"), .str (Str.ofString "COLON") 2310, .int 11 2309⟩, ⟨PyData.keyHash P (Str.ofString "COMMA"), .str (Str.ofString "COMMA") 2312, .int 12 2311⟩, ⟨PyData.keyHash P (Str.ofString "SEMI"), .str (Str.ofString "SEMI") 2314, .int 13 2313⟩, ⟨PyData.keyHash P (Str.ofString "PLUS"), .str (Str.ofString "PLUS") 2316, .int 14 2315⟩, ⟨PyData.keyHash P (Str.ofString "MINUS"), .str (Str.ofString "MINUS") 2318, .int 15 2317⟩, ⟨PyData.keyHash P (Str.ofString "STAR"), .str (Str.ofString "STAR") 2320, .int 16 2319⟩, ⟨PyData.keyHash P (Str.ofString "SLASH"), .str (Str.ofString "SLASH") 2322, .int 17 2321⟩, ⟨PyData.keyHash P (Str.ofString "VBAR"), .str (Str.ofString "VBAR") 2324, .int 18 2323⟩, ⟨PyData.keyHash P (Str.ofString "AMPER"), .str (Str.ofString "AMPER") 2326, .int 19 2325⟩, ⟨PyData.keyHash P (Str.ofString "LESS"), .str (Str.ofString "LESS") 2328, .int 20 2327⟩, ⟨PyData.keyHash P (Str.ofString "GREATER"), .str (Str.ofString "GREATER") 2330, .int 21 2329⟩, ⟨PyData.keyHash P (Str.ofString "EQUAL"), .str (Str.ofString "EQUAL") 2332, .int 22 2331⟩, ⟨PyData.keyHash P (Str.ofString "DOT"), .str (Str.ofString "DOT") 2334, .int 23 2333⟩, ⟨PyData.keyHash P (Str.ofString "PERCENT"), .str (Str.ofString "PERCENT") 2336, .int 24 2335⟩, ⟨PyData.keyHash P (Str.ofString "LBRACE"), .str (Str.ofString "LBRACE") 2338, .int 25 2337⟩, ⟨PyData.keyHash P (Str.ofString "RBRACE"), .str (Str.ofString "RBRACE") 2340, .int 26 2339⟩, ⟨PyData.keyHash P (Str.ofString "EQEQUAL"), .str (Str.ofString "EQEQUAL") 2342, .int 27 2341⟩, ⟨PyData.keyHash P (Str.ofString "NOTEQUAL"), .str (Str.ofString "NOTEQUAL") 2344, .int 28 2343⟩, ⟨PyData.keyHash P (Str.ofString "LESSEQUAL"), .str (Str.ofString "LESSEQUAL") 2346, .int 29 2345⟩, ⟨PyData.keyHash P (Str.ofString "GREATEREQUAL"), .str (Str.ofString "GREATEREQUAL") 2348, .int 30 2347⟩, ⟨PyData.keyHash P (Str.ofString "TILDE"), .str (Str.ofString "TILDE") 2350, .int 31 2349⟩, ⟨PyData.keyHash P (Str.ofString "CIRCUMFLEX"), .str (Str.ofString "CIRCUMFLEX") 2352, .int 32 2351⟩, ⟨PyData.keyHash P (Str.ofString "LEFTSHIFT"), .str (Str.ofString "LEFTSHIFT") 2354, .int 33 2353⟩, ⟨PyData.keyHash P (Str.ofString "RIGHTSHIFT"), .str (Str.ofString "RIGHTSHIFT") 2356, .int 34 2355⟩, ⟨PyData.keyHash P (Str.ofString "DOUBLESTAR"), .str (Str.ofString "DOUBLESTAR") 2358, .int 35 2357⟩, ⟨PyData.keyHash P (Str.ofString "PLUSEQUAL"), .str (Str.ofString "PLUSEQUAL") 2360, .int 36 2359⟩, ⟨PyData.keyHash P (Str.ofString "MINEQUAL"), .str (Str.ofString "MINEQUAL") 2362, .int 37 2361⟩, ⟨PyData.keyHash P (Str.ofString "STAREQUAL"), .str (Str.ofString "STAREQUAL") 2364, .int 38 2363⟩, ⟨PyData.keyHash P (Str.ofString "SLASHEQUAL"), .str (Str.ofString "SLASHEQUAL") 2366, .int 39 2365⟩, ⟨PyData.keyHash P (Str.ofString "PERCENTEQUAL"), .str (Str.ofString "PERCENTEQUAL") 2368, .int 40 2367⟩, ⟨PyData.keyHash P (Str.ofString "AMPEREQUAL"), .str (Str.ofString "AMPEREQUAL") 2370, .int 41 2369⟩, ⟨PyData.keyHash P (Str.ofString "VBAREQUAL"), .str (Str.ofString "VBAREQUAL") 2372, .int 42 2371⟩, ⟨PyData.keyHash P (Str.ofString "CIRCUMFLEXEQUAL"), .str (Str.ofString "CIRCUMFLEXEQUAL") 2374, .int 43 2373⟩, ⟨PyData.keyHash P (Str.ofString "LEFTSHIFTEQUAL"), .str (Str.ofString "LEFTSHIFTEQUAL") 2376, .int 44 2375⟩, ⟨PyData.keyHash P (Str.ofString "RIGHTSHIFTEQUAL"), .str (Str.ofString "RIGHTSHIFTEQUAL") 2378, .int 45 2377⟩, ⟨PyData.keyHash P (Str.ofString "DOUBLESTAREQUAL"), .str (Str.ofString "DOUBLESTAREQUAL") 2380, .int 46 2379⟩, ⟨PyData.keyHash P (Str.ofString "DOUBLESLASH"), .str (Str.ofString "DOUBLESLASH") 2382, .int 47 2381⟩, ⟨PyData.keyHash P (Str.ofString "DOUBLESLASHEQUAL"), .str (Str.ofString "DOUBLESLASHEQUAL") 2384, .int 48 2383⟩, ⟨PyData.keyHash P (Str.ofString "AT"), .str (Str.ofString "AT") 2386, .int 49 2385⟩, ⟨PyData.keyHash P (Str.ofString "ATEQUAL"), .str (Str.ofString "ATEQUAL") 2388, .int 50 2387⟩, ⟨PyData.keyHash P (Str.ofString "RARROW"), .str (Str.ofString "RARROW") 2390, .int 51 2389⟩, ⟨PyData.keyHash P (Str.ofString "ELLIPSIS"), .str (Str.ofString "ELLIPSIS") 2392, .int 52 2391⟩, ⟨PyData.keyHash P (Str.ofString "COLONEQUAL"), .str (Str.ofString "COLONEQUAL") 2394, .int 53 2393⟩, ⟨PyData.keyHash P (Str.ofString "EXCLAMATION"), .str (Str.ofString "EXCLAMATION") 2396, .int 54 2395⟩, ⟨PyData.keyHash P (Str.ofString "EXACT_TOKEN_TYPES"), .str (Str.ofString "EXACT_TOKEN_TYPES") 2493, .ref 121⟩] 70, #[]⟩
noncomputable def c7 (_ : Params) : Obj := ⟨.none, none, .fields #[.int 3 0, .int 0 0, .ref 20, .int 19 0, .int 0 0, .ref 27, .int 29 0, .int 0 0, .ref 34, .int 45 0, .int 0 0, .ref 41, .int 54 0, .int 0 0, .ref 48, .int 65 0, .int 0 0, .ref 55, .int 78 0, .int 0 0, .ref 73, .int 81 0, .int 0 0, .ref 119], #[]⟩
noncomputable def t7 (P : Params) : BT := (N (boot_o_0 P) (N (boot_o_1 P) (N (n7 P) (N (boot_o_7 P) (N (o15 P) (N (o31 P) (N (o63 P) Z Z) (N (o95 P) Z Z)) (N (o47 P) (N (o79 P) Z Z) (N (o111 P) Z Z))) (N (o23 P) (N (o39 P) (N (o71 P) Z Z) (N (o103 P) Z Z)) (N (o55 P) (N (o87 P) Z Z) (N (o119 P) Z Z)))) (N (o11 P) (N (o19 P) (N (o35 P) (N (o67 P) Z Z) (N (o99 P) Z Z)) (N (o51 P) (N (o83 P) Z Z) (N (o115 P) Z Z))) (N (o27 P) (N (o43 P) (N (o75 P) Z Z) (N (o107 P) Z Z)) (N (o59 P) (N (o91 P) Z Z) (N (o123 P) Z Z))))) (N (boot_o_5 P) (N (boot_o_9 P) (N (o17 P) (N (o33 P) (N (o65 P) Z Z) (N (o97 P) Z Z)) (N (o49 P) (N (o81 P) Z Z) (N (o113 P) Z Z))) (N (o25 P) (N (o41 P) (N (o73 P) Z Z) (N (o105 P) Z Z)) (N (o57 P) (N (o89 P) Z Z) (N (o121 P) Z Z)))) (N (o13 P) (N (o21 P) (N (o37 P) (N (o69 P) Z Z) (N (o101 P) Z Z)) (N (o53 P) (N (o85 P) Z Z) (N (o117 P) Z Z))) (N (o29 P) (N (o45 P) (N (o77 P) Z Z) (N (o109 P) Z Z)) (N (o61 P) (N (o93 P) Z Z) Z))))) (N (boot_o_2 P) (N (boot_o_4 P) (N (boot_o_8 P) (N (o16 P) (N (o32 P) (N (o64 P) Z Z) (N (o96 P) Z Z)) (N (o48 P) (N (o80 P) Z Z) (N (o112 P) Z Z))) (N (o24 P) (N (o40 P) (N (o72 P) Z Z) (N (o104 P) Z Z)) (N (o56 P) (N (o88 P) Z Z) (N (o120 P) Z Z)))) (N (c7 P) (N (o20 P) (N (o36 P) (N (o68 P) Z Z) (N (o100 P) Z Z)) (N (o52 P) (N (o84 P) Z Z) (N (o116 P) Z Z))) (N (o28 P) (N (o44 P) (N (o76 P) Z Z) (N (o108 P) Z Z)) (N (o60 P) (N (o92 P) Z Z) Z)))) (N (boot_o_6 P) (N (boot_o_10 P) (N (o18 P) (N (o34 P) (N (o66 P) Z Z) (N (o98 P) Z Z)) (N (o50 P) (N (o82 P) Z Z) (N (o114 P) Z Z))) (N (o26 P) (N (o42 P) (N (o74 P) Z Z) (N (o106 P) Z Z)) (N (o58 P) (N (o90 P) Z Z) (N (o122 P) Z Z)))) (N (o14 P) (N (o22 P) (N (o38 P) (N (o70 P) Z Z) (N (o102 P) Z Z)) (N (o54 P) (N (o86 P) Z Z) (N (o118 P) Z Z))) (N (o30 P) (N (o46 P) (N (o78 P) Z Z) (N (o110 P) Z Z)) (N (o62 P) (N (o94 P) Z Z) Z))))))
noncomputable def s7 (w : World) (os : OsState) : SharedT := ⟨t7 w.params, 124, L0, #[], boot_drawn, 2494, os⟩
noncomputable def p7 : Pos := ⟨136, 0, 136, 17⟩
noncomputable def n8 (P : Params) : Obj := ⟨.type "dict", none, .dict #[⟨PyData.keyHash P (Str.ofString "__name__"), .str (Str.ofString "__name__") 165, .str (Str.ofString "law_rl0133_02") 2501⟩, ⟨PyData.keyHash P (Str.ofString "__doc__"), .str (Str.ofString "__doc__") 166, .none⟩, ⟨PyData.keyHash P (Str.ofString "__package__"), .str (Str.ofString "__package__") 167, .none⟩, ⟨PyData.keyHash P (Str.ofString "__loader__"), .str (Str.ofString "__loader__") 168, .builtin "__main__.__loader__#opaque"⟩, ⟨PyData.keyHash P (Str.ofString "__spec__"), .str (Str.ofString "__spec__") 169, .none⟩, ⟨PyData.keyHash P (Str.ofString "__annotations__"), .str (Str.ofString "__annotations__") 170, .ref 6⟩, ⟨PyData.keyHash P (Str.ofString "__builtins__"), .str (Str.ofString "__builtins__") 171, .ref 4⟩, ⟨PyData.keyHash P (Str.ofString "__file__"), .str (Str.ofString "__file__") 173, .str (Str.ofString "/claim/cut.py") 172⟩, ⟨PyData.keyHash P (Str.ofString "__cached__"), .str (Str.ofString "__cached__") 174, .none⟩, ⟨PyData.keyHash P (Str.ofString "_DIV_LIMIT"), .str (Str.ofString "_DIV_LIMIT") 190, .int 4000 189⟩, ⟨PyData.keyHash P (Str.ofString "_div2n1n"), .str (Str.ofString "_div2n1n") 207, .ref 21⟩, ⟨PyData.keyHash P (Str.ofString "_div3n2n"), .str (Str.ofString "_div3n2n") 221, .ref 28⟩, ⟨PyData.keyHash P (Str.ofString "_int2digits"), .str (Str.ofString "_int2digits") 232, .ref 35⟩, ⟨PyData.keyHash P (Str.ofString "_digits2int"), .str (Str.ofString "_digits2int") 243, .ref 42⟩, ⟨PyData.keyHash P (Str.ofString "_divmod_pos"), .str (Str.ofString "_divmod_pos") 258, .ref 49⟩, ⟨PyData.keyHash P (Str.ofString "int_divmod"), .str (Str.ofString "int_divmod") 268, .ref 56⟩, ⟨PyData.keyHash P (Str.ofString "b1_set"), .str (Str.ofString "b1_set") 330, .ref 64⟩, ⟨PyData.keyHash P (Str.ofString "in_table_b1"), .str (Str.ofString "in_table_b1") 337, .ref 74⟩, ⟨PyData.keyHash P (Str.ofString "b3_exceptions"), .str (Str.ofString "b3_exceptions") 2288, .ref 75⟩, ⟨PyData.keyHash P (Str.ofString "map_table_b3"), .str (Str.ofString "map_table_b3") 2296, .ref 120⟩, ⟨PyData.keyHash P (Str.ofString "ENDMARKER"), .str (Str.ofString "ENDMARKER") 2300, .int 0 2299⟩, ⟨PyData.keyHash P (Str.ofString "LPAR"), .str (Str.ofString "LPAR") 2302, .int 7 2301⟩, ⟨PyData.keyHash P (Str.ofString "RPAR"), .str (Str.ofString "RPAR") 2304, .int 8 2303⟩, ⟨PyData.keyHash P (Str.ofString "LSQB"), .str (Str.ofString "LSQB") 2306, .int 9 2305⟩, ⟨PyData.keyHash P (Str.ofString "RSQB"), .str (Str.ofString "RSQB") 2308, .int 10 2307⟩, ⟨PyData.keyHash P (Str.ofString "COLON"), .str (Str.ofString "COLON") 2310, .int 11 2309⟩, ⟨PyData.keyHash P (Str.ofString "COMMA"), .str (Str.ofString "COMMA") 2312, .int 12 2311⟩, ⟨PyData.keyHash P (Str.ofString "SEMI"), .str (Str.ofString "SEMI") 2314, .int 13 2313⟩, ⟨PyData.keyHash P (Str.ofString "PLUS"), .str (Str.ofString "PLUS") 2316, .int 14 2315⟩, ⟨PyData.keyHash P (Str.ofString "MINUS"), .str (Str.ofString "MINUS") 2318, .int 15 2317⟩, ⟨PyData.keyHash P (Str.ofString "STAR"), .str (Str.ofString "STAR") 2320, .int 16 2319⟩, ⟨PyData.keyHash P (Str.ofString "SLASH"), .str (Str.ofString "SLASH") 2322, .int 17 2321⟩, ⟨PyData.keyHash P (Str.ofString "VBAR"), .str (Str.ofString "VBAR") 2324, .int 18 2323⟩, ⟨PyData.keyHash P (Str.ofString "AMPER"), .str (Str.ofString "AMPER") 2326, .int 19 2325⟩, ⟨PyData.keyHash P (Str.ofString "LESS"), .str (Str.ofString "LESS") 2328, .int 20 2327⟩, ⟨PyData.keyHash P (Str.ofString "GREATER"), .str (Str.ofString "GREATER") 2330, .int 21 2329⟩, ⟨PyData.keyHash P (Str.ofString "EQUAL"), .str (Str.ofString "EQUAL") 2332, .int 22 2331⟩, ⟨PyData.keyHash P (Str.ofString "DOT"), .str (Str.ofString "DOT") 2334, .int 23 2333⟩, ⟨PyData.keyHash P (Str.ofString "PERCENT"), .str (Str.ofString "PERCENT") 2336, .int 24 2335⟩, ⟨PyData.keyHash P (Str.ofString "LBRACE"), .str (Str.ofString "LBRACE") 2338, .int 25 2337⟩, ⟨PyData.keyHash P (Str.ofString "RBRACE"), .str (Str.ofString "RBRACE") 2340, .int 26 2339⟩, ⟨PyData.keyHash P (Str.ofString "EQEQUAL"), .str (Str.ofString "EQEQUAL") 2342, .int 27 2341⟩, ⟨PyData.keyHash P (Str.ofString "NOTEQUAL"), .str (Str.ofString "NOTEQUAL") 2344, .int 28 2343⟩, ⟨PyData.keyHash P (Str.ofString "LESSEQUAL"), .str (Str.ofString "LESSEQUAL") 2346, .int 29 2345⟩, ⟨PyData.keyHash P (Str.ofString "GREATEREQUAL"), .str (Str.ofString "GREATEREQUAL") 2348, .int 30 2347⟩, ⟨PyData.keyHash P (Str.ofString "TILDE"), .str (Str.ofString "TILDE") 2350, .int 31 2349⟩, ⟨PyData.keyHash P (Str.ofString "CIRCUMFLEX"), .str (Str.ofString "CIRCUMFLEX") 2352, .int 32 2351⟩, ⟨PyData.keyHash P (Str.ofString "LEFTSHIFT"), .str (Str.ofString "LEFTSHIFT") 2354, .int 33 2353⟩, ⟨PyData.keyHash P (Str.ofString "RIGHTSHIFT"), .str (Str.ofString "RIGHTSHIFT") 2356, .int 34 2355⟩, ⟨PyData.keyHash P (Str.ofString "DOUBLESTAR"), .str (Str.ofString "DOUBLESTAR") 2358, .int 35 2357⟩, ⟨PyData.keyHash P (Str.ofString "PLUSEQUAL"), .str (Str.ofString "PLUSEQUAL") 2360, .int 36 2359⟩, ⟨PyData.keyHash P (Str.ofString "MINEQUAL"), .str (Str.ofString "MINEQUAL") 2362, .int 37 2361⟩, ⟨PyData.keyHash P (Str.ofString "STAREQUAL"), .str (Str.ofString "STAREQUAL") 2364, .int 38 2363⟩, ⟨PyData.keyHash P (Str.ofString "SLASHEQUAL"), .str (Str.ofString "SLASHEQUAL") 2366, .int 39 2365⟩, ⟨PyData.keyHash P (Str.ofString "PERCENTEQUAL"), .str (Str.ofString "PERCENTEQUAL") 2368, .int 40 2367⟩, ⟨PyData.keyHash P (Str.ofString "AMPEREQUAL"), .str (Str.ofString "AMPEREQUAL") 2370, .int 41 2369⟩, ⟨PyData.keyHash P (Str.ofString "VBAREQUAL"), .str (Str.ofString "VBAREQUAL") 2372, .int 42 2371⟩, ⟨PyData.keyHash P (Str.ofString "CIRCUMFLEXEQUAL"), .str (Str.ofString "CIRCUMFLEXEQUAL") 2374, .int 43 2373⟩, ⟨PyData.keyHash P (Str.ofString "LEFTSHIFTEQUAL"), .str (Str.ofString "LEFTSHIFTEQUAL") 2376, .int 44 2375⟩, ⟨PyData.keyHash P (Str.ofString "RIGHTSHIFTEQUAL"), .str (Str.ofString "RIGHTSHIFTEQUAL") 2378, .int 45 2377⟩, ⟨PyData.keyHash P (Str.ofString "DOUBLESTAREQUAL"), .str (Str.ofString "DOUBLESTAREQUAL") 2380, .int 46 2379⟩, ⟨PyData.keyHash P (Str.ofString "DOUBLESLASH"), .str (Str.ofString "DOUBLESLASH") 2382, .int 47 2381⟩, ⟨PyData.keyHash P (Str.ofString "DOUBLESLASHEQUAL"), .str (Str.ofString "DOUBLESLASHEQUAL") 2384, .int 48 2383⟩, ⟨PyData.keyHash P (Str.ofString "AT"), .str (Str.ofString "AT") 2386, .int 49 2385⟩, ⟨PyData.keyHash P (Str.ofString "ATEQUAL"), .str (Str.ofString "ATEQUAL") 2388, .int 50 2387⟩, ⟨PyData.keyHash P (Str.ofString "RARROW"), .str (Str.ofString "RARROW") 2390, .int 51 2389⟩, ⟨PyData.keyHash P (Str.ofString "ELLIPSIS"), .str (Str.ofString "ELLIPSIS") 2392, .int 52 2391⟩, ⟨PyData.keyHash P (Str.ofString "COLONEQUAL"), .str (Str.ofString "COLONEQUAL") 2394, .int 53 2393⟩, ⟨PyData.keyHash P (Str.ofString "EXCLAMATION"), .str (Str.ofString "EXCLAMATION") 2396, .int 54 2395⟩, ⟨PyData.keyHash P (Str.ofString "EXACT_TOKEN_TYPES"), .str (Str.ofString "EXACT_TOKEN_TYPES") 2493, .ref 121⟩, ⟨PyData.keyHash P (Str.ofString "ISEOF"), .str (Str.ofString "ISEOF") 2500, .ref 130⟩, ⟨PyData.keyHash P (Str.ofString "_law_cells"), .str (Str.ofString "_law_cells") 2511, .ref 137⟩, ⟨PyData.keyHash P (Str.ofString "_law_prepared"), .str (Str.ofString "_law_prepared") 2517, .ref 142⟩, ⟨PyData.keyHash P (Str.ofString "_law_sum"), .str (Str.ofString "_law_sum") 2529, .ref 149⟩, ⟨PyData.keyHash P (Str.ofString "_law_told"), .str (Str.ofString "_law_told") 2540, .ref 156⟩, ⟨PyData.keyHash P (Str.ofString "_law_measure"), .str (Str.ofString "_law_measure") 2549, .ref 163⟩, ⟨PyData.keyHash P (Str.ofString "_law_common"), .str (Str.ofString "_law_common") 2557, .ref 170⟩, ⟨PyData.keyHash P (Str.ofString "law"), .str (Str.ofString "law") 2574, .ref 177⟩] 78, #[]⟩
noncomputable def c8 (_ : Params) : Obj := ⟨.none, none, .fields #[.int 3 0, .int 0 0, .ref 20, .int 19 0, .int 0 0, .ref 27, .int 29 0, .int 0 0, .ref 34, .int 45 0, .int 0 0, .ref 41, .int 54 0, .int 0 0, .ref 48, .int 65 0, .int 0 0, .ref 55, .int 78 0, .int 0 0, .ref 73, .int 81 0, .int 0 0, .ref 119, .int 137 0, .int 0 0, .ref 129, .int 140 0, .int 0 0, .ref 136, .int 145 0, .int 0 0, .ref 141, .int 149 0, .int 0 0, .ref 148, .int 158 0, .int 0 0, .ref 155, .int 163 0, .int 0 0, .ref 162, .int 168 0, .int 0 0, .ref 169, .int 172 0, .int 0 0, .ref 176], #[]⟩
noncomputable def t8 (P : Params) : BT := (N (boot_o_0 P) (N (boot_o_1 P) (N (n8 P) (N (boot_o_7 P) (N (o15 P) (N (o31 P) (N (o63 P) (N (o127 P) Z Z) Z) (N (o95 P) (N (o159 P) Z Z) Z)) (N (o47 P) (N (o79 P) (N (o143 P) Z Z) Z) (N (o111 P) (N (o175 P) Z Z) Z))) (N (o23 P) (N (o39 P) (N (o71 P) (N (o135 P) Z Z) Z) (N (o103 P) (N (o167 P) Z Z) Z)) (N (o55 P) (N (o87 P) (N (o151 P) Z Z) Z) (N (o119 P) Z Z)))) (N (o11 P) (N (o19 P) (N (o35 P) (N (o67 P) (N (o131 P) Z Z) Z) (N (o99 P) (N (o163 P) Z Z) Z)) (N (o51 P) (N (o83 P) (N (o147 P) Z Z) Z) (N (o115 P) Z Z))) (N (o27 P) (N (o43 P) (N (o75 P) (N (o139 P) Z Z) Z) (N (o107 P) (N (o171 P) Z Z) Z)) (N (o59 P) (N (o91 P) (N (o155 P) Z Z) Z) (N (o123 P) Z Z))))) (N (boot_o_5 P) (N (boot_o_9 P) (N (o17 P) (N (o33 P) (N (o65 P) (N (o129 P) Z Z) Z) (N (o97 P) (N (o161 P) Z Z) Z)) (N (o49 P) (N (o81 P) (N (o145 P) Z Z) Z) (N (o113 P) (N (o177 P) Z Z) Z))) (N (o25 P) (N (o41 P) (N (o73 P) (N (o137 P) Z Z) Z) (N (o105 P) (N (o169 P) Z Z) Z)) (N (o57 P) (N (o89 P) (N (o153 P) Z Z) Z) (N (o121 P) Z Z)))) (N (o13 P) (N (o21 P) (N (o37 P) (N (o69 P) (N (o133 P) Z Z) Z) (N (o101 P) (N (o165 P) Z Z) Z)) (N (o53 P) (N (o85 P) (N (o149 P) Z Z) Z) (N (o117 P) Z Z))) (N (o29 P) (N (o45 P) (N (o77 P) (N (o141 P) Z Z) Z) (N (o109 P) (N (o173 P) Z Z) Z)) (N (o61 P) (N (o93 P) (N (o157 P) Z Z) Z) (N (o125 P) Z Z)))))) (N (boot_o_2 P) (N (boot_o_4 P) (N (boot_o_8 P) (N (o16 P) (N (o32 P) (N (o64 P) (N (o128 P) Z Z) Z) (N (o96 P) (N (o160 P) Z Z) Z)) (N (o48 P) (N (o80 P) (N (o144 P) Z Z) Z) (N (o112 P) (N (o176 P) Z Z) Z))) (N (o24 P) (N (o40 P) (N (o72 P) (N (o136 P) Z Z) Z) (N (o104 P) (N (o168 P) Z Z) Z)) (N (o56 P) (N (o88 P) (N (o152 P) Z Z) Z) (N (o120 P) Z Z)))) (N (c8 P) (N (o20 P) (N (o36 P) (N (o68 P) (N (o132 P) Z Z) Z) (N (o100 P) (N (o164 P) Z Z) Z)) (N (o52 P) (N (o84 P) (N (o148 P) Z Z) Z) (N (o116 P) Z Z))) (N (o28 P) (N (o44 P) (N (o76 P) (N (o140 P) Z Z) Z) (N (o108 P) (N (o172 P) Z Z) Z)) (N (o60 P) (N (o92 P) (N (o156 P) Z Z) Z) (N (o124 P) Z Z))))) (N (boot_o_6 P) (N (boot_o_10 P) (N (o18 P) (N (o34 P) (N (o66 P) (N (o130 P) Z Z) Z) (N (o98 P) (N (o162 P) Z Z) Z)) (N (o50 P) (N (o82 P) (N (o146 P) Z Z) Z) (N (o114 P) Z Z))) (N (o26 P) (N (o42 P) (N (o74 P) (N (o138 P) Z Z) Z) (N (o106 P) (N (o170 P) Z Z) Z)) (N (o58 P) (N (o90 P) (N (o154 P) Z Z) Z) (N (o122 P) Z Z)))) (N (o14 P) (N (o22 P) (N (o38 P) (N (o70 P) (N (o134 P) Z Z) Z) (N (o102 P) (N (o166 P) Z Z) Z)) (N (o54 P) (N (o86 P) (N (o150 P) Z Z) Z) (N (o118 P) Z Z))) (N (o30 P) (N (o46 P) (N (o78 P) (N (o142 P) Z Z) Z) (N (o110 P) (N (o174 P) Z Z) Z)) (N (o62 P) (N (o94 P) (N (o158 P) Z Z) Z) (N (o126 P) Z Z)))))))
noncomputable def s8 (w : World) (os : OsState) : SharedT := ⟨t8 w.params, 178, L0, #[], boot_drawn, 2575, os⟩
noncomputable def p8 : Pos := ⟨172, 0, 186, 123⟩

noncomputable def cd0 : Value := .ref 13
noncomputable def env : Env := { scope := PR.main.scope, locals := mainNs, globals := mainNs, cells := [], code := cd0, frame := some 14 }
noncomputable def top : List Stmt := behindTheImports PR
noncomputable def cE : Code := .body top env
noncomputable def B : List Frame := [topFrame ⟨0, 0, 0, 0⟩]
noncomputable def sts (i n : Nat) : List Stmt := (PR.main.body.drop i).take n
end
end M
end
section
open PySem PySem.W PyProof.Rows
set_option maxRecDepth 100000
namespace M
noncomputable section
noncomputable def ANN : Option Value := some (.ref 6)
noncomputable def S0 (w : World) (os : OsState) : Shared := ⟨boot_heap w.params, Array.mk [], boot_drawn, boot_toks, os⟩
theorem gpre (w : World) : (fun os => topGo treeTable PR w 11 ANN 12 (S0 w os) (topStub PR)) = fun os => some ((s0 w os).abs, ⟨denote treeTable cE, cE, p0, B⟩) := by
  kernel_rfl
theorem gblock (w : World) : (fun os => segRun treeTable PR w 11 ANN 1 1 (s0 w os).abs (blockOf top env cE p0 B)) = fun os => some (.next, (s0 w os).abs, cE, p0) := by
  kernel_rfl
theorem gfin (w : World) : (fun os => topRun treeTable PR w 11 ANN 2 (s8 w os).abs ⟨doneF .next, cE, p8, B⟩) = fun os => some (s8 w os).abs := by
  kernel_rfl
noncomputable def H1 (P : Params) : Heap := absHeap (t8 P) 178 L0
theorem top_eq : top = sts 0 9 ++ (sts 9 1 ++ (sts 10 1 ++ (sts 11 1 ++ (sts 12 23 ++ (sts 35 28 ++ (sts 63 1 ++ (sts 64 9 ++ []))))))) := by
  kernel_rfl
theorem size0 (w : World) : ((boot_heap w.params).isNs mainGlobals && (Array.mk [] : Array GenState).size == 0, (boot_heap w.params).objs.size, (boot_heap w.params).nsMap mainGlobals "__annotations__") = (true, 11, ANN) := by
  kernel_rfl
theorem open1 : opening PR = plainProg PR.main.scope.names := by kernel_rfl
theorem open2 (s : Shared) : fenceModules? PR s = some s := by kernel_rfl
theorem g1 (w : World) : (fun os => segRunT treeTable PR w 11 ANN 1 238 (s0 w os) (piecesOf (sts 0 9) env cE p0 B)) = fun os => some (.next, s1 w os, cE, p1) := by
  rw [PySem.W.Fast.te10110043849684766642, PySem.W.Fast.te14364793385576792824]
  unfold piecesOf
  rw [PySem.W.Fast.te12563942051412417395]
  kernel_rfl
theorem g2 (w : World) : (fun os => segRunT treeTable PR w 11 ANN 1 999 (s1 w os) (piecesOf (sts 9 1) env cE p1 B)) = fun os => some (.next, s2 w os, cE, p2) := by
  rw [PySem.W.Fast.te10110043849684766642, PySem.W.Fast.te14364793385576792824]
  unfold piecesOf
  rw [PySem.W.Fast.te12563942051412417395]
  revert w
  refine byRow2 "special-get-raises" ?_ ?_
  · intro w; kernel_rfl
  · intro w; kernel_rfl
theorem g3 (w : World) : (fun os => segRunT treeTable PR w 11 ANN 1 30 (s2 w os) (piecesOf (sts 10 1) env cE p2 B)) = fun os => some (.next, s3 w os, cE, p3) := by
  rw [PySem.W.Fast.te10110043849684766642, PySem.W.Fast.te14364793385576792824]
  unfold piecesOf
  rw [PySem.W.Fast.te12563942051412417395]
  kernel_rfl
theorem g5 (w : World) : (fun os => segRunT treeTable PR w 11 ANN 1 229 (s4 w os) (piecesOf (sts 12 23) env cE p4 B)) = fun os => some (.next, s5 w os, cE, p5) := by
  rw [PySem.W.Fast.te10110043849684766642, PySem.W.Fast.te14364793385576792824]
  unfold piecesOf
  rw [PySem.W.Fast.te12563942051412417395]
  kernel_rfl
theorem g6 (w : World) : (fun os => segRunT treeTable PR w 11 ANN 1 253 (s5 w os) (piecesOf (sts 35 28) env cE p5 B)) = fun os => some (.next, s6 w os, cE, p6) := by
  rw [PySem.W.Fast.te10110043849684766642, PySem.W.Fast.te14364793385576792824]
  unfold piecesOf
  rw [PySem.W.Fast.te12563942051412417395]
  kernel_rfl
theorem g7 (w : World) : (fun os => segRunT treeTable PR w 11 ANN 1 979 (s6 w os) (piecesOf (sts 63 1) env cE p6 B)) = fun os => some (.next, s7 w os, cE, p7) := by
  rw [PySem.W.Fast.te10110043849684766642, PySem.W.Fast.te14364793385576792824]
  unfold piecesOf
  rw [PySem.W.Fast.te12563942051412417395]
  revert w
  refine byRow2 "special-get-raises" ?_ ?_
  · intro w; kernel_rfl
  · intro w; kernel_rfl
theorem g8 (w : World) : (fun os => segRunT treeTable PR w 11 ANN 1 263 (s7 w os) (piecesOf (sts 64 9) env cE p7 B)) = fun os => some (.next, s8 w os, cE, p8) := by
  rw [PySem.W.Fast.te10110043849684766642, PySem.W.Fast.te14364793385576792824]
  unfold piecesOf
  rw [PySem.W.Fast.te12563942051412417395]
  kernel_rfl
noncomputable def sortedB : List (Int × Str) → Bool
  | (i, _) :: (j, y) :: r => decide (i < j) && sortedB ((j, y) :: r)
  | _ => true
theorem sorted_lt : ∀ {l : List (Int × Str)} {i : Int} {x : Str}, sortedB ((i, x) :: l) = true → ∀ y ∈ l, i < y.1
  | [], _, _, _, y, h => by cases h
  | (j, z) :: r, i, x, h, y, hy => by
    simp only [sortedB, Bool.and_eq_true, decide_eq_true_eq] at h
    rcases List.mem_cons.mp hy with rfl | hy
    · exact h.1
    · exact Int.lt_trans h.1 (sorted_lt h.2 y hy)
theorem sorted_nodup : ∀ {l : List (Int × Str)}, sortedB l = true → (l.map (·.1)).Nodup
  | [], _ => .nil
  | (i, x) :: r, h => by
    rw [List.map_cons, List.nodup_cons]
    refine ⟨fun hm => ?_, sorted_nodup (l := r) ?_⟩
    · obtain ⟨y, hy, e⟩ := List.mem_map.mp hm
      have := sorted_lt h y hy
      omega
    · cases r with
      | nil => rfl
      | cons y r => obtain ⟨j, z⟩ := y; simp only [sortedB, Bool.and_eq_true] at h; exact h.2
theorem b3_sorted : sortedB b3I = true := by kernel_rfl
theorem b3_ok : astOk b3K b3V = true := by kernel_rfl
theorem b3_len : b3I.length = 650 := by kernel_rfl
noncomputable def T11 : List Expr := match stAt 11 with | .Assign t _ _ => t | _ => []
noncomputable def q11 : Pos := match stAt 11 with | .Assign _ (.Dict _ _ p) _ => p | _ => default
noncomputable def r11 : Pos := match stAt 11 with | .Assign _ _ p => p | _ => default
theorem st11 : sts 11 1 = [.Assign T11 (.Dict b3K b3V q11) r11] := by kernel_rfl
theorem b3_cut : b3I = b3I.take 17 ++ ((b3I.drop 17).take 629 ++ (b3I.drop 17).drop 629) := by
  rw [List.take_append_drop, List.take_append_drop]
noncomputable def s4h (w : World) (os : OsState) : Shared := ⟨hp (absHeap (t3 w.params) 75 L0) (D (ents 338 3 (b3I.take 17 ++ (b3I.drop 17).take 629) ++ ents 2276 2 ((b3I.drop 17).drop 629)) 650) (subsOf 37 389 ((b3I.drop 17).take 629) ++ [D (ents 2276 2 ((b3I.drop 17).drop 629)) 4]), #[], boot_drawn, 2288, os⟩
theorem swaps0 : swapsWithSole T11 (.Dict b3K b3V q11) r11.line env = pure false := by kernel_rfl
theorem stores0 : swappedStores T11 (.Dict b3K b3V q11) env = pure none := by kernel_rfl
theorem assign0 (w : World) : (fun (os : OsState) (lv : List Value → List Value) (H : Value → Sem Fin) (gd : Bool → Bool) (K : Flow → Sem Fin) (c : Code) => segGo treeTable PR w 11 ANN 1 7 (s4h w os) ⟨(assignStores env (.ref 75) none ((assignEach T11 env).map (·.2))).wrap K H gd lv, c, q11, B⟩) = fun os _ _ _ K c => some ((s4 w os).abs, ⟨K .next, c, p4, B⟩) := by
  kernel_rfl
theorem len_a : (b3I.take 17).length = 17 := by rw [List.length_take, b3_len]; rfl
theorem len_b : ((b3I.drop 17).take 629).length = 629 := by rw [List.length_take, List.length_drop, b3_len]; rfl
theorem len_c : ((b3I.drop 17).drop 629).length = 4 := by rw [List.length_drop, List.length_drop, b3_len]
theorem eval_dictD (ks : List (Option Expr)) (vs : List Expr) (pos : Pos) (env : Env) : eval (.Dict ks vs pos) env = (do standAt pos; dictDisplay ((evalEachOpt ks env).zip ((evalEach vs env).map fun v => do let x ← v; standAt pos; pure x))) := rfl
theorem ev11 (w : World) (os : OsState) : Ev 12525 treeTable PR w 11 ANN ⟨0, 0, 0, 0⟩ (execs (sts 11 1) env) (s3 w os).abs p3 .next (s4 w os).abs p4 := by
  rw [st11]
  show Ev 12525 treeTable PR w 11 ANN ⟨0, 0, 0, 0⟩ (exec (.Assign T11 (.Dict b3K b3V q11) r11) env >>= fun f => match f with | .next => execs [] env | f => pure f) _ _ _ _ _
  refine ev_bindp (a := .next) ?_ ev_pure
  rw [exec_Assign]
  refine ev_bind (i := 1) (j := 12524) ev_standAt ?_
  rw [swaps0]
  refine ev_bind (i := 0) (j := 12524) ev_pure ?_
  rw [if_neg (by simp)]
  refine ev_bind (i := 12517) (j := 7) (a := .ref 75) (s' := s4h w os) (ps' := q11) ?_ ?_
  · rw [eval_dictD]
    refine ev_bind (i := 1) (j := 12516) ev_standAt ?_
    obtain ⟨kvs, e, I⟩ := items_ast (p := PR) (w := w) (n₀ := 11) (ann := ANN) (q := ⟨0, 0, 0, 0⟩) env q11 b3K b3V b3_ok
    rw [e]
    have nd := sorted_nodup b3_sorted
    rw [show astIx b3K b3V = b3I from rfl, b3_cut] at I
    rw [b3_cut] at nd
    have d := ev_display (s := (s3 w os).abs) (ps := q11) 37 I len_a len_b (by intro h; have := len_c; rw [h] at this; cases this) (by rw [len_c]; omega) nd (by rw [← b3_cut, b3_len]; omega) (by rw [show (s3 w os).abs.heap.objs.size = 75 from absHeap_size _ _ _]; omega) (by rw [show (s3 w os).abs.heap.objs.size = 75 from absHeap_size _ _ _]; omega)
    rw [← b3_cut, b3_len, len_c, show (b3I.take 17 ++ (b3I.drop 17).take 629).length = 646 by rw [List.length_append, len_a, len_b], show (s3 w os).abs.heap.objs.size = 75 from absHeap_size _ _ _] at d
    exact d
  · refine ev_bind (i := 0) (j := 7) (a := none) (s' := s4h w os) (ps' := q11) (by rw [stores0]; exact ev_pure) ?_
    intro lv H gd K c
    exact ⟨7, Nat.le_refl _, congrFun (congrFun (congrFun (congrFun (congrFun (congrFun (assign0 w) os) lv) H) gd) K) c⟩
theorem g4 (w : World) (os : OsState) : segRun treeTable PR w 11 ANN 1 12526 (s3 w os).abs (piecesOf (sts 11 1) env cE p3 B) = some (.next, (s4 w os).abs, cE, p4) :=
  (ev11 w os id deadEnd id doneF cE).run (N := 1) rfl (Nat.le_refl _)

noncomputable def MM : Nat := 12 + (1 + (238 + (999 + (30 + (12526 + (229 + (253 + (979 + (263 + 2)))))))))
theorem run (w : World) (os : OsState) : topRun treeTable PR w 11 ANN MM (S0 w os) (topStub PR) = some (s8 w os).abs := by
  refine go_top (congrFun (gpre w) os) ?_
  refine piece_block (congrFun (gblock w) os) ?_
  show topRun treeTable PR w 11 ANN _ _ (restOf top env cE p0 [topFrame ⟨0, 0, 0, 0⟩]) = _
  rw [top_eq]
  refine piece_app (segRun_of (congrFun (g1 w) os)) ?_
  refine piece_app (segRun_of (congrFun (g2 w) os)) ?_
  refine piece_app (segRun_of (congrFun (g3 w) os)) ?_
  refine piece_app (g4 w os) ?_
  refine piece_app (segRun_of (congrFun (g5 w) os)) ?_
  refine piece_app (segRun_of (congrFun (g6 w) os)) ?_
  refine piece_app (segRun_of (congrFun (g7 w) os)) ?_
  refine piece_app (segRun_of (congrFun (g8 w) os)) ?_
  exact piece_nil (congrFun (gfin w) os)

noncomputable def q : Program := { PR with main := { PR.main with body := [stAt 1, stAt 2, stAt 3, stAt 4, stAt 5, stAt 6, stAt 7, stAt 10, stAt 12, stAt 14, stAt 15, stAt 16, stAt 17, stAt 18, stAt 19, stAt 20, stAt 21, stAt 22, stAt 23, stAt 24, stAt 25, stAt 26, stAt 27, stAt 28, stAt 29, stAt 30, stAt 31, stAt 32, stAt 33, stAt 34, stAt 35, stAt 36, stAt 37, stAt 38, stAt 39, stAt 40, stAt 41, stAt 42, stAt 43, stAt 44, stAt 45, stAt 46, stAt 47, stAt 48, stAt 49, stAt 50, stAt 51, stAt 52, stAt 53, stAt 54, stAt 55, stAt 56, stAt 57, stAt 58, stAt 59, stAt 60, stAt 61, stAt 62, stAt 64, stAt 66, stAt 67, stAt 68, stAt 69, stAt 70, stAt 71, stAt 72] } }
noncomputable def loose : List Str := [Str.ofString "b1_set", Str.ofString "b3_exceptions", Str.ofString "EXACT_TOKEN_TYPES"]
noncomputable def K (P : Params) : Frag := (nat_lit 2, boot_o_2 P) :: (nat_lit 3, n8 P) :: (nat_lit 6, boot_o_6 P) :: (nat_lit 15, o15 P) :: (nat_lit 17, o17 P) :: (nat_lit 18, o18 P) :: (nat_lit 20, o20 P) :: (nat_lit 21, o21 P) :: (nat_lit 22, o22 P) :: (nat_lit 24, o24 P) :: (nat_lit 25, o25 P) :: (nat_lit 27, o27 P) :: (nat_lit 28, o28 P) :: (nat_lit 29, o29 P) :: (nat_lit 31, o31 P) :: (nat_lit 32, o32 P) :: (nat_lit 34, o34 P) :: (nat_lit 35, o35 P) :: (nat_lit 36, o36 P) :: (nat_lit 38, o38 P) :: (nat_lit 39, o39 P) :: (nat_lit 41, o41 P) :: (nat_lit 42, o42 P) :: (nat_lit 43, o43 P) :: (nat_lit 45, o45 P) :: (nat_lit 46, o46 P) :: (nat_lit 48, o48 P) :: (nat_lit 49, o49 P) :: (nat_lit 50, o50 P) :: (nat_lit 52, o52 P) :: (nat_lit 53, o53 P) :: (nat_lit 55, o55 P) :: (nat_lit 56, o56 P) :: (nat_lit 64, o64 P) :: (nat_lit 68, o68 P) :: (nat_lit 70, o70 P) :: (nat_lit 71, o71 P) :: (nat_lit 73, o73 P) :: (nat_lit 74, o74 P) :: (nat_lit 75, o75 P) :: (nat_lit 114, o114 P) :: (nat_lit 116, o116 P) :: (nat_lit 117, o117 P) :: (nat_lit 119, o119 P) :: (nat_lit 120, o120 P) :: (nat_lit 121, o121 P) :: (nat_lit 124, o124 P) :: (nat_lit 126, o126 P) :: (nat_lit 127, o127 P) :: (nat_lit 129, o129 P) :: (nat_lit 130, o130 P) :: (nat_lit 131, o131 P) :: (nat_lit 133, o133 P) :: (nat_lit 134, o134 P) :: (nat_lit 136, o136 P) :: (nat_lit 137, o137 P) :: (nat_lit 138, o138 P) :: (nat_lit 141, o141 P) :: (nat_lit 142, o142 P) :: (nat_lit 143, o143 P) :: (nat_lit 145, o145 P) :: (nat_lit 146, o146 P) :: (nat_lit 148, o148 P) :: (nat_lit 149, o149 P) :: (nat_lit 150, o150 P) :: (nat_lit 152, o152 P) :: (nat_lit 153, o153 P) :: (nat_lit 155, o155 P) :: (nat_lit 156, o156 P) :: (nat_lit 157, o157 P) :: (nat_lit 159, o159 P) :: (nat_lit 160, o160 P) :: (nat_lit 162, o162 P) :: (nat_lit 163, o163 P) :: (nat_lit 164, o164 P) :: (nat_lit 166, o166 P) :: (nat_lit 167, o167 P) :: (nat_lit 169, o169 P) :: (nat_lit 170, o170 P) :: (nat_lit 171, o171 P) :: (nat_lit 173, o173 P) :: (nat_lit 174, o174 P) :: (nat_lit 176, o176 P) :: (nat_lit 177, o177 P) :: []
noncomputable def KA : List Addr := [2, 3, 6, 15, 17, 18, 20, 21, 22, 24, 25, 27, 28, 29, 31, 32, 34, 35, 36, 38, 39, 41, 42, 43, 45, 46, 48, 49, 50, 52, 53, 55, 56, 64, 68, 70, 71, 73, 74, 75, 114, 116, 117, 119, 120, 121, 124, 126, 127, 129, 130, 131, 133, 134, 136, 137, 138, 141, 142, 143, 145, 146, 148, 149, 150, 152, 153, 155, 156, 157, 159, 160, 162, 163, 164, 166, 167, 169, 170, 171, 173, 174, 176, 177]
noncomputable def H : Hook := kHook K KA (fun _ => by kernel_rfl)

noncomputable def Xt (s : Shared) : Bool := xlAt q [] s && recOk [] s
noncomputable def SF (w : World) (os : OsState) : Shared := ⟨H1 w.params, Array.mk [], boot_drawn, 2575, os⟩
theorem look1 (w : World) : (fun os => (staticsOk (importedModules PR.main.body) (boot_heap w.params) (H1 w.params) && namesBound PR (H1 w.params) && gensDone (SF w os) && laidKept (boot_heap w.params) (H1 w.params))) = fun _ => true := by
  kernel_rfl
theorem look3 (w : World) : (fun os => Hook.obs H (SF w os)) = fun _ => Hook.val H w := by
  kernel_rfl
theorem lk1 (w : World) : (fun os => seen ((recsOf q).map (·.name)) (ownsOf q) [] { SF w os with gens := #[] }) = fun _ => expectedOf q := by kernel_rfl
theorem lk2 (w : World) : (fun os => (SF w os).heap.bltView) = fun _ => bltViewBooted := by kernel_rfl
theorem lk31 (w : World) : (fun os => (SF w os).heap.keysOk (looseW q loose) ((recsOf q).map (·.name)) ((litsOf q).map (·.1)) ((clssOf q (looseW q loose)).map (·.name))) = fun _ => true := by kernel_rfl
theorem lk32 (w : World) : (fun os => (SF w os).heap.accountedOkI (importedModules PR.main.body)) = fun _ => true := by kernel_rfl
theorem lk33 (w : World) : (fun os => (SF w os).heap.isNs mainGlobals) = fun _ => true := by kernel_rfl
theorem lk38 (w : World) : (fun os => (SF w os).heap.isNs builtinsNs) = fun _ => true := by kernel_rfl
theorem lk34 (w : World) : (fun os => tablesOk q (SF w os).heap) = fun _ => true := by kernel_rfl
theorem lk35 (w : World) : (fun os => Xt (SF w os)) = fun _ => true := by kernel_rfl
theorem lk37 (w : World) : (fun os => (if true = true then (SF w os).gens.size == 0 else !leftWithCleanup (SF w os).gens)) = fun _ => true := by kernel_rfl
theorem lk4 (w : World) : (fun os => tabsOk q (SF w os)) = fun _ => true := by kernel_rfl
theorem lk5 (w : World) : (fun os => pinSeenD q (drecsOf q) (SF w os)) = fun _ => pinGoodD (drecsOf q) := by kernel_rfl
theorem lk6 (w : World) : (fun os => plainSeenE q (looseW q loose) (SF w os)) = fun _ => plainGoodE q (looseW q loose) := by kernel_rfl
theorem lk7 (w : World) : (fun os => plainSeenD q loose (SF w os)) = fun _ => plainGoodD q loose := by kernel_rfl
theorem lk8 (w : World) : (fun os => wideSeen q (SF w os)) = fun _ => wideGood q := by kernel_rfl
theorem lk9 (w : World) : (fun os => clsSeenW q loose (SF w os)) = fun _ => clsGoodW q loose := by kernel_rfl
theorem lk3 (w : World) (os : OsState) : ((SF w os).heap.keysOk (looseW q loose) ((recsOf q).map (·.name)) ((litsOf q).map (·.1)) ((clssOf q (looseW q loose)).map (·.name)) && (SF w os).heap.accountedOkI (importedModules PR.main.body) && (SF w os).heap.isNs mainGlobals && (SF w os).heap.isNs builtinsNs && tablesOk q (SF w os).heap && Xt (SF w os) && (if true = true then (SF w os).gens.size == 0 else !leftWithCleanup (SF w os).gens)) = true :=
  look_both (look_both (look_both (look_both (look_both (look_both (congrFun (lk31 w) os) (congrFun (lk32 w) os)) (congrFun (lk33 w) os)) (congrFun (lk38 w) os)) (congrFun (lk34 w) os)) (congrFun (lk35 w) os)) (congrFun (lk37 w) os)
theorem nine {A1 A2 A3 A4 A5 A6 A7 A8 A9 : Type} {a1 b1 : A1} {a2 b2 : A2} {a3 b3 : A3} {a4 b4 : A4} {a5 b5 : A5} {a6 b6 : A6} {a7 b7 : A7} {a8 b8 : A8} {a9 b9 : A9}
    (h1 : a1 = b1) (h2 : a2 = b2) (h3 : a3 = b3) (h4 : a4 = b4) (h5 : a5 = b5) (h6 : a6 = b6) (h7 : a7 = b7) (h8 : a8 = b8) (h9 : a9 = b9) : (a1, a2, a3, a4, a5, a6, a7, a8, a9) = (b1, b2, b3, b4, b5, b6, b7, b8, b9) := by
  subst h1 h2 h3 h4 h5 h6 h7 h8 h9; rfl
theorem look2 (w : World) (os : OsState) : openSeen q loose (importedModules PR.main.body) Xt true (SF w os) = openGood q loose :=
  nine (congrFun (lk1 w) os) (congrFun (lk2 w) os) (lk3 w os) (congrFun (lk4 w) os) (congrFun (lk5 w) os) (congrFun (lk6 w) os) (congrFun (lk7 w) os) (congrFun (lk8 w) os) (congrFun (lk9 w) os)
theorem left : LeftO PR q loose Xt (Hook.obs H) (Hook.val H) 20000 true :=
  LeftO.of_pieces (H₀ := boot_heap) (H₁ := H1) (gs₀ := Array.mk []) (gs₁ := Array.mk []) (d₀ := boot_drawn) (d₁ := boot_drawn) (k₀ := boot_toks) (k₁ := 2575) (m₀ := 11) (ann := ANN) (M := MM)
    (boot_open open1 (by decide) open2) size0 (fun w os => run w os) (by decide +kernel)
    (fun w => funext fun os => Prod.ext (congrFun (look1 w) os) (Prod.ext (look2 w os) (congrFun (look3 w) os)))
end
end M
end
section
open PySem PySem.W PyProof.Rows
set_option maxRecDepth 100000
namespace M
/-! plain facts: shifts, xor, figures -/
theorem pow_pos2 (s : Nat) : (0 : Int) < 2 ^ s := by
  exact Int.pow_pos (by decide)
theorem and_high (s : Nat) : ∀ x : Int, Builtin.bitAnd x (x / 2 ^ s * 2 ^ s) = x / 2 ^ s * 2 ^ s := by
  induction s with
  | zero =>
    intro x
    simp only [Int.pow_zero, Int.ediv_one, Int.mul_one]
    have h := bitXor_and x x
    rw [bitXor_self] at h
    omega
  | succ s ih =>
    intro x
    have e1 : x / 2 ^ (s + 1) * 2 ^ (s + 1) = 2 * (x / 2 / 2 ^ s * 2 ^ s) := by
      rw [Int.pow_succ, Int.mul_comm (2 ^ s) 2, ← Int.ediv_ediv_of_nonneg (by decide : (0:Int) ≤ 2)]
      rw [Int.mul_comm 2 (2 ^ s), ← Int.mul_assoc, Int.mul_comm]
    rw [e1, kbt_halves]
    have e2 : 2 * (x / 2 / 2 ^ s * 2 ^ s) / 2 = x / 2 / 2 ^ s * 2 ^ s := Int.mul_ediv_cancel_left _ (by decide)
    have e3 : ¬ (x % 2 = 1 ∧ 2 * (x / 2 / 2 ^ s * 2 ^ s) % 2 = 1) := by
      rintro ⟨_, h⟩
      rw [Int.mul_emod_right] at h
      omega
    rw [e2, if_neg e3, ih (x / 2)]
    omega
theorem xor_low (s : Nat) (x : Int) : Builtin.bitXor x (x / 2 ^ s * 2 ^ s) = x % 2 ^ s := by
  rw [bitXor_and, and_high]
  have := Int.emod_add_mul_ediv x (2 ^ s)
  rw [Int.mul_comm] at this
  omega
theorem fdiv_pow (x : Int) (s : Nat) : x.fdiv (2 ^ s) = x / 2 ^ s := Int.fdiv_eq_ediv_of_nonneg _ (Int.le_of_lt (pow_pos2 s))
/-- k figures to the base 2 ^ b, the lowest first -/
noncomputable def dig (b : Nat) : Nat → Int → List Int
  | 0, _ => []
  | k + 1, x => x % 2 ^ b :: dig b k (x / 2 ^ b)
theorem dig_length (b : Nat) : ∀ k x, (dig b k x).length = k
  | 0, _ => rfl
  | k + 1, x => by simp [dig, dig_length b k]
theorem pow_add2 (a b : Nat) : (2 : Int) ^ (a + b) = 2 ^ a * 2 ^ b := Int.pow_add 2 a b
theorem dig_split (b : Nat) : ∀ (i j : Nat) (x : Int), dig b (i + j) x = dig b i (x % 2 ^ (b * i)) ++ dig b j (x / 2 ^ (b * i))
  | 0, j, x => by simp [dig, Int.ediv_one]
  | i + 1, j, x => by
    rw [show i + 1 + j = (i + j) + 1 by omega]
    simp only [dig, List.cons_append]
    rw [dig_split b i j]
    have hb : b * (i + 1) = b + b * i := by rw [Nat.mul_add, Nat.mul_one, Nat.add_comm]
    have hdvd : (2 : Int) ^ b ∣ 2 ^ (b * (i + 1)) := by rw [hb, pow_add2]; exact Int.dvd_mul_right _ _
    have e1 : x % 2 ^ (b * (i + 1)) % 2 ^ b = x % 2 ^ b := Int.emod_emod_of_dvd x hdvd
    have e2 : x / 2 ^ b / 2 ^ (b * i) = x / 2 ^ (b * (i + 1)) := by
      rw [hb, pow_add2, Int.ediv_ediv_of_nonneg (Int.le_of_lt (pow_pos2 b))]
    have e3 : x % 2 ^ (b * (i + 1)) / 2 ^ b = x / 2 ^ b % 2 ^ (b * i) := by
      have h1 := Int.emod_add_mul_ediv x (2 ^ (b * (i + 1)))
      have h2 : x = x % 2 ^ (b * (i + 1)) + 2 ^ b * (2 ^ (b * i) * (x / 2 ^ (b * (i + 1)))) := by
        rw [← Int.mul_assoc, ← pow_add2, ← hb]; exact h1.symm
      have h3 : x / 2 ^ b = x % 2 ^ (b * (i + 1)) / 2 ^ b + 2 ^ (b * i) * (x / 2 ^ (b * (i + 1))) := by
        conv => lhs; rw [h2]
        rw [Int.add_mul_ediv_left _ _ (Int.ne_of_gt (pow_pos2 b))]
      rw [h3, Int.add_mul_emod_self_left]
      refine (Int.emod_eq_of_lt ?_ ?_).symm
      · exact Int.ediv_nonneg (Int.emod_nonneg _ (Int.ne_of_gt (pow_pos2 _))) (Int.le_of_lt (pow_pos2 b))
      · refine Int.ediv_lt_of_lt_mul (pow_pos2 b) ?_
        rw [← pow_add2, Nat.add_comm (b * i) b, ← hb]
        exact Int.emod_lt_of_pos _ (pow_pos2 _)
    rw [e1, e2, e3]
theorem dig_one (b : Nat) {x : Int} (h0 : 0 ≤ x) (h1 : x < 2 ^ (b * 1)) : dig b 1 x = [x] := by
  simp only [dig]
  rw [Nat.mul_one] at h1
  rw [Int.emod_eq_of_lt h0 h1]
/-- a number of figures -/
noncomputable def val (b : Nat) : List Int → Int
  | [] => 0
  | d :: r => d + 2 ^ b * val b r
theorem val_append (b : Nat) : ∀ u v : List Int, val b (u ++ v) = val b u + 2 ^ (b * u.length) * val b v
  | [], v => by simp [val]
  | d :: u, v => by
    simp only [List.cons_append, val, val_append b u v, List.length_cons]
    rw [Nat.mul_add, Nat.mul_one, Nat.add_comm (b * u.length) b, pow_add2, Int.mul_add, Int.mul_assoc, Int.add_assoc]
theorem val_dig (b : Nat) : ∀ (k : Nat) (x : Int), 0 ≤ x → x < 2 ^ (b * k) → val b (dig b k x) = x
  | 0, x, h0, h1 => by simp at h1; simp [dig, val]; omega
  | k + 1, x, h0, h1 => by
    have hb : b * (k + 1) = b + b * k := by rw [Nat.mul_add, Nat.mul_one, Nat.add_comm]
    simp only [dig, val]
    rw [val_dig b k (x / 2 ^ b) (Int.ediv_nonneg h0 (Int.le_of_lt (pow_pos2 b))) (Int.ediv_lt_of_lt_mul (pow_pos2 b) (by rw [Int.mul_comm, ← pow_add2, ← hb]; exact h1))]
    exact Int.emod_add_mul_ediv x (2 ^ b)
theorem val_bounds (b : Nat) : ∀ l : List Int, (∀ d ∈ l, 0 ≤ d ∧ d < 2 ^ b) → 0 ≤ val b l ∧ val b l < 2 ^ (b * l.length)
  | [], _ => by simp [val]
  | d :: r, h => by
    obtain ⟨h0, h1⟩ := h d (.head _)
    obtain ⟨r0, r1⟩ := val_bounds b r fun e he => h e (.tail _ he)
    have hp := pow_pos2 b
    simp only [val, List.length_cons]
    rw [Nat.mul_add, Nat.mul_one, Nat.add_comm (b * r.length) b, pow_add2]
    refine ⟨Int.add_nonneg h0 (Int.mul_nonneg (Int.le_of_lt hp) r0), ?_⟩
    have : 2 ^ b * (val b r + 1) ≤ 2 ^ b * 2 ^ (b * r.length) := Int.mul_le_mul_of_nonneg_left (by omega) (Int.le_of_lt hp)
    rw [Int.mul_add, Int.mul_one] at this
    omega
theorem dig_val (b : Nat) : ∀ l : List Int, (∀ d ∈ l, 0 ≤ d ∧ d < 2 ^ b) → dig b l.length (val b l) = l
  | [], _ => rfl
  | d :: r, h => by
    obtain ⟨h0, h1⟩ := h d (.head _)
    have hp := pow_pos2 b
    simp only [val, List.length_cons, dig]
    rw [Int.add_mul_emod_self_left, Int.emod_eq_of_lt h0 h1, Int.add_mul_ediv_left _ _ (Int.ne_of_gt hp), Int.ediv_eq_zero_of_lt h0 h1, Int.zero_add, dig_val b r fun e he => h e (.tail _ he)]
theorem dig_bounds (b : Nat) : ∀ k x, ∀ d ∈ dig b k x, 0 ≤ d ∧ d < 2 ^ b
  | 0, _, d, h => by cases h
  | k + 1, x, d, h => by
    rcases List.mem_cons.mp h with rfl | h
    · exact ⟨Int.emod_nonneg _ (Int.ne_of_gt (pow_pos2 b)), Int.emod_lt_of_pos _ (pow_pos2 b)⟩
    · exact dig_bounds b k _ d h
theorem cut_join (ns : List Int) (lo k j : Nat) (u v : List Int) (hu : u.length = k) (h : lo + k + j ≤ ns.length) :
    (ns.take lo ++ u ++ ns.drop (lo + k)).take (lo + k) ++ v ++ (ns.take lo ++ u ++ ns.drop (lo + k)).drop (lo + k + j) = ns.take lo ++ (u ++ v) ++ ns.drop (lo + k + j) := by
  have e : (ns.take lo ++ u).length = lo + k := by rw [List.length_append, List.length_take, hu]; omega
  rw [List.take_left' e, ← List.drop_drop, List.drop_left' e, List.drop_drop]
  simp [List.append_assoc]
theorem cut_len (ns : List Int) (lo k : Nat) (u : List Int) (hu : u.length = k) (h : lo + k ≤ ns.length) : (ns.take lo ++ u ++ ns.drop (lo + k)).length = ns.length := by
  simp only [List.length_append, List.length_take, List.length_drop, hu]; omega
theorem half_mid {lo hi : Int} {sz : Nat} (h : hi = lo + sz) (h0 : 0 ≤ lo) : (lo + hi).fdiv (2 ^ Int.toNat 1) = lo + ((sz / 2 : Nat) : Int) := by
  rw [show (2 : Int) ^ Int.toNat 1 = 2 from rfl, Int.fdiv_eq_ediv_of_nonneg _ (by decide)]
  omega
theorem log2_lt_of {x : Int} {k : Nat} (h0 : 0 ≤ x) (h1 : x < 2 ^ k) : Builtin.Int.intBits x ≤ k := by
  unfold Builtin.Int.intBits
  by_cases hx : x = 0
  · subst hx; simp
  · rw [if_neg (by simpa using hx)]
    have : x.natAbs < 2 ^ k := by
      have e : ((2 ^ k : Nat) : Int) = 2 ^ k := by norm_cast
      omega
    have := (Nat.log2_lt (show x.natAbs ≠ 0 by omega)).mpr this
    omega
theorem split_facts {b sz : Nat} {x lo hi : Int} (h : hi = lo + sz) (h0 : 0 ≤ lo) (hx0 : 0 ≤ x) (hx1 : x < 2 ^ (b * sz)) (hb : b ≤ 10000) (hsz : sz ≤ 1000) :
    let mid := (lo + hi).fdiv (2 ^ Int.toNat 1)
    let S := (mid - lo) * (b : Int)
    mid = lo + ((sz / 2 : Nat) : Int) ∧ 0 ≤ S ∧ (Builtin.Int.intBits (x.fdiv (2 ^ S.toNat)) : Int) + S ≤ 2 ^ 27 ∧
    Builtin.bitXor x (x.fdiv (2 ^ S.toNat) * 2 ^ S.toNat) = x % 2 ^ (b * (sz / 2)) ∧ x.fdiv (2 ^ S.toNat) = x / 2 ^ (b * (sz / 2)) := by
  intro mid S
  have hm : mid = lo + ((sz / 2 : Nat) : Int) := half_mid h h0
  have hS : S = ((b * (sz / 2) : Nat) : Int) := by
    show (mid - lo) * (b : Int) = _
    rw [hm]
    push_cast
    rw [show lo + (sz : Int) / 2 - lo = (sz : Int) / 2 by omega, Int.mul_comm]
  have hSn : S.toNat = b * (sz / 2) := by rw [hS]; rfl
  have hq : x.fdiv (2 ^ S.toNat) = x / 2 ^ (b * (sz / 2)) := by rw [hSn, fdiv_pow]
  refine ⟨hm, by omega, ?_, by rw [hq, hSn]; exact xor_low _ _, hq⟩
  rw [hq, hS]
  have hb2 : b * sz ≤ 10000 * 1000 := Nat.mul_le_mul hb hsz
  have hb3 : b * (sz / 2) ≤ b * sz := Nat.mul_le_mul_left _ (Nat.div_le_self _ _)
  have h1 : x / 2 ^ (b * (sz / 2)) < 2 ^ (b * sz) := Int.lt_of_le_of_lt (Int.ediv_le_self _ hx0) hx1
  have := log2_lt_of (Int.ediv_nonneg hx0 (Int.le_of_lt (pow_pos2 _))) h1
  omega
theorem seg_split (ns : List Int) (lo k j : Nat) : (ns.drop lo).take (k + j) = (ns.drop lo).take k ++ (ns.drop (lo + k)).take j := by
  rw [List.take_add, List.drop_drop]
theorem shift_facts {b sz : Nat} {lo hi : Int} (h : hi = lo + sz) (h0 : 0 ≤ lo) (hb : b ≤ 10000) (hsz : sz ≤ 1000) :
    let mid := (lo + hi).fdiv (2 ^ Int.toNat 1)
    let S := (mid - lo) * (b : Int)
    mid = lo + ((sz / 2 : Nat) : Int) ∧ 0 ≤ S ∧ S.toNat = b * (sz / 2) ∧ S ≤ 10000000 := by
  intro mid S
  have hm : mid = lo + ((sz / 2 : Nat) : Int) := half_mid h h0
  have hS : S = ((b * (sz / 2) : Nat) : Int) := by
    show (mid - lo) * (b : Int) = _
    rw [hm]
    push_cast
    rw [show lo + (sz : Int) / 2 - lo = (sz : Int) / 2 by omega, Int.mul_comm]
  have hb2 : b * (sz / 2) ≤ 10000 * 1000 := Nat.mul_le_mul hb (by omega)
  exact ⟨hm, by omega, by rw [hS]; rfl, by omega⟩
theorem seg_mem {ns : List Int} {lo k : Nat} {d : Int} (h : d ∈ (ns.drop lo).take k) : d ∈ ns := List.mem_of_mem_drop (List.mem_of_mem_take h)
theorem val_one (b : Nat) (x : Int) : val b [x] = x := by simp [val]
end M
end
section
open PySem PySem.W PyProof.Rows
set_option maxRecDepth 100000
namespace M
/-- long division under way: what is left of the figures, the answer's figures so far, the rest -/
noncomputable def LDiv (n : Nat) (b : Int) (D ns qs : List Int) (r : Int) : Prop :=
  ∃ pre, D.reverse = pre ++ ns ∧ b * val n qs.reverse + r = val n pre.reverse ∧ 0 ≤ r ∧ r < b ∧ (∀ q ∈ qs, 0 ≤ q ∧ q < 2 ^ n) ∧ qs.length = pre.length
theorem LDiv.start {n : Nat} {b : Int} (hb : 0 < b) (D : List Int) : LDiv n b D D.reverse [] 0 := ⟨[], rfl, by simp [val], Int.le_refl _, hb, (fun q h => nomatch h), rfl⟩
theorem LDiv.step {n : Nat} {b : Int} {D ns qs : List Int} {r d : Int} (hb : 0 < b) (hD : ∀ d ∈ D, 0 ≤ d ∧ d < 2 ^ n) (h : LDiv n b D (d :: ns) qs r) :
    0 ≤ r ∧ r < b ∧ 0 ≤ d ∧ d < 2 ^ n ∧ LDiv n b D ns (qs ++ [(r * 2 ^ n + d).fdiv b]) ((r * 2 ^ n + d).fmod b) := by
  obtain ⟨pre, h1, h2, h3, h4, h5, h6⟩ := h
  have hd := hD d (List.mem_reverse.mp (h1 ▸ List.mem_append_right _ (.head _)))
  have hp := pow_pos2 n
  have hx0 : 0 ≤ r * 2 ^ n + d := Int.add_nonneg (Int.mul_nonneg h3 (Int.le_of_lt hp)) hd.1
  have hx1 : r * 2 ^ n + d < b * 2 ^ n := by
    have : (r + 1) * 2 ^ n ≤ b * 2 ^ n := Int.mul_le_mul_of_nonneg_right (by omega) (Int.le_of_lt hp)
    rw [Int.add_mul, Int.one_mul] at this
    omega
  rw [Int.fdiv_eq_ediv_of_nonneg _ (Int.le_of_lt hb), Int.fmod_eq_emod_of_nonneg _ (Int.le_of_lt hb)]
  refine ⟨h3, h4, hd.1, hd.2, pre ++ [d], by rw [h1]; simp, ?_, Int.emod_nonneg _ (Int.ne_of_gt hb), Int.emod_lt_of_pos _ hb, ?_, by simp [h6]⟩
  · simp only [List.reverse_append, List.reverse_cons, List.reverse_nil, List.nil_append, List.cons_append, val]
    rw [← h2, Int.mul_add, Int.mul_add]
    have e := Int.emod_add_mul_ediv (r * 2 ^ n + d) b
    have e2 : b * (2 ^ n * val n qs.reverse) = 2 ^ n * (b * val n qs.reverse) := by rw [← Int.mul_assoc, Int.mul_comm b, Int.mul_assoc]
    rw [e2]
    have e3 : r * 2 ^ n = 2 ^ n * r := Int.mul_comm _ _
    omega
  · intro q hq
    rcases List.mem_append.mp hq with hq | hq
    · exact h5 q hq
    · rw [List.mem_singleton.mp hq]
      exact ⟨Int.ediv_nonneg hx0 (Int.le_of_lt hb), Int.ediv_lt_of_lt_mul hb (by rw [Int.mul_comm (2 ^ n) b]; exact hx1)⟩
theorem LDiv.done {n : Nat} {b : Int} {D qs : List Int} {r : Int} (hb : 0 < b) (h : LDiv n b D [] qs r) :
    (∀ q ∈ qs.reverse, 0 ≤ q ∧ q < 2 ^ n) ∧ qs.reverse.length = D.length ∧ val n qs.reverse = (val n D).fdiv b ∧ r = (val n D).fmod b := by
  obtain ⟨pre, h1, h2, h3, h4, h5, h6⟩ := h
  rw [List.append_nil] at h1
  have hD : pre.reverse = D := by rw [← h1, List.reverse_reverse]
  rw [hD] at h2
  rw [Int.fdiv_eq_ediv_of_nonneg _ (Int.le_of_lt hb), Int.fmod_eq_emod_of_nonneg _ (Int.le_of_lt hb)]
  refine ⟨fun q hq => h5 q (List.mem_reverse.mp hq), by rw [List.length_reverse, h6, ← hD, List.length_reverse], ?_, ?_⟩
  · rw [← h2, Int.add_comm, Int.add_mul_ediv_left _ _ (Int.ne_of_gt hb), Int.ediv_eq_zero_of_lt h3 h4, Int.zero_add]
  · rw [← h2, Int.add_comm, Int.add_mul_emod_self_left, Int.emod_eq_of_lt h3 h4]
/-- the number of figures of a -/
theorem bits_lt {b : Int} (h : 0 ≤ b) : b < 2 ^ Builtin.Int.intBits b := by
  unfold Builtin.Int.intBits
  by_cases hx : b = 0
  · subst hx; simp
  · rw [if_neg (by simpa using hx)]
    have h1 := (Nat.log2_lt (n := b.natAbs) (k := b.natAbs.log2 + 1) (by omega)).mp (by omega)
    have e : ((2 ^ (b.natAbs.log2 + 1) : Nat) : Int) = 2 ^ (b.natAbs.log2 + 1) := by norm_cast
    omega
theorem bits_pos {b : Int} (h : 0 < b) : 1 ≤ Builtin.Int.intBits b := by
  unfold Builtin.Int.intBits
  rw [if_neg (by simp; omega)]
  omega
theorem count_facts {a : Int} {n : Nat} (ha : 0 ≤ a) (hn : 1 ≤ n) :
    let k := (Builtin.Int.intBits a + n - 1) / n
    ((1 ≤ k ∧ 0 < a) ∨ (k = 0 ∧ a = 0)) ∧ ((Builtin.Int.intBits a : Int) + (n : Int) - 1).fdiv (n : Int) = (k : Int) ∧ a < 2 ^ (n * k) ∧ k ≤ Builtin.Int.intBits a := by
  intro k
  have hk1 : n * k ≤ Builtin.Int.intBits a + n - 1 := Nat.mul_div_le _ _
  have hk2 : Builtin.Int.intBits a + n - 1 < n * (k + 1) := Nat.lt_mul_div_succ _ hn
  rw [Nat.mul_add, Nat.mul_one] at hk2
  refine ⟨?_, ?_, ?_, ?_⟩
  · by_cases h0 : a = 0
    · refine .inr ⟨?_, h0⟩
      show (Builtin.Int.intBits a + n - 1) / n = 0
      rw [h0, show Builtin.Int.intBits 0 = 0 from rfl]
      exact Nat.div_eq_of_lt (by omega)
    · have := bits_pos (b := a) (by omega)
      refine .inl ⟨?_, by omega⟩
      exact (Nat.le_div_iff_mul_le (by omega)).mpr (by omega)
  · rw [Int.fdiv_eq_ediv_of_nonneg _ (by omega)]
    show _ = (((Builtin.Int.intBits a + n - 1) / n : Nat) : Int)
    rw [Int.natCast_ediv]
    congr 1
    omega
  · refine Int.lt_of_lt_of_le (bits_lt ha) ?_
    exact_mod_cast Nat.pow_le_pow_right (n := 2) (by decide) (show Builtin.Int.intBits a ≤ n * k by omega)
  · show (Builtin.Int.intBits a + n - 1) / n ≤ _
    by_cases h0 : Builtin.Int.intBits a = 0
    · rw [h0, Nat.div_eq_of_lt (by omega)]; exact Nat.le_refl _
    · have : Builtin.Int.intBits a + n - 1 ≤ n * Builtin.Int.intBits a := by
        obtain ⟨c, hc⟩ : ∃ c, Builtin.Int.intBits a = c + 1 := ⟨_, (Nat.sub_add_cancel (Nat.pos_of_ne_zero h0)).symm⟩
        rw [hc, Nat.mul_add, Nat.mul_one]
        have : c ≤ n * c := Nat.le_mul_of_pos_left _ hn
        omega
      calc _ ≤ n * Builtin.Int.intBits a / n := Nat.div_le_div_right this
        _ = _ := Nat.mul_div_cancel_left _ hn
theorem turn_facts {b r d : Int} (hb : 0 < b) (hn : Builtin.Int.intBits b ≤ 3000) (h0 : 0 ≤ r) (h1 : r < b) (h2 : 0 ≤ d) (h3 : d < 2 ^ Builtin.Int.intBits b) :
    (Builtin.Int.intBits r : Int) + (Builtin.Int.intBits b : Int) ≤ 2 ^ 27 ∧ b.natAbs.log2 < 9000 ∧ (Builtin.Int.intBits (r * 2 ^ ((Builtin.Int.intBits b : Nat) : Int).toNat + d) : Int) - (Builtin.Int.intBits b : Int) ≤ 4000 := by
  have hbb := bits_lt (Int.le_of_lt hb)
  have hr := log2_lt_of h0 (Int.lt_trans h1 hbb)
  have hp := pow_pos2 (Builtin.Int.intBits b)
  refine ⟨by omega, ?_, ?_⟩
  · have : Builtin.Int.intBits b = b.natAbs.log2 + 1 := by unfold Builtin.Int.intBits; rw [if_neg (by simp; omega)]
    omega
  · rw [Int.toNat_natCast]
    have hx0 : 0 ≤ r * 2 ^ Builtin.Int.intBits b + d := Int.add_nonneg (Int.mul_nonneg h0 (Int.le_of_lt hp)) h2
    have hx1 : r * 2 ^ Builtin.Int.intBits b + d < 2 ^ (Builtin.Int.intBits b + Builtin.Int.intBits b) := by
      rw [pow_add2]
      have : (r + 1) * 2 ^ Builtin.Int.intBits b ≤ 2 ^ Builtin.Int.intBits b * 2 ^ Builtin.Int.intBits b := Int.mul_le_mul_of_nonneg_right (by omega) (Int.le_of_lt hp)
      rw [Int.add_mul, Int.one_mul] at this
      omega
    have := log2_lt_of hx0 hx1
    omega
theorem LDiv.len {n : Nat} {b : Int} {D ns qs : List Int} {r : Int} (h : LDiv n b D ns qs r) : qs.length + ns.length = D.length := by
  obtain ⟨pre, h1, h2, h3, h4, h5, h6⟩ := h
  have := congrArg List.length h1
  rw [List.length_reverse, List.length_append] at this
  omega
theorem bitNot_eq (a : Int) : Builtin.bitNot a = -a - 1 := by
  first | rfl | (unfold Builtin.bitNot; omega)
theorem not_div {a b : Int} (hb : 0 < b) : Builtin.bitNot ((Builtin.bitNot a).fdiv b) = a.fdiv b ∧ b + Builtin.bitNot ((Builtin.bitNot a).fmod b) = a.fmod b := by
  simp only [bitNot_eq]
  rw [Int.fdiv_eq_ediv_of_nonneg _ (Int.le_of_lt hb), Int.fmod_eq_emod_of_nonneg _ (Int.le_of_lt hb), Int.fdiv_eq_ediv_of_nonneg _ (Int.le_of_lt hb), Int.fmod_eq_emod_of_nonneg _ (Int.le_of_lt hb)]
  have e := Int.emod_add_mul_ediv (-a - 1) b
  have h0 := Int.emod_nonneg (-a - 1) (Int.ne_of_gt hb)
  have h1 := Int.emod_lt_of_pos (-a - 1) hb
  generalize (-a - 1) / b = q at *
  generalize (-a - 1) % b = r at *
  have ha : a = (b - r - 1) + b * (-q - 1) := by
    rw [Int.mul_sub, Int.mul_neg, Int.mul_one]; omega
  rw [ha, Int.add_mul_ediv_left _ _ (Int.ne_of_gt hb), Int.add_mul_emod_self_left, Int.ediv_eq_zero_of_lt (by omega) (by omega), Int.emod_eq_of_lt (by omega) (by omega)]
  constructor <;> omega
theorem neg_div {a b : Int} : (-a).fdiv (-b) = a.fdiv b ∧ -((-a).fmod (-b)) = a.fmod b := by
  rw [Int.neg_fdiv_neg, Int.neg_fmod_neg, Int.neg_neg]
  exact ⟨rfl, rfl⟩
end M
end
section
open PySem PySem.W PyProof.Rows
set_option maxRecDepth 100000
namespace M
theorem gcd_step {u l : Int} (hl : 0 < l) : (Int.gcd l (u.fmod l) : Int) = Int.gcd u l := by
  rw [Int.fmod_eq_emod_of_nonneg _ (Int.le_of_lt hl), Int.gcd_comm u l]
  congr 1
  have e : u = u % l + l * (u / l) := (Int.emod_add_mul_ediv u l).symm
  conv => rhs; rw [e]
  exact (Int.gcd_add_mul_left_right ..).symm
theorem gcd_end {u : Int} (hu : 0 ≤ u) : (Int.gcd u 0 : Int) = u := by
  rw [Int.gcd_zero_right]; omega
end M
end
section
open PySem PySem.W PyProof.Rows
set_option maxRecDepth 100000
namespace M
noncomputable def fib : Nat → Int
  | 0 => 0
  | 1 => 1
  | n + 2 => fib (n + 1) + fib n
theorem fib_nonneg : ∀ n, 0 ≤ fib n
  | 0 => by decide
  | 1 => by decide
  | n + 2 => Int.add_nonneg (fib_nonneg (n + 1)) (fib_nonneg n)
theorem fib_pos : ∀ n, 0 < fib (n + 1)
  | 0 => by decide
  | n + 1 => by
    have := fib_pos n
    have := fib_nonneg n
    show 0 < fib (n + 1) + fib n
    omega
/-- with n turns left Euclid's run ends -/
noncomputable def EuB (n : Nat) (u l : Int) : Prop := l < fib (n + 1) ∨ (l < u ∧ u < fib (n + 2))
theorem EuB.step {n : Nat} {u l : Int} (hl : 0 < l) (hu : 0 ≤ u) (h : EuB (n + 1) u l) : EuB n l (u.fmod l) := by
  rw [Int.fmod_eq_emod_of_nonneg _ (Int.le_of_lt hl)]
  have h1 := Int.emod_lt_of_pos u hl
  have h0 := Int.emod_nonneg u (Int.ne_of_gt hl)
  by_cases hc : l < fib (n + 2)
  · exact .inr ⟨h1, hc⟩
  · rcases h with h | ⟨ha, hb⟩
    · exact absurd h hc
    · left
      have hb' : u < fib (n + 2) + fib (n + 1) := hb
      have e := Int.emod_add_mul_ediv u l
      have hq : 1 ≤ u / l := (Int.le_ediv_iff_mul_le hl).mpr (by omega)
      have : l * 1 ≤ l * (u / l) := Int.mul_le_mul_of_nonneg_left hq (Int.le_of_lt hl)
      omega
theorem EuB.zero {u l : Int} (hl : 0 ≤ l) (h : EuB 0 u l) : l = 0 := by
  rcases h with h | ⟨ha, hb⟩
  · have : fib (0 + 1) = 1 := rfl
    omega
  · have : fib (0 + 2) = 1 := rfl
    omega
theorem EuB.stay {n : Nat} {u : Int} : EuB n u 0 := .inl (fib_pos n)
end M
end
section
open PySem PySem.W PyProof.Rows
set_option maxRecDepth 100000
namespace M
theorem slice_take {x : Str} {n : Int} (h : 0 ≤ n) : Txt.slice x none (some n) = ⟨(x.cps.toList.take n.toNat).toArray⟩ := by
  rw [eq_of_beq (slice_to_min_closes h rfl)]
  congr 2
  rw [show (0 : Int).toNat = 0 from rfl, List.drop_zero]
  have hl : x.cps.toList.length = x.length := Array.length_toList
  split
  · rw [List.take_of_length_le (by omega), List.take_of_length_le (by omega)]
  · rw [show (n - 0).toNat = n.toNat by omega]
theorem slice_drop {x : Str} {i : Int} (h0 : 0 ≤ i) (h1 : i ≤ x.length) : Txt.slice x (some i) none = ⟨(x.cps.toList.drop i.toNat).toArray⟩ := by
  rw [eq_of_beq (slice_closes_fromL h0 h1 rfl)]
  congr 1
  have hl : x.cps.toList.length = x.length := Array.length_toList
  rw [List.take_of_length_le]
  rw [List.length_drop]; omega
/-- texts side by side -/
noncomputable def catS (ys : List Str) : Str := ⟨(ys.map (·.cps.toList)).flatten.toArray⟩
theorem str_app (x y : Str) : x ++ y = ⟨(x.cps.toList ++ y.cps.toList).toArray⟩ := by
  show (⟨x.cps ++ y.cps⟩ : Str) = _
  congr 1
  apply Array.toList_inj.mp
  simp
theorem join_cat : ∀ ys : List Str, Str.join ⟨#[]⟩ ys = catS ys
  | [] => rfl
  | [x] => by simp [Str.join, catS]
  | x :: y :: r => by
    show x ++ ⟨#[]⟩ ++ Str.join ⟨#[]⟩ (y :: r) = _
    rw [join_cat (y :: r), str_app, str_app]
    simp [catS]
theorem txt_cat (ys : List Str) : Txt.join (Str.ofString "") ys = catS ys := by
  rw [eq_of_beq (join_closes (sep := Str.ofString "") (sep' := ⟨#[]⟩) (ys := ys) rfl), join_cat]
end M
end
section
open PySem PySem.W PyProof.Rows
set_option maxRecDepth 100000
namespace M
theorem cat_nil : catS [] = ⟨#[]⟩ := rfl
theorem cat_cons (x : Str) (ys : List Str) : catS (x :: ys) = x ++ catS ys := by
  rw [str_app]; simp [catS]
theorem cat_toList (ys : List Str) : (catS ys).cps.toList = (ys.map (·.cps.toList)).flatten := by simp [catS]
theorem cat_len : ∀ ys : List Str, (catS ys).length = (ys.map (·.length)).sum
  | [] => rfl
  | x :: ys => by
    rw [cat_cons, List.map_cons, List.sum_cons, ← cat_len ys]
    show (x.cps ++ (catS ys).cps).size = _
    rw [Array.size_append]; rfl
theorem sum_le {b : Nat} : ∀ {l : List Nat}, (∀ x ∈ l, x ≤ b) → l.sum ≤ l.length * b
  | [], _ => Nat.zero_le _
  | a :: l, h => by
    have h1 := h a (.head _)
    have h2 := sum_le (l := l) fun x hx => h x (.tail _ hx)
    rw [List.sum_cons, List.length_cons, Nat.succ_mul]
    omega
end M
end
section
open PySem PySem.W PyProof.Rows PySem.Calls
open PySem.Flt (Hid)
namespace M
theorem fill_J : (fun (_ : OpenLaw) (_ : Params → Frag) => True) PySem.Challenge.rw_rl0133_02 K := by
  k_fill
  trivial
noncomputable abbrev TP : Program := topProg
noncomputable abbrev TL : List Str := looseW q loose ++ List.map (fun x => x.name) (recsOf q) ++ List.map (fun x => x.fst) (litsOf q) ++ List.map (fun x => x.name) (clssOf q (looseW q loose))
noncomputable abbrev tup2 (x y : Value) : Obj := { cls := .type "tuple", data := .seq #[x, y] }
/-- the shape of a contract: any caller's frame, any ledger -/
noncomputable abbrev Claim (w : World) (mean : ExcName → Option Value) (mg mb : Str → Option Value) (f : Addr) (news : List (Addr × Obj)) (need : Nat) (vs : List Value) (Post : Value → List (Addr × Obj) → Prop) : Prop :=
  ∀ (dp un : Nat) (gd : Option (List Code)) (cn : Str) (cs : Scope) (a : Addr) (ccd : Value) (cl : List (Str × Addr)) (outer : List Env) (A₀ : Around) (base h₀ : Heap) (L : Addr) (m : Str → Option Value) (s : Shared) (Q E : Value → Shared → Prop),
    Below A₀ base outer h₀ → Fr h₀ L s.heap m → (K w.params).In h₀ → News h₀ L s.heap news → Top TP TL mean mg mb h₀ → cs.kind = .function → dp + need < recursionLimit → un + 8 * need < cLine →
    (∀ (v : Value) (h' : Heap) (tk' : Nat) (news' : List (Addr × Obj)), Fr h₀ L h' m → News h₀ L h' news' → Post v news' → Q v { s with heap := h', toks := tk' }) →
      wpAny (model PR w) (ktrTop dp un gd cn cs L a ccd cl outer) (call (.ref f) vs) Q E s
section
variable {w : World} {mean : ExcName → Option Value} {mg mb : Str → Option Value}
local macro_rules | `(tactic| walk_at "call builtin:divmod") => `(tactic| (refine divmod_N (by assumption) (by assumption) (by assumption) ?_ (Or.inl (by assumption)); intro h' F' N'))
set_option maxHeartbeats 4000000 in
theorem c_div2n1n (news : List (Addr × Obj)) (a b n : Int) (t1 t2 t3 : Tok) (hb : b ≠ 0) (hl : b.natAbs.log2 < 9000) (hbits : (Builtin.Int.intBits a : Int) - n ≤ 4000) : Claim w mean mg mb 21 news 1 [.int a t1, .int b t2, .int n t3]
    (fun v news' => ∃ r u1 u2, v = .ref r ∧ news' = (r, tup2 (.int (a.fdiv b) u1) (.int (a.fmod b) u2)) :: news ∧ ∀ p ∈ news, p.1 < r) := by
  intros dp un gd cn cs a' ccd cl outer A₀ base h₀ L m s Q E B F X N T hk hd hu hret
  have hp := PyProof.noPylong_of_log2 (x := a) hl
  refine wpAny_call ?_
  k_dflt cell_enter
  k_steps
  all_goals (refine hret _ _ _ _ (by assumption) (by assumption) ⟨_, _, _, rfl, rfl, ?_⟩; intro ⟨p, o⟩ hp; exact Heap.lt_size (News.get (by assumption) hp))
noncomputable abbrev listO (vs : List Value) (e : Nat) : Obj := { cls := .type "list", data := .seq vs.toArray e }
theorem flat_one (v : Value) : ∀ (k : Nat) (acc : Array Value), List.foldl (fun x1 x2 => x1 ++ x2) acc (List.replicate k #[v]) = acc ++ (List.replicate k v).toArray
  | 0, acc => by simp
  | k + 1, acc => by
    rw [List.replicate_succ, List.foldl_cons, flat_one v k]
    rw [List.replicate_succ]
    apply Array.ext'
    simp
theorem mul_zeros {A : Around} {E : Value → Shared → Prop} {s : Shared} {h₀ : Heap} {L : Addr} {m : Str → Option Value} {news : List (Addr × Obj)} {l : Addr} {t u : Tok} {k : Nat} {x : Int} {Q : Value → Shared → Prop} {e : Nat}
    (F : Fr h₀ L s.heap m) (N : News h₀ L s.heap news) (hl : (l, listO [.int k t] e) ∈ news) (hlo : 0 ≤ x) (hhi : x ≤ 2 ^ 24)
    (h : ∀ l' h', Fr h₀ L h' m → News h₀ L h' ((l', listO (List.replicate x.toNat (.int k t)) 0) :: news) → (∀ p ∈ news, p.1 < l') → Q (.ref l') { s with heap := h' }) :
    wpAny (model PR w) A (binaryOp .Mult (.ref l) (.int x u)) Q E s := by
  refine mul_list F N (News.get N hl) (by omega) (by omega) (by show 1 * x.toNat ≤ _; omega) fun h' F' N' => ?_
  rw [show (if (#[(.int k t : Value)]).isEmpty = true then 0 else x.toNat) = x.toNat from rfl] at N'
  have e := flat_one (.int k t) x.toNat #[]
  rw [Array.empty_append] at e
  rw [show ([(.int k t : Value)].toArray) = #[.int k t] from rfl, e] at N'
  exact h _ h' F' N' fun ⟨p, o⟩ hp => Heap.lt_size (News.get N hp)
local macro_rules | `(tactic| walk_at "binaryOp Mult ref int") => `(tactic| (k_dflt (refine' mul_zeros ?y1 ?y2 ?y3 ?y4 ?y5 ?_; (case y1 => k_asm); (case y2 => k_asm); (case y3 => k_mem); (case y4 => first | with_reducible assumption | omega); (case y5 => first | with_reducible assumption | omega); k_whole); intro l' h' F' N' l1; (try k_lt l1); (try k_sweep)))
theorem alt_mem {d : Nat} {l : List (Addr × Obj)} (h : AllLt d l) : ∀ p ∈ l, p.1 < d := by
  induction l with
  | nil => intro p hp; cases hp
  | cons a r ih =>
    intro p hp
    rcases List.mem_cons.mp hp with rfl | hp
    · exact h.1
    · exact ih h.2 p hp
theorem all_ne_of {d d' : Nat} {l : List (Addr × Obj)} (h : AllLt d l) (hd : d ≤ d') : ∀ p ∈ l, p.1 ≠ d' := fun p hp => Nat.ne_of_lt (Nat.lt_of_lt_of_le (alt_mem h p hp) hd)
local macro_rules | `(tactic| k_all) => `(tactic| first | assumption | (refine all_ne_of (by assumption) ?_; (try dsimp only); omega))
theorem cHd30 {h : Heap} (X : (K w.params).In h) : CodeHd h 34 30 :=
  ⟨o34 w.params, _, _, _, _, _, _, _, _, X 34 _ (by kernel_rfl), rfl, rfl, rfl, rfl, rfl, rfl, rfl, rfl, by decide⟩
theorem cHd37 {h : Heap} (X : (K w.params).In h) : CodeHd h 41 37 :=
  ⟨o41 w.params, _, _, _, _, _, _, _, _, X 41 _ (by kernel_rfl), rfl, rfl, rfl, rfl, rfl, rfl, rfl, rfl, by decide⟩
noncomputable def inSt (i j : Nat) : Stmt := match (bdAt i)[j]? with | some s => s | none => .Pass ⟨0, 0, 0, 0⟩
noncomputable def inPm (i j : Nat) : Arguments := match inSt i j with | .FunctionDef _ a _ _ _ _ _ _ _ _ => a | _ => ⟨[], [], none, [], [], none, []⟩
noncomputable def inBd (i j : Nat) : List Stmt := match inSt i j with | .FunctionDef _ _ b _ _ _ _ _ _ _ => b | _ => []
noncomputable def inSc (i j : Nat) : Scope := match inSt i j with | .FunctionDef _ _ _ _ _ _ sc _ _ _ => sc | _ => default
noncomputable abbrev inF1 (qual : Str) (cN cI cA : Addr) (doc pm : Value) (c' : Addr) (ct : Value) : Obj := fnMade (Str.ofString "inner") qual (inPm 4 1) (inBd 4 1) (inSc 4 1) [(Str.ofString "n", cN), (Str.ofString "inner", cI), (Str.ofString "a_digits", cA)] doc pm c' ct
noncomputable abbrev Inner1 (w : World) (mean : ExcName → Option Value) (mg mb : Str → Option Value) (b : Nat) (l f : Addr) (e : Nat) (rest : List (Addr × Obj)) (sz : Nat) : Prop :=
  ∀ (x lo hi : Int) (t1 t2 t3 : Tok) (vs : List Value) (ns : List Int), IntsAre vs ns → hi = lo + sz → 0 ≤ lo → 1 ≤ sz → hi ≤ ns.length → ns.length < 100000 → 0 ≤ x → x < 2 ^ (b * sz) →
    Claim w mean mg mb f ((l, listO vs e) :: rest) sz [.int x t1, .int lo t2, .int hi t3] (fun v news' => v = .none ∧ ∃ vs', news' = (l, listO vs' e) :: rest ∧ IntsAre vs' (ns.take lo.toNat ++ dig b sz x ++ ns.drop hi.toNat))
theorem setL_some : ∀ (l : List Value) (j : Nat) (v : Value), j < l.length → ki_setL l j v = some (l.set j v)
  | _ :: _, 0, _, _ => rfl
  | x :: r, j + 1, v, h => by simp only [ki_setL, setL_some r j v (by simpa using h), List.set_cons_succ]
theorem set_N {A : Around} {E : Value → Shared → Prop} {s : Shared} {h₀ : Heap} {L : Addr} {m : Str → Option Value} {news news' : List (Addr × Obj)} {l : Addr} {t : Tok} {k : Int} {e : Nat} {vs : List Value} {v : Value} {Q : Unit → Shared → Prop}
    (F : Fr h₀ L s.heap m) (N : News h₀ L s.heap news) (h0 : 0 ≤ k) (hk : k < vs.length) (hz : vs.length < 2 ^ 62) (U : Upd l (listO vs e) (listO (vs.set k.toNat v) e) news news') (h : ∀ h', Fr h₀ L h' m → News h₀ L h' news' → Q () { s with heap := h' }) :
    wpAny (model PR w) A (setItem (.ref l) (.int k t) v) Q E s :=
  ki_set (its := vs.toArray) F N h0 (by omega) (by rw [List.toList_toArray]; exact setL_some vs k.toNat v (by omega)) U h
theorem ints_set : ∀ {vs : List Value} {ns : List Int} (_ : IntsAre vs ns) (j : Nat) (x : Int) (t : Tok), IntsAre (vs.set j (.int x t)) (ns.set j x)
  | _, _, .nil, _, _, _ => .nil
  | _, _, .cons n t h, 0, x, u => .cons x u h
  | _, _, .cons n t h, j + 1, x, u => .cons n t (ints_set h j x u)
theorem set_cut (ns : List Int) (j : Nat) (x : Int) (h : j < ns.length) : ns.set j x = ns.take j ++ [x] ++ ns.drop (j + 1) := by
  rw [List.set_eq_take_append_cons_drop, if_pos h]; simp
/-- a nested def's own call -/
theorem inner_call {A : Around} {b : Nat} {l f : Addr} {e : Nat} {rest : List (Addr × Obj)} {sz : Nat} {dp un : Nat} {gd : Option (List Code)} {cn : Str} {cs : Scope} {a : Addr} {ccd : Value} {cl : List (Str × Addr)} {outer : List Env} {A₀ : Around} {base h₀ : Heap} {L : Addr} {m : Str → Option Value} {s : Shared} {Q E : Value → Shared → Prop}
    {x lo hi : Int} {t1 t2 t3 : Tok} {vs : List Value} {ns : List Int} (hA : A = ktrTop dp un gd cn cs L a ccd cl outer) (B : Below A₀ base outer h₀) (F : Fr h₀ L s.heap m) (X : (K w.params).In h₀) (N : News h₀ L s.heap ((l, listO vs e) :: rest)) (T : Top TP TL mean mg mb h₀) (hk : cs.kind = .function)
    (H : Inner1 w mean mg mb b l f e rest sz) (I : IntsAre vs ns) (h1 : hi = lo + sz) (h2 : 0 ≤ lo) (h3 : 1 ≤ sz) (h4 : hi ≤ ns.length) (h4' : ns.length < 100000) (h5 : 0 ≤ x) (h6 : x < 2 ^ (b * sz)) (hd : dp + sz < recursionLimit) (hu : un + 8 * sz < cLine)
    (h : ∀ vs' h' tk', Fr h₀ L h' m → News h₀ L h' ((l, listO vs' e) :: rest) → IntsAre vs' (ns.take lo.toNat ++ dig b sz x ++ ns.drop hi.toNat) → Q .none { s with heap := h', toks := tk' }) :
    wpAny (model PR w) A (call (.ref f) [.int x t1, .int lo t2, .int hi t3]) Q E s := by
  subst hA
  exact H x lo hi t1 t2 t3 vs ns I h1 h2 h3 h4 h4' h5 h6 dp un gd cn cs a ccd cl outer A₀ base h₀ L m s Q E B F X N T hk hd hu fun v h' tk' news' F' N' ⟨hv, vs', hn, I'⟩ => by
    subst hv hn
    exact h vs' h' tk' F' N' I'
local macro_rules | `(tactic| walk_at "binaryOp RShift int int") => `(tactic| (refine rshift_int (by first | exact Hid.out (by with_reducible assumption) | exact Int.zero_le_ofNat 1) ?_))
local macro_rules | `(tactic| walk_at "binaryOp LShift int int") => `(tactic| (refine lshift_int (Hid.out (by with_reducible assumption)) (Hid.out (by with_reducible assumption)) ?_))
local macro_rules | `(tactic| walk_at "setItem ref int") => `(tactic| (k_dflt (refine' set_N ?y1 ?y2 ?y3 ?y4 ?y5 ?y6 ?_; (case y1 => k_asm); (case y2 => k_asm); (case y6 => k_upd); (case y3 => with_reducible assumption); (case y4 => omega); (case y5 => omega)); intro h' F' N'))

set_option maxHeartbeats 4000000 in
theorem c_inner1 (b : Nat) (hb1 : 1 ≤ b) (hb2 : b ≤ 10000) {l f c' cN cI cA : Nat} {qual : Str} {doc pm ct : Value} {oc oN oI oA : Obj} {vsC : Array Value} {tq tn : Tok} (own : List (Addr × Obj)) (dC : oc.data = .fields vsC) (dq : vsC[1]? = some (.str qual tq))
    (dN : oN.data = .cell (some (.int b tn))) (dI : oI.data = .cell (some (.ref f))) (dA : oA.data = .cell (some (.ref l))) (e : Nat) (a1 : l ≠ c') (a2 : l < f) (a3 : cN < l) (a4 : cI < l) (a5 : cA < l) (hO : AllLt l own) (sz : Nat) (hsz : sz ≤ 1000)
    (ih : ∀ k, k < sz → Inner1 w mean mg mb b l f e ((f, inF1 qual cN cI cA doc pm c' ct) :: (c', oc) :: (cN, oN) :: (cI, oI) :: (cA, oA) :: own) k) :
    Inner1 w mean mg mb b l f e ((f, inF1 qual cN cI cA doc pm c' ct) :: (c', oc) :: (cN, oN) :: (cI, oI) :: (cA, oA) :: own) sz := by
  intros x lo hi t1 t2 t3 vs ns hI hhi hlo hs1 hlen hns hx0 hx1
  intros dp un gd cn cs a' ccd cl outer A₀ base h₀ L m s Q E B F X N T hk hd hu hret
  refine wpAny_call ?_
  k_dflt (refine' code_nest ?k1 ?k2 ?k3 ?k4 ?k5 ?kA ?kF ?kK ?k6 ?k7 ?k8 ?k9 ?kB ?_ ?c2 ?c3 ?c4 ?c5; (case kA => exact rfl); (case kF => exact rfl); (case kK => assumption); (case k1 => k_asm); (case k2 => k_asm); (case k3 => k_asm); (case k4 => k_asm); (case k5 => k_asm); (case k6 => k_mem); (case k7 => exact codeRec_news (by k_asm) (by k_mem) (by assumption) (by assumption)); (case k8 => exact Nat.lt_of_le_of_lt (Nat.le_add_right _ _) hd); (case k9 => exact BindsTo.of_eq rfl); (case c5 => decide); (case kB => exact locs rfl); (case c2 => exact rfl); (case c3 => exact rfl); (case c4 => exact rfl); k_whole; intro g' L' h' FG' F' N' B' X' T'; (try dsimp only); (try k_lift B'); (try k_fold))
  have C' := cHd30 X'
  have hIl := IntsAre.length hI
  by_cases h1 : sz = 1
  · subst h1
    have hc : lo + 1 = hi := by omega
    have hdig := Hid.mk (dig_one b hx0 hx1)
    clear hx1
    k_steps
    · refine hret _ _ _ _ (by assumption) (by assumption) ⟨rfl, _, rfl, ?_⟩
      rw [hdig.out, ← hc, show (lo + 1).toNat = lo.toNat + 1 by omega, ← set_cut ns lo.toNat x (by omega)]
      exact ints_set hI _ _ _
    · exact absurd hc (by assumption)
  · have hc : ¬ (lo + 1 = hi) := by omega
    obtain ⟨hm, hsh, hls, hxl, hxu⟩ := split_facts hhi hlo hx0 hx1 (by omega) (by omega)
    have hm := Hid.mk hm
    have hsh := Hid.mk hsh
    have hls := Hid.mk hls
    have hxl := Hid.mk hxl
    have hxu := Hid.mk hxu
    replace hx1 := Hid.mk hx1
    k_steps
    · exact absurd (by assumption) hc
    have hm' := hm.out
    have e1 : ((lo + hi).fdiv (2 ^ Int.toNat 1)).toNat = lo.toNat + sz / 2 := by omega
    refine inner_call rfl (by assumption) (by assumption) (by assumption) (by assumption) (by assumption) rfl (ih (sz / 2) (by omega)) hI hm' hlo (by omega) (by omega) hns ?_ ?_ ?_ ?_ ?_
    · rw [hxl.out]; exact Int.emod_nonneg _ (Int.ne_of_gt (pow_pos2 _))
    · rw [hxl.out]; exact Int.emod_lt_of_pos _ (pow_pos2 _)
    · show dp + 1 + sz / 2 < _; omega
    · show un + 3 + 8 * (sz / 2) < _; omega
    intro vs2 h2 tk2 F2 N2 I2
    rw [hxl.out, e1] at I2
    have hl2 := cut_len ns lo.toNat (sz / 2) (dig b (sz / 2) (x % 2 ^ (b * (sz / 2)))) (dig_length _ _ _) (by omega)
    k_steps
    refine inner_call rfl (by assumption) (by assumption) (by assumption) (by assumption) (by assumption) rfl (ih (sz - sz / 2) (by omega)) I2 (by omega) (by omega) (by omega) (by rw [hl2]; omega) (by rw [hl2]; omega) ?_ ?_ ?_ ?_ ?_
    · rw [hxu.out]; exact Int.ediv_nonneg hx0 (Int.le_of_lt (pow_pos2 _))
    · rw [hxu.out]
      refine Int.ediv_lt_of_lt_mul (pow_pos2 _) ?_
      rw [← pow_add2, ← Nat.mul_add, show sz - sz / 2 + sz / 2 = sz by omega]
      exact hx1.out
    · show dp + 1 + (sz - sz / 2) < _; omega
    · show un + 3 + 8 * (sz - sz / 2) < _; omega
    intro vs3 h3 tk3 F3 N3 I3
    rw [hxu.out, e1, show hi.toNat = lo.toNat + sz / 2 + (sz - sz / 2) by omega, cut_join ns lo.toNat (sz / 2) (sz - sz / 2) _ _ (dig_length _ _ _) (by omega), ← dig_split, show sz / 2 + (sz - sz / 2) = sz by omega, show lo.toNat + sz / 2 + (sz - sz / 2) = hi.toNat by omega] at I3
    k_steps
    exact hret _ _ _ _ (by assumption) (by assumption) ⟨rfl, _, rfl, I3⟩
theorem rst1 : True := by first | walk1 | trivial
section
variable {w : World} {mean : ExcName → Option Value} {mg mb : Str → Option Value}
theorem inner1_all (b : Nat) (hb1 : 1 ≤ b) (hb2 : b ≤ 10000) {l f c' cN cI cA : Nat} {qual : Str} {doc pm ct : Value} {oc oN oI oA : Obj} {vsC : Array Value} {tq tn : Tok} (own : List (Addr × Obj)) (dC : oc.data = .fields vsC) (dq : vsC[1]? = some (.str qual tq))
    (dN : oN.data = .cell (some (.int b tn))) (dI : oI.data = .cell (some (.ref f))) (dA : oA.data = .cell (some (.ref l))) (e : Nat) (a1 : l ≠ c') (a2 : l < f) (a3 : cN < l) (a4 : cI < l) (a5 : cA < l) (hO : AllLt l own) (sz : Nat) (hsz : sz ≤ 1000) :
    Inner1 w mean mg mb b l f e ((f, inF1 qual cN cI cA doc pm c' ct) :: (c', oc) :: (cN, oN) :: (cI, oI) :: (cA, oA) :: own) sz := by
  induction sz using Nat.strongRecOn with
  | ind sz ih => exact c_inner1 b hb1 hb2 own dC dq dN dI dA e a1 a2 a3 a4 a5 hO sz hsz fun k hk => ih k hk (by omega)
/-- what a nested def's table may hold -/
noncomputable def TabOk (ps : Array Value) (line col : Nat) (qual : Str) (own : List (Addr × Obj)) : Prop :=
  ps = #[] ∨ ∃ c' oc vs t, ps = #[rawInt line, rawInt col, .ref c'] ∧ (c', oc) ∈ own ∧ oc.data = .fields vs ∧ vs[1]? = some (.str qual t)
noncomputable def qual1 : Str := qualnameIn (envOfC (Str.ofString "_int2digits") (scAt 4) 0 35 (.ref 34)) (Str.ofString "inner") (Str.ofString "inner")
theorem qual1_eq (L : Addr) : qualnameIn (envOfC (Str.ofString "_int2digits") (scAt 4) L 35 (.ref 34)) (Str.ofString "inner") (Str.ofString "inner") = qual1 := rfl
theorem ints_rep (k : Nat) (x : Int) (t : Tok) : IntsAre (List.replicate k (.int x t)) (List.replicate k x) := by
  induction k with
  | zero => exact .nil
  | succ k ih => exact .cons x t ih

set_option maxHeartbeats 4000000 in
theorem c_int2digits (p1 p2 : Array Value) (own : List (Addr × Obj)) (b : Nat) (hb1 : 1 ≤ b) (hb2 : b ≤ 10000) (a : Int) (t1 t2 : Tok) (ha : 0 ≤ a) (k : Nat) (hk0 : (1 ≤ k ∧ 0 < a) ∨ (k = 0 ∧ a = 0)) (hk2 : k ≤ 1000) (hak : ((Builtin.Int.intBits a : Int) + b - 1).fdiv b = k) (hax : a < 2 ^ (b * k)) (hown : ∀ p ∈ own, p.1 ≠ 30) (hown2 : ∀ p ∈ own, p.1 ≠ 37) (T1 : TabOk p1 32 4 qual1 own) :
    Claim w mean mg mb 35 ((30, tabObj p1) :: (37, tabObj p2) :: own) (k + 1) [.int a t1, .int b t2]
    (fun v news' => ∃ (l : Nat) (vs : List Value) (p1' : Array Value) (own' : List (Addr × Obj)), v = .ref l ∧ news' = (l, listO vs 0) :: (30, tabObj p1') :: (37, tabObj p2) :: (own' ++ own) ∧ IntsAre vs (dig b k a) ∧ (TabOk p1' 32 4 qual1 own' ∨ p1' = p1) ∧ (∀ p ∈ own', p.1 ≠ 30 ∧ p.1 ≠ 37 ∧ p.1 ≠ l ∧ ∀ x ∈ own, x.1 < p.1) ∧ (∀ p ∈ own, p.1 < l) ∧ (p1 ≠ #[] → p1' = p1 ∧ own' = []) ∧ 30 < l ∧ 37 < l) := by
  intros dp un gd cn cs a' ccd cl outer A₀ base h₀ L m s Q E B F X N T hk hd hu hret
  have hax := Hid.mk hax
  have hz : 0 ≤ ((Builtin.Int.intBits a : Int) + b - 1).fdiv b := by rw [hak]; omega
  have hz2 : ((Builtin.Int.intBits a : Int) + b - 1).fdiv b ≤ 2 ^ 24 := by rw [hak]; omega
  rcases T1 with rfl | ⟨c0, oc0, vs0, t0, rfl, m0, d0, q0⟩
  · refine wpAny_call ?_
    k_dflt (refine' code_defC ?k1 ?k2 ?k3 ?k4 ?k5 ?kA ?kF ?kK ?k6 ?k7 ?k8 ?k9 ?kB ?kD ?_ ?c2 ?c3 ?c4; (case kA => exact rfl); (case kF => exact rfl); (case kK => assumption); (case k1 => k_asm); (case k2 => k_asm); (case k3 => k_asm); (case k4 => k_asm); (case k5 => k_asm); (case k6 => k_is); (case k7 => k_is); (case k8 => exact Nat.lt_of_le_of_lt (Nat.le_add_right _ _) hd); (case k9 => exact BindsTo.of_eq rfl); (case kB => exact rfl); (case kD => decide +kernel); (case c2 => exact rfl); (case c3 => exact rfl); (case c4 => exact rfl); k_whole; intro g' L' h' tk' cells' FG' F' N' Y' B' X' T' l1; have C' := cHd30 X'; k_lt l1; obtain ⟨o1, o2, hO⟩ := l1; k_cells Y'; (try simp only [List.cons_append, List.nil_append] at N'); (try dsimp only); (try k_lift B'); (try k_fold))
    k_steps
    · refine len_list (News.isList (by assumption) (by k_mem)) (by simp only [List.size_toArray, List.length_replicate]; omega) ?_
      iterate 2 (first | walk1 | (dsimp only; walk1))
      · walk1
      rename_i o3 d1 d2 d3 l0 hh4 l01 l hh3 l11 hh2 oA dA f c oc vsC tq ct dc hh1 tk1 dC dq ll1 ll2 h2 oI F2 N2 dI hne
      have hk' : ((Builtin.Int.intBits a : Int) + b - 1).fdiv b = (k : Int) := hak
      have ek : (((Builtin.Int.intBits a : Int) + b - 1).fdiv b).toNat = k := by rw [hk']; rfl
      have dN : o3.data = .cell (some (.int b t2)) := d3
      refine inner_call (l := l) (e := 0) (vs := List.replicate (((Builtin.Int.intBits a : Int) + b - 1).fdiv b).toNat (.int ((0 : Nat) : Int) tk')) (b := b) (sz := k) (ns := List.replicate k 0) (rest := (f, inF1 qual1 (L' + 1) (L' + 1 + 1 + 1) (L' + 1 + 1) dc ((mg (Str.ofString "__name__")).getD Value.none) c ct) :: (c, oc) :: (L' + 1, o3) :: (L' + 1 + 1 + 1, oI) :: (L' + 1 + 1, oA) :: (30, tabObj (#[] ++ #[rawInt ((32 : Nat) : Int), rawInt ((4 : Nat) : Int), Value.ref c])) :: (37, tabObj p2) :: own) rfl (by assumption) F2 X' (cb_drop N2 ?_) T' rfl
        (inner1_all b hb1 hb2 ((30, tabObj (#[] ++ #[rawInt ((32 : Nat) : Int), rawInt ((4 : Nat) : Int), Value.ref c])) :: (37, tabObj p2) :: own) dC dq dN dI dA 0 (by omega) (by omega) (by omega) (by omega) (by omega) ⟨by omega, by omega, l11.2.2.2.2.2.2⟩ k hk2)
        (by rw [ek]; exact ints_rep k 0 _) (by simp only [List.size_toArray, List.length_replicate]; omega) (Int.le_refl _) (by omega) (by simp only [List.size_toArray, List.length_replicate]; omega) (by simp only [List.length_replicate]; omega) (by omega) hax.out ?_ ?_ ?_
      · intro p hp
        rcases List.mem_cons.mp hp with rfl | hp
        · k_mem
        rcases List.mem_cons.mp hp with rfl | hp
        · exact .head _
        rcases List.mem_cons.mp hp with rfl | hp
        · k_mem
        rcases List.mem_cons.mp hp with rfl | hp
        · k_mem
        rcases List.mem_cons.mp hp with rfl | hp
        · k_mem
        rcases List.mem_cons.mp hp with rfl | hp
        · k_mem
        · exact .tail _ (.tail _ (.tail _ (.tail _ (.tail _ (.tail _ (.tail _ hp))))))
      · show dp + 1 + k < _; omega
      · show un + 3 + 8 * k < _; omega
      intro vs3 h3 tk3 F3 N3 I3
      rw [show (((List.replicate (((Builtin.Int.intBits a : Int) + b - 1).fdiv b).toNat (Value.int ((0 : Nat) : Int) tk')).toArray.size : Int)).toNat = k by simp only [List.size_toArray, List.length_replicate]; omega, show (0 : Int).toNat = 0 from rfl, List.take_zero, List.nil_append, show (List.replicate k (0 : Int)).drop k = [] from List.drop_eq_nil_of_le (by simp), List.append_nil] at I3
      k_steps
      refine hret _ _ _ _ (by assumption) (cb_drop (news := (l, listO vs3 0) :: (30, tabObj #[rawInt ((32 : Nat) : Int), rawInt ((4 : Nat) : Int), Value.ref c]) :: (37, tabObj p2) :: ([(c, oc)] ++ own)) (by assumption) ?_) ⟨l, vs3, _, [(c, oc)], rfl, rfl, I3, .inl (.inr ⟨c, oc, vsC, tq, rfl, .head _, dC, dq⟩), ?_, fun p hp => alt_mem l11.2.2.2.2.2.2 p hp, fun h => absurd rfl h, by omega, by omega⟩
      · intro p hp
        rcases List.mem_cons.mp hp with rfl | hp
        · k_mem
        rcases List.mem_cons.mp hp with rfl | hp
        · k_mem
        rcases List.mem_cons.mp hp with rfl | hp
        · k_mem
        rcases List.mem_cons.mp hp with rfl | hp
        · k_mem
        · exact .tail _ (.tail _ (.tail _ (.tail _ (.tail _ (.tail _ (.tail _ (.tail _ hp)))))))
      · intro p hp
        rcases List.mem_cons.mp hp with rfl | hp
        · exact ⟨neN (a := c) (b := 30) (by omega), neN (a := c) (b := 37) (by omega), neN (a := c) (b := l) (by omega), (by first | exact alt_mem ll1.2.2.2.2.2.2.2.2 | exact alt_mem ll1.2.2.2.2.2.2.2 | exact alt_mem ll1.2.2.2.2.2.2 | exact alt_mem ll1.2.2.2.2.2 | exact alt_mem ll1.2.2.2.2 | exact alt_mem ll1.2.2.2)⟩
        · cases hp
    · rename_i o3 d1 d2 d3 l0 hh4 l01 l hh3 l11 hh2 oA dA f c oc vsC tq ct dc hh1 tk1 dC dq ll1 ll2 h2 oI F2 N2 dI hne kF kN Tc kX
      obtain rfl : k = 0 := by omega
      have ek : (((Builtin.Int.intBits a : Int) + b - 1).fdiv b).toNat = 0 := by rw [hak]; rfl
      rw [ek, List.replicate_zero] at kN
      refine hret _ _ _ _ kF (cb_drop (news := (l, listO [] 0) :: (30, tabObj #[rawInt ((32 : Nat) : Int), rawInt ((4 : Nat) : Int), Value.ref c]) :: (37, tabObj p2) :: ([(c, oc)] ++ own)) kN ?_) ⟨l, [], _, [(c, oc)], rfl, rfl, .nil, .inl (.inr ⟨c, oc, vsC, tq, rfl, .head _, dC, dq⟩), ?_, fun p hp => alt_mem l11.2.2.2.2.2.2 p hp, fun h => absurd rfl h, by omega, by omega⟩
      · intro p hp
        rcases List.mem_cons.mp hp with rfl | hp
        · k_mem
        rcases List.mem_cons.mp hp with rfl | hp
        · k_mem
        rcases List.mem_cons.mp hp with rfl | hp
        · k_mem
        rcases List.mem_cons.mp hp with rfl | hp
        · k_mem
        · exact .tail _ (.tail _ (.tail _ (.tail _ (.tail _ (.tail _ (.tail _ (.tail _ (.tail _ hp))))))))
      · intro p hp
        rcases List.mem_cons.mp hp with rfl | hp
        · exact ⟨neN (a := c) (b := 30) (by omega), neN (a := c) (b := 37) (by omega), neN (a := c) (b := l) (by omega), (by first | exact alt_mem ll1.2.2.2.2.2.2.2.2 | exact alt_mem ll1.2.2.2.2.2.2.2 | exact alt_mem ll1.2.2.2.2.2.2 | exact alt_mem ll1.2.2.2.2.2 | exact alt_mem ll1.2.2.2.2 | exact alt_mem ll1.2.2.2)⟩
        · cases hp
  · refine wpAny_call ?_
    k_dflt (refine' code_defC ?k1 ?k2 ?k3 ?k4 ?k5 ?kA ?kF ?kK ?k6 ?k7 ?k8 ?k9 ?kB ?kD ?_ ?c2 ?c3 ?c4; (case kA => exact rfl); (case kF => exact rfl); (case kK => assumption); (case k1 => k_asm); (case k2 => k_asm); (case k3 => k_asm); (case k4 => k_asm); (case k5 => k_asm); (case k6 => k_is); (case k7 => k_is); (case k8 => exact Nat.lt_of_le_of_lt (Nat.le_add_right _ _) hd); (case k9 => exact BindsTo.of_eq rfl); (case kB => exact rfl); (case kD => decide +kernel); (case c2 => exact rfl); (case c3 => exact rfl); (case c4 => exact rfl); k_whole; intro g' L' h' tk' cells' FG' F' N' Y' B' X' T' l1; have C' := cHd30 X'; k_lt l1; obtain ⟨o1, o2, hO⟩ := l1; k_cells Y'; (try simp only [List.cons_append, List.nil_append] at N'); (try dsimp only); (try k_lift B'); (try k_fold))
    k_steps
    · refine len_list (News.isList (by assumption) (by k_mem)) (by simp only [List.size_toArray, List.length_replicate]; omega) ?_
      iterate 2 (first | walk1 | (dsimp only; walk1))
      · walk1
      rename_i o3 d1 d2 d3 l0 hh4 l01 l hh3 l11 hh2 oA dA f ct dc hh1 tk1 ll1 h2 oI F2 N2 dI hne
      have ek : (((Builtin.Int.intBits a : Int) + b - 1).fdiv b).toNat = k := by rw [hak]; rfl
      have dN : o3.data = .cell (some (.int b t2)) := d3
      have hOl : AllLt l own := l11.2.2.2.2.2.2
      refine inner_call (l := l) (e := 0) (vs := List.replicate (((Builtin.Int.intBits a : Int) + b - 1).fdiv b).toNat (.int ((0 : Nat) : Int) tk')) (b := b) (sz := k) (ns := List.replicate k 0) (rest := (f, inF1 qual1 (L' + 1) (L' + 1 + 1 + 1) (L' + 1 + 1) dc ((mg (Str.ofString "__name__")).getD Value.none) c0 ct) :: (c0, oc0) :: (L' + 1, o3) :: (L' + 1 + 1 + 1, oI) :: (L' + 1 + 1, oA) :: (30, tabObj #[rawInt ((32 : Nat) : Int), rawInt ((4 : Nat) : Int), Value.ref c0]) :: (37, tabObj p2) :: own) rfl (by assumption) F2 X' (cb_drop N2 ?_) T' rfl
        (inner1_all b hb1 hb2 ((30, tabObj #[rawInt ((32 : Nat) : Int), rawInt ((4 : Nat) : Int), Value.ref c0]) :: (37, tabObj p2) :: own) d0 q0 dN dI dA 0 (Nat.ne_of_gt (alt_mem hOl _ m0)) (by omega) (by omega) (by omega) (by omega) ⟨by omega, by omega, hOl⟩ k hk2)
        (by rw [ek]; exact ints_rep k 0 _) (by simp only [List.size_toArray, List.length_replicate]; omega) (Int.le_refl _) (by omega) (by simp only [List.size_toArray, List.length_replicate]; omega) (by simp only [List.length_replicate]; omega) (by omega) hax.out ?_ ?_ ?_
      · intro p hp
        rcases List.mem_cons.mp hp with rfl | hp
        · k_mem
        rcases List.mem_cons.mp hp with rfl | hp
        · exact .head _
        rcases List.mem_cons.mp hp with rfl | hp
        · exact .tail _ (.tail _ (.tail _ (.tail _ (.tail _ (.tail _ (.tail _ (.tail _ m0)))))))
        rcases List.mem_cons.mp hp with rfl | hp
        · k_mem
        rcases List.mem_cons.mp hp with rfl | hp
        · k_mem
        rcases List.mem_cons.mp hp with rfl | hp
        · k_mem
        · exact .tail _ (.tail _ (.tail _ (.tail _ (.tail _ (.tail _ hp)))))
      · show dp + 1 + k < _; omega
      · show un + 3 + 8 * k < _; omega
      intro vs3 h3 tk3 F3 N3 I3
      rw [show (((List.replicate (((Builtin.Int.intBits a : Int) + b - 1).fdiv b).toNat (Value.int ((0 : Nat) : Int) tk')).toArray.size : Int)).toNat = k by simp only [List.size_toArray, List.length_replicate]; omega, show (0 : Int).toNat = 0 from rfl, List.take_zero, List.nil_append, show (List.replicate k (0 : Int)).drop k = [] from List.drop_eq_nil_of_le (by simp), List.append_nil] at I3
      k_steps
      refine hret _ _ _ _ (by assumption) (cb_drop (news := (l, listO vs3 0) :: (30, tabObj #[rawInt ((32 : Nat) : Int), rawInt ((4 : Nat) : Int), Value.ref c0]) :: (37, tabObj p2) :: ([] ++ own)) (by assumption) ?_) ⟨l, vs3, _, [], rfl, rfl, I3, .inr rfl, ?_, fun p hp => alt_mem hOl p hp, fun _ => ⟨rfl, rfl⟩, by omega, by omega⟩
      · intro p hp
        rcases List.mem_cons.mp hp with rfl | hp
        · k_mem
        rcases List.mem_cons.mp hp with rfl | hp
        · k_mem
        rcases List.mem_cons.mp hp with rfl | hp
        · k_mem
        · exact .tail _ (.tail _ (.tail _ (.tail _ (.tail _ (.tail _ (.tail _ (.tail _ hp)))))))
      · intro p hp; cases hp
    · rename_i o3 d1 d2 d3 l0 hh4 l01 l hh3 l11 hh2 oA dA f ct dc hh1 tk1 ll1 h2 oI F2 N2 dI hne kF kN Tc kX
      obtain rfl : k = 0 := by omega
      have ek : (((Builtin.Int.intBits a : Int) + b - 1).fdiv b).toNat = 0 := by rw [hak]; rfl
      rw [ek, List.replicate_zero] at kN
      refine hret _ _ _ _ kF (cb_drop (news := (l, listO [] 0) :: (30, tabObj #[rawInt ((32 : Nat) : Int), rawInt ((4 : Nat) : Int), Value.ref c0]) :: (37, tabObj p2) :: ([] ++ own)) kN ?_) ⟨l, [], _, [], rfl, rfl, .nil, .inr rfl, ?_, fun p hp => alt_mem l11.2.2.2.2.2.2 p hp, fun _ => ⟨rfl, rfl⟩, by omega, by omega⟩
      · intro p hp
        rcases List.mem_cons.mp hp with rfl | hp
        · k_mem
        rcases List.mem_cons.mp hp with rfl | hp
        · k_mem
        rcases List.mem_cons.mp hp with rfl | hp
        · k_mem
        · exact .tail _ (.tail _ (.tail _ (.tail _ (.tail _ (.tail _ (.tail _ (.tail _ hp)))))))
      · intro p hp; cases hp
end
section
variable {w : World} {mean : ExcName → Option Value} {mg mb : Str → Option Value}
noncomputable def qual2 : Str := qualnameIn (envOfC (Str.ofString "_digits2int") (scAt 5) 0 42 (.ref 41)) (Str.ofString "inner") (Str.ofString "inner")
noncomputable abbrev inF2 (qual : Str) (cN cI cD : Addr) (doc pm : Value) (c' : Addr) (ct : Value) : Obj := fnMade (Str.ofString "inner") qual (inPm 5 0) (inBd 5 0) (inSc 5 0) [(Str.ofString "n", cN), (Str.ofString "inner", cI), (Str.ofString "digits", cD)] doc pm c' ct
noncomputable abbrev Inner2 (w : World) (mean : ExcName → Option Value) (mg mb : Str → Option Value) (b : Nat) (f : Addr) (rest : List (Addr × Obj)) (ns : List Int) (sz : Nat) : Prop :=
  ∀ (lo hi : Int) (t1 t2 : Tok), hi = lo + sz → 0 ≤ lo → 1 ≤ sz → hi ≤ ns.length →
    Claim w mean mg mb f rest sz [.int lo t1, .int hi t2] (fun v news' => ∃ t, v = .int (val b ((ns.drop lo.toNat).take sz)) t ∧ news' = rest)
theorem inner2_call {A : Around} {b : Nat} {f : Addr} {rest : List (Addr × Obj)} {sz : Nat} {dp un : Nat} {gd : Option (List Code)} {cn : Str} {cs : Scope} {a : Addr} {ccd : Value} {cl : List (Str × Addr)} {outer : List Env} {A₀ : Around} {base h₀ : Heap} {L : Addr} {m : Str → Option Value} {s : Shared} {Q E : Value → Shared → Prop}
    {lo hi : Int} {t1 t2 : Tok} {ns : List Int} (hA : A = ktrTop dp un gd cn cs L a ccd cl outer) (B : Below A₀ base outer h₀) (F : Fr h₀ L s.heap m) (X : (K w.params).In h₀) (N : News h₀ L s.heap rest) (T : Top TP TL mean mg mb h₀) (hk : cs.kind = .function)
    (H : Inner2 w mean mg mb b f rest ns sz) (h1 : hi = lo + sz) (h2 : 0 ≤ lo) (h3 : 1 ≤ sz) (h4 : hi ≤ ns.length) (hd : dp + sz < recursionLimit) (hu : un + 8 * sz < cLine)
    (h : ∀ t h' tk', Fr h₀ L h' m → News h₀ L h' rest → Q (.int (val b ((ns.drop lo.toNat).take sz)) t) { s with heap := h', toks := tk' }) :
    wpAny (model PR w) A (call (.ref f) [.int lo t1, .int hi t2]) Q E s := by
  subst hA
  exact H lo hi t1 t2 h1 h2 h3 h4 dp un gd cn cs a ccd cl outer A₀ base h₀ L m s Q E B F X N T hk hd hu fun v h' tk' news' F' N' ⟨t, hv, hn⟩ => by
    subst hv hn
    exact h t h' tk' F' N'
set_option maxHeartbeats 4000000 in
theorem c_inner2 (b : Nat) (hb1 : 1 ≤ b) (hb2 : b ≤ 10000) {dl f c' cN cI cD : Nat} {qual : Str} {doc pm ct : Value} {oc oN oI oD : Obj} {vsC : Array Value} {tq tn : Tok} (own : List (Addr × Obj)) (dC : oc.data = .fields vsC) (dq : vsC[1]? = some (.str qual tq))
    (dN : oN.data = .cell (some (.int b tn))) (dI : oI.data = .cell (some (.ref f))) (dD : oD.data = .cell (some (.ref dl))) (e : Nat) (vs : List Value) (ns : List Int) (hI : IntsAre vs ns) (hns : ns.length ≤ 1000) (hbd : ∀ d ∈ ns, 0 ≤ d ∧ d < 2 ^ b) (sz : Nat) (hsz : sz ≤ 1000)
    (ih : ∀ k, k < sz → Inner2 w mean mg mb b f ((dl, listO vs e) :: (f, inF2 qual cN cI cD doc pm c' ct) :: (c', oc) :: (cN, oN) :: (cI, oI) :: (cD, oD) :: own) ns k) :
    Inner2 w mean mg mb b f ((dl, listO vs e) :: (f, inF2 qual cN cI cD doc pm c' ct) :: (c', oc) :: (cN, oN) :: (cI, oI) :: (cD, oD) :: own) ns sz := by
  intros lo hi t1 t2 hhi hlo hs1 hlen
  intros dp un gd cn cs a' ccd cl outer A₀ base h₀ L m s Q E B F X N T hk hd hu hret
  refine wpAny_call ?_
  k_dflt (refine' code_nest ?k1 ?k2 ?k3 ?k4 ?k5 ?kA ?kF ?kK ?k6 ?k7 ?k8 ?k9 ?kB ?_ ?c2 ?c3 ?c4 ?c5; (case kA => exact rfl); (case kF => exact rfl); (case kK => assumption); (case k1 => k_asm); (case k2 => k_asm); (case k3 => k_asm); (case k4 => k_asm); (case k5 => k_asm); (case k6 => k_mem); (case k7 => exact codeRec_news (by k_asm) (by k_mem) (by assumption) (by assumption)); (case k8 => exact Nat.lt_of_le_of_lt (Nat.le_add_right _ _) hd); (case k9 => exact BindsTo.of_eq rfl); (case c5 => decide); (case kB => exact locs rfl); (case c2 => exact rfl); (case c3 => exact rfl); (case c4 => exact rfl); k_whole; intro g' L' h' FG' F' N' B' X' T'; (try dsimp only); (try k_lift B'); (try k_fold))
  have C' := cHd37 X'
  have hIl := IntsAre.length hI
  have hbd := Hid.mk hbd
  by_cases h1 : sz = 1
  · subst h1
    have hc : lo + 1 = hi := by omega
    k_steps
    · refine hret _ _ _ _ (by assumption) (by assumption) ⟨_, congrArg (fun z => Value.int z _) ?_, rfl⟩
      rw [show (ns.drop lo.toNat).take 1 = [ns.getD lo.toNat 0] by
        rw [List.drop_eq_getElem_cons (show lo.toNat < ns.length by omega), List.take_succ_cons, List.take_zero, List.getD_eq_getElem?_getD, List.getElem?_eq_getElem (show lo.toNat < ns.length by omega)]; rfl, val_one]
    · exact absurd hc (by assumption)
  · have hc : ¬ (lo + 1 = hi) := by omega
    obtain ⟨hm, hsh, hS, hS2⟩ := shift_facts hhi hlo (by omega) (by omega)
    have hm := Hid.mk hm
    have hsh := Hid.mk hsh
    have hS := Hid.mk hS
    have hS2 := Hid.mk hS2
    k_steps
    · exact absurd (by assumption) hc
    have hm' := hm.out
    have e1 : ((lo + hi).fdiv (2 ^ Int.toNat 1)).toNat = lo.toNat + sz / 2 := by omega
    refine inner2_call rfl (by assumption) (by assumption) (by assumption) (by assumption) (by assumption) rfl (ih (sz - sz / 2) (by omega)) (by omega) (by omega) (by omega) (by omega) ?_ ?_ ?_
    · show dp + 1 + (sz - sz / 2) < _; omega
    · show un + 3 + 8 * (sz - sz / 2) < _; omega
    intro t5 h5 tk5 F5 N5
    have hv := val_bounds b ((ns.drop ((lo + hi).fdiv (2 ^ Int.toNat 1)).toNat).take (sz - sz / 2)) (fun d hd => hbd.out d (seg_mem hd))
    have hvl : ((ns.drop ((lo + hi).fdiv (2 ^ Int.toNat 1)).toNat).take (sz - sz / 2)).length ≤ 1000 := by rw [List.length_take]; omega
    have hvb := log2_lt_of hv.1 hv.2
    have hls : Hid ((Builtin.Int.intBits (val b ((ns.drop ((lo + hi).fdiv (2 ^ Int.toNat 1)).toNat).take (sz - sz / 2))) : Int) + ((lo + hi).fdiv (2 ^ Int.toNat 1) - lo) * (b : Int) ≤ 2 ^ 27) := by
      have h6 := hS2.out
      have h7 : b * ((ns.drop ((lo + hi).fdiv (2 ^ Int.toNat 1)).toNat).take (sz - sz / 2)).length ≤ 10000 * 1000 := Nat.mul_le_mul (by omega) hvl
      exact Hid.mk (by omega)
    clear hv hvl hvb
    k_steps
    refine inner2_call rfl (by assumption) (by assumption) (by assumption) (by assumption) (by assumption) rfl (ih (sz / 2) (by omega)) hm' hlo (by omega) (by omega) ?_ ?_ ?_
    · show dp + 1 + sz / 2 < _; omega
    · show un + 3 + 8 * (sz / 2) < _; omega
    intro t8 h8 tk8 F8 N8
    k_steps
    refine hret _ _ _ _ (by assumption) (by assumption) ⟨_, congrArg (fun z => Value.int z _) ?_, rfl⟩
    have e2 : val b ((ns.drop lo.toNat).take sz) = val b ((ns.drop ((lo + hi).fdiv (2 ^ Int.toNat 1)).toNat).take (sz - sz / 2)) * 2 ^ (((lo + hi).fdiv (2 ^ Int.toNat 1) - lo) * (b : Int)).toNat + val b ((ns.drop lo.toNat).take (sz / 2)) := by
      rw [hS.out, e1]
      conv => lhs; rw [show sz = sz / 2 + (sz - sz / 2) by omega, seg_split, val_append]
      rw [show ((ns.drop lo.toNat).take (sz / 2)).length = sz / 2 by rw [List.length_take, List.length_drop]; omega, Int.mul_comm (2 ^ (b * (sz / 2))), Int.add_comm]
    rw [e2]
theorem inner2_all (b : Nat) (hb1 : 1 ≤ b) (hb2 : b ≤ 10000) {dl f c' cN cI cD : Nat} {qual : Str} {doc pm ct : Value} {oc oN oI oD : Obj} {vsC : Array Value} {tq tn : Tok} (own : List (Addr × Obj)) (dC : oc.data = .fields vsC) (dq : vsC[1]? = some (.str qual tq))
    (dN : oN.data = .cell (some (.int b tn))) (dI : oI.data = .cell (some (.ref f))) (dD : oD.data = .cell (some (.ref dl))) (e : Nat) (vs : List Value) (ns : List Int) (hI : IntsAre vs ns) (hns : ns.length ≤ 1000) (hbd : ∀ d ∈ ns, 0 ≤ d ∧ d < 2 ^ b) (sz : Nat) (hsz : sz ≤ 1000) :
    Inner2 w mean mg mb b f ((dl, listO vs e) :: (f, inF2 qual cN cI cD doc pm c' ct) :: (c', oc) :: (cN, oN) :: (cI, oI) :: (cD, oD) :: own) ns sz := by
  induction sz using Nat.strongRecOn with
  | ind sz ih => exact c_inner2 b hb1 hb2 own dC dq dN dI dD e vs ns hI hns hbd sz hsz fun k hk => ih k hk (by omega)
set_option maxHeartbeats 4000000 in
theorem c_digits2int (p1 p2 : Array Value) (own : List (Addr × Obj)) (b : Nat) (hb1 : 1 ≤ b) (hb2 : b ≤ 10000) (dl e : Nat) (vs : List Value) (ns : List Int) (t2 : Tok) (I : IntsAre vs ns) (hl1 : ns.length ≤ 1000) (hbd : ∀ d ∈ ns, 0 ≤ d ∧ d < 2 ^ b) (hown : ∀ p ∈ own, p.1 ≠ 37) (h1 : dl ≠ 30) (h2 : dl ≠ 37) (T2 : TabOk p2 47 4 qual2 own) :
    Claim w mean mg mb 42 ((dl, listO vs e) :: (30, tabObj p1) :: (37, tabObj p2) :: own) (ns.length + 1) [.ref dl, .int b t2]
    (fun v news' => ∃ t p2' own', v = .int (val b ns) t ∧ news' = (dl, listO vs e) :: (30, tabObj p1) :: (37, tabObj p2') :: (own' ++ own) ∧ (TabOk p2' 47 4 qual2 own' ∨ p2' = p2) ∧ (∀ p ∈ own', p.1 ≠ 30 ∧ p.1 ≠ 37 ∧ p.1 ≠ dl ∧ ∀ x ∈ own, x.1 < p.1) ∧ (p2 ≠ #[] → p2' = p2 ∧ own' = [])) := by
  intros dp un gd cn cs a' ccd cl outer A₀ base h₀ L m s Q E B F X N T hk hd hu hret
  have hbd' := Hid.mk hbd
  clear hbd
  rcases T2 with rfl | ⟨c0, oc0, vs0, t0, rfl, m0, d0, q0⟩
  · refine wpAny_call ?_
    k_dflt (refine' code_defC ?k1 ?k2 ?k3 ?k4 ?k5 ?kA ?kF ?kK ?k6 ?k7 ?k8 ?k9 ?kB ?kD ?_ ?c2 ?c3 ?c4; (case kA => exact rfl); (case kF => exact rfl); (case kK => assumption); (case k1 => k_asm); (case k2 => k_asm); (case k3 => k_asm); (case k4 => k_asm); (case k5 => k_asm); (case k6 => k_is); (case k7 => k_is); (case k8 => exact Nat.lt_of_le_of_lt (Nat.le_add_right _ _) hd); (case k9 => exact BindsTo.of_eq rfl); (case kB => exact rfl); (case kD => decide +kernel); (case c2 => exact rfl); (case c3 => exact rfl); (case c4 => exact rfl); k_whole; intro g' L' h' tk' cells' FG' F' N' Y' B' X' T' l1; have C' := cHd37 X'; k_lt l1; obtain ⟨o0, o1, o2, hO⟩ := l1; k_cells Y'; (try simp only [List.cons_append, List.nil_append] at N'); (try dsimp only); (try k_lift B'); (try k_fold))
    k_steps
    · rename_i o2' o3' d1' d2' d3' f c oc vsC tq ct dc hh1 tk1 dC dq ll1 ll2 h2 oI F2 N2 dI hne
      refine inner2_call (b := b) (sz := ns.length) (ns := ns) (rest := (dl, listO vs e) :: (f, inF2 qual2 (L' + 1 + 1) (L' + 1 + 1 + 1) (L' + 1) dc ((mg (Str.ofString "__name__")).getD Value.none) c ct) :: (c, oc) :: (L' + 1 + 1, o2') :: (L' + 1 + 1 + 1, oI) :: (L' + 1, o3') :: (30, tabObj p1) :: (37, tabObj (#[] ++ #[rawInt ((47 : Nat) : Int), rawInt ((4 : Nat) : Int), Value.ref c])) :: own) rfl (by assumption) F2 X' (cb_drop N2 ?_) T' rfl
        (inner2_all b hb1 hb2 ((30, tabObj p1) :: (37, tabObj (#[] ++ #[rawInt ((47 : Nat) : Int), rawInt ((4 : Nat) : Int), Value.ref c])) :: own) dC dq (show o2'.data = .cell (some (.int b t2)) from d2') dI (show o3'.data = .cell (some (.ref dl)) from d3') e vs ns I hl1 hbd'.out ns.length hl1)
        (by omega) (Int.le_refl _) (by omega) (by omega) ?_ ?_ ?_
      · intro p hp
        rcases List.mem_cons.mp hp with rfl | hp
        · k_mem
        rcases List.mem_cons.mp hp with rfl | hp
        · exact .head _
        rcases List.mem_cons.mp hp with rfl | hp
        · k_mem
        rcases List.mem_cons.mp hp with rfl | hp
        · k_mem
        rcases List.mem_cons.mp hp with rfl | hp
        · k_mem
        rcases List.mem_cons.mp hp with rfl | hp
        · k_mem
        · exact .tail _ (.tail _ (.tail _ (.tail _ (.tail _ (.tail _ hp)))))
      · show dp + 1 + ns.length < _; omega
      · show un + 3 + 8 * ns.length < _; omega
      intro t5 h5 tk5 F5 N5
      k_steps
      refine hret _ _ _ _ (by assumption) (cb_drop (news := (dl, listO vs e) :: (30, tabObj p1) :: (37, tabObj #[rawInt ((47 : Nat) : Int), rawInt ((4 : Nat) : Int), Value.ref c]) :: ([(c, oc)] ++ own)) (by assumption) ?_) ⟨_, _, [(c, oc)], congrArg (fun z => Value.int z _) ?_, rfl, .inl (.inr ⟨c, oc, vsC, tq, rfl, .head _, dC, dq⟩), ?_, fun h => absurd rfl h⟩
      · intro p hp
        rcases List.mem_cons.mp hp with rfl | hp
        · k_mem
        rcases List.mem_cons.mp hp with rfl | hp
        · k_mem
        rcases List.mem_cons.mp hp with rfl | hp
        · k_mem
        rcases List.mem_cons.mp hp with rfl | hp
        · k_mem
        · exact .tail _ (.tail _ (.tail _ (.tail _ (.tail _ (.tail _ (.tail _ (.tail _ hp)))))))
      · rw [show (0 : Int).toNat = 0 from rfl, List.drop_zero, List.take_length]
      · intro p hp
        rcases List.mem_cons.mp hp with rfl | hp
        · exact ⟨neN (a := c) (b := 30) (by omega), neN (a := c) (b := 37) (by omega), neN (a := c) (b := dl) (by omega), (by first | exact alt_mem ll1.2.2.2.2.2.2.2.2 | exact alt_mem ll1.2.2.2.2.2.2.2 | exact alt_mem ll1.2.2.2.2.2.2 | exact alt_mem ll1.2.2.2.2.2 | exact alt_mem ll1.2.2.2.2 | exact alt_mem ll1.2.2.2)⟩
        · cases hp
    · rename_i o2' o3' d1' d2' d3' f c oc vsC tq ct dc hh1 tk1 dC dq ll1 ll2 h2 oI F2 N2 dI hne kF kN Tc kX
      obtain rfl : ns = [] := List.length_eq_zero_iff.mp (by omega)
      refine hret _ _ _ _ kF (cb_drop (news := (dl, listO vs e) :: (30, tabObj p1) :: (37, tabObj #[rawInt ((47 : Nat) : Int), rawInt ((4 : Nat) : Int), Value.ref c]) :: ([(c, oc)] ++ own)) kN ?_) ⟨_, _, [(c, oc)], rfl, rfl, .inl (.inr ⟨c, oc, vsC, tq, rfl, .head _, dC, dq⟩), ?_, fun h => absurd rfl h⟩
      · intro p hp
        rcases List.mem_cons.mp hp with rfl | hp
        · k_mem
        rcases List.mem_cons.mp hp with rfl | hp
        · k_mem
        rcases List.mem_cons.mp hp with rfl | hp
        · k_mem
        rcases List.mem_cons.mp hp with rfl | hp
        · k_mem
        · exact .tail _ (.tail _ (.tail _ (.tail _ (.tail _ (.tail _ (.tail _ (.tail _ hp)))))))
      · intro p hp
        rcases List.mem_cons.mp hp with rfl | hp
        · exact ⟨neN (a := c) (b := 30) (by omega), neN (a := c) (b := 37) (by omega), neN (a := c) (b := dl) (by omega), (by first | exact alt_mem ll1.2.2.2.2.2.2.2.2 | exact alt_mem ll1.2.2.2.2.2.2.2 | exact alt_mem ll1.2.2.2.2.2.2 | exact alt_mem ll1.2.2.2.2.2 | exact alt_mem ll1.2.2.2.2 | exact alt_mem ll1.2.2.2)⟩
        · cases hp
  · refine wpAny_call ?_
    k_dflt (refine' code_defC ?k1 ?k2 ?k3 ?k4 ?k5 ?kA ?kF ?kK ?k6 ?k7 ?k8 ?k9 ?kB ?kD ?_ ?c2 ?c3 ?c4; (case kA => exact rfl); (case kF => exact rfl); (case kK => assumption); (case k1 => k_asm); (case k2 => k_asm); (case k3 => k_asm); (case k4 => k_asm); (case k5 => k_asm); (case k6 => k_is); (case k7 => k_is); (case k8 => exact Nat.lt_of_le_of_lt (Nat.le_add_right _ _) hd); (case k9 => exact BindsTo.of_eq rfl); (case kB => exact rfl); (case kD => decide +kernel); (case c2 => exact rfl); (case c3 => exact rfl); (case c4 => exact rfl); k_whole; intro g' L' h' tk' cells' FG' F' N' Y' B' X' T' l1; have C' := cHd37 X'; k_lt l1; obtain ⟨o0, o1, o2, hO⟩ := l1; k_cells Y'; (try simp only [List.cons_append, List.nil_append] at N'); (try dsimp only); (try k_lift B'); (try k_fold))
    k_steps
    · rename_i o2' o3' d1' d2' d3' f ct dc hh1 tk1 ll1 h2 oI F2 N2 dI hne
      refine inner2_call (b := b) (sz := ns.length) (ns := ns) (rest := (dl, listO vs e) :: (f, inF2 qual2 (L' + 1 + 1) (L' + 1 + 1 + 1) (L' + 1) dc ((mg (Str.ofString "__name__")).getD Value.none) c0 ct) :: (c0, oc0) :: (L' + 1 + 1, o2') :: (L' + 1 + 1 + 1, oI) :: (L' + 1, o3') :: (30, tabObj p1) :: (37, tabObj #[rawInt ((47 : Nat) : Int), rawInt ((4 : Nat) : Int), Value.ref c0]) :: own) rfl (by assumption) F2 X' (cb_drop N2 ?_) T' rfl
        (inner2_all b hb1 hb2 ((30, tabObj p1) :: (37, tabObj #[rawInt ((47 : Nat) : Int), rawInt ((4 : Nat) : Int), Value.ref c0]) :: own) d0 q0 (show o2'.data = .cell (some (.int b t2)) from d2') dI (show o3'.data = .cell (some (.ref dl)) from d3') e vs ns I hl1 hbd'.out ns.length hl1)
        (by omega) (Int.le_refl _) (by omega) (by omega) ?_ ?_ ?_
      · intro p hp
        rcases List.mem_cons.mp hp with rfl | hp
        · k_mem
        rcases List.mem_cons.mp hp with rfl | hp
        · exact .head _
        rcases List.mem_cons.mp hp with rfl | hp
        · exact .tail _ (.tail _ (.tail _ (.tail _ (.tail _ (.tail _ (.tail _ m0))))))
        rcases List.mem_cons.mp hp with rfl | hp
        · k_mem
        rcases List.mem_cons.mp hp with rfl | hp
        · k_mem
        rcases List.mem_cons.mp hp with rfl | hp
        · k_mem
        · exact .tail _ (.tail _ (.tail _ (.tail _ (.tail _ hp))))
      · show dp + 1 + ns.length < _; omega
      · show un + 3 + 8 * ns.length < _; omega
      intro t5 h5 tk5 F5 N5
      k_steps
      refine hret _ _ _ _ (by assumption) (cb_drop (news := (dl, listO vs e) :: (30, tabObj p1) :: (37, tabObj #[rawInt ((47 : Nat) : Int), rawInt ((4 : Nat) : Int), Value.ref c0]) :: ([] ++ own)) (by assumption) ?_) ⟨_, _, [], congrArg (fun z => Value.int z _) ?_, rfl, .inr rfl, ?_, fun _ => ⟨rfl, rfl⟩⟩
      · intro p hp
        rcases List.mem_cons.mp hp with rfl | hp
        · k_mem
        rcases List.mem_cons.mp hp with rfl | hp
        · k_mem
        rcases List.mem_cons.mp hp with rfl | hp
        · k_mem
        · exact .tail _ (.tail _ (.tail _ (.tail _ (.tail _ (.tail _ (.tail _ (.tail _ hp)))))))
      · rw [show (0 : Int).toNat = 0 from rfl, List.drop_zero, List.take_length]
      · intro p hp; cases hp
    · rename_i o2' o3' d1' d2' d3' f ct dc hh1 tk1 ll1 h2 oI F2 N2 dI hne kF kN Tc kX
      obtain rfl : ns = [] := List.length_eq_zero_iff.mp (by omega)
      refine hret _ _ _ _ kF (cb_drop (news := (dl, listO vs e) :: (30, tabObj p1) :: (37, tabObj #[rawInt ((47 : Nat) : Int), rawInt ((4 : Nat) : Int), Value.ref c0]) :: ([] ++ own)) kN ?_) ⟨_, _, [], rfl, rfl, .inr rfl, ?_, fun _ => ⟨rfl, rfl⟩⟩
      · intro p hp
        rcases List.mem_cons.mp hp with rfl | hp
        · k_mem
        rcases List.mem_cons.mp hp with rfl | hp
        · k_mem
        rcases List.mem_cons.mp hp with rfl | hp
        · k_mem
        · exact .tail _ (.tail _ (.tail _ (.tail _ (.tail _ (.tail _ (.tail _ hp))))))
      · intro p hp; cases hp
end
end
theorem rst2 : True := by first | walk1 | trivial
section
variable {w : World} {mean : ExcName → Option Value} {mg mb : Str → Option Value}
/-- a goal that the walk leaves -/
noncomputable def Stop (P : Prop) : Prop := P
theorem stop_of {P : Prop} (h : Stop P) : P := h
theorem stop_out {P : Prop} (h : P) : Stop P := h
local macro_rules | `(tactic| walk_at "call ref") => `(tactic| refine stop_of ?_)
local macro_rules | `(tactic| k_all) => `(tactic| first | assumption | (refine all_ne_of (by assumption) ?_; (try dsimp only); omega))
local macro_rules | `(tactic| walk_at "binaryOp RShift int int") => `(tactic| (refine rshift_int (by first | exact Hid.out (by with_reducible assumption) | exact Int.zero_le_ofNat 1) ?_))
local macro_rules | `(tactic| walk_at "binaryOp LShift int int") => `(tactic| (refine lshift_int (Hid.out (by with_reducible assumption)) (Hid.out (by with_reducible assumption)) ?_))
theorem use_claim {A : Around} {f : Addr} {news : List (Addr × Obj)} {need : Nat} {vs : List Value} {Post : Value → List (Addr × Obj) → Prop} {dp un : Nat} {gd : Option (List Code)} {cn : Str} {cs : Scope} {a : Addr} {ccd : Value} {cl : List (Str × Addr)} {outer : List Env} {A₀ : Around} {base h₀ : Heap} {L : Addr} {m : Str → Option Value} {s : Shared} {Q E : Value → Shared → Prop}
    (hA : A = ktrTop dp un gd cn cs L a ccd cl outer) (H : Claim w mean mg mb f news need vs Post) (B : Below A₀ base outer h₀) (F : Fr h₀ L s.heap m) (X : (K w.params).In h₀) (N : News h₀ L s.heap news) (T : Top TP TL mean mg mb h₀) (hk : cs.kind = .function) (hd : dp + need < recursionLimit) (hu : un + 8 * need < cLine)
    (h : ∀ v h' tk' news', Fr h₀ L h' m → News h₀ L h' news' → Post v news' → Q v { s with heap := h', toks := tk' }) : wpAny (model PR w) A (call (.ref f) vs) Q E s := by
  subst hA
  exact H dp un gd cn cs a ccd cl outer A₀ base h₀ L m s Q E B F X N T hk hd hu h
theorem rev_inv {prog : Program} {w : World} {A : Around} {E : Value → Shared → Prop} {s : Shared} {env : Env} {h₀ : Heap} {x : Str} {body : List Stmt} {Q : Flow → Shared → Prop} {I : Addr} {lp : Addr × Obj} {ds : List Value} {m₀ : Str → Option Value} {news₀ : List (Addr × Obj)}
    (J : (Str → Option Value) → List Value → (Str → Option Value) → List (Addr × Obj) → Prop) (hs : J m₀ ds m₀ news₀)
    (he : ∀ m news h tk, J m₀ [] m news → Fr h₀ env.locals h m → News h₀ env.locals h news → Q .next { s with heap := h, toks := tk })
    (ht : ∀ v r m news (it : Obj) h tk, J m₀ (v :: r) m news → it.cls = .type "list_reverseiterator" → Fr h₀ env.locals h (fun y => if y = x then some v else m y) → News h₀ env.locals h ((I, it) :: news) →
      wpAny (model prog w) A (execs body env) (UnrPost h₀ env.locals { s with heap := h, toks := tk } I it (fun m' n' => lp ∈ n' ∧ J m₀ r m' n') Q) E { s with heap := h, toks := tk }) :
    RevRest prog w A E h₀ env x body Q s I lp ds m₀ news₀ := by
  suffices H : ∀ ds m news, J m₀ ds m news → RevRest prog w A E h₀ env x body Q s I lp ds m news from H _ _ _ hs
  intro ds
  induction ds with
  | nil => intro m news hJ; exact fun h tk F N => he m news h tk hJ F N
  | cons v r ih =>
    intro m news hJ it h tk hc F N
    refine wpAny_mono (ht v r m news it h tk hJ hc F N) (fun f s₂ p => ?_) fun _ _ e => e
    cases f with
    | ret v => exact p
    | brk => exact p
    | next => obtain ⟨h', tk', m', n', e, F', N', o, l, j⟩ := p; exact ⟨h', tk', m', n', e, F', N', o, l, ih _ _ j⟩
    | cont => obtain ⟨h', tk', m', n', e, F', N', o, l, j⟩ := p; exact ⟨h', tk', m', n', e, F', N', o, l, ih _ _ j⟩
theorem map3 (m : Str → Option Value) (a b c : Str) : m = fun y => if y = a then m a else if y = b then m b else if y = c then m c else m y := by
  funext y
  by_cases h1 : y = a
  · rw [if_pos h1, h1]
  rw [if_neg h1]
  by_cases h2 : y = b
  · rw [if_pos h2, h2]
  rw [if_neg h2]
  by_cases h3 : y = c
  · rw [if_pos h3, h3]
  rw [if_neg h3]
theorem offI_of {I : Addr} {it : Obj} : ∀ {l : List (Addr × Obj)}, (∀ p ∈ l, p.1 < I) → OffI I it l
  | [], _ => trivial
  | p :: _, h => ⟨.inl (Nat.ne_of_lt (h p (.head _))), offI_of fun p hp => h p (.tail _ hp)⟩
theorem lt_cons {I : Nat} {p : Addr × Obj} {l : List (Addr × Obj)} (h1 : p.1 < I) (h : ∀ p ∈ l, p.1 < I) : ∀ x ∈ p :: l, x.1 < I := fun x hx => by
  rcases List.mem_cons.mp hx with rfl | hx
  · exact h1
  · exact h x hx
local macro_rules | `(tactic| walk_at "call builtin:list.append") => `(tactic| (refine' append_K (its := List.toArray _) ?y1 ?y2 ?y3 ?_ ?y4; (case y1 => assumption); (case y2 => assumption); (case y3 => k_upd); (case y4 => exact Nat.le_trans (m := 100000) (by rw [List.size_toArray]; omega) (by decide)); intro h' F' N'; (try k_sweep)))
theorem map3_put {a b c : Str} {va vb vc o1 o2 o3 : Option Value} {m : Str → Option Value} : (fun y => if y = a then va else if y = b then vb else if y = c then vc else (fun y => if y = a then o1 else if y = b then o2 else if y = c then o3 else m y) y) = fun y => if y = a then va else if y = b then vb else if y = c then vc else m y := by
  funext y
  by_cases h1 : y = a
  · rw [if_pos h1, if_pos h1]
  rw [if_neg h1, if_neg h1]
  by_cases h2 : y = b
  · rw [if_pos h2, if_pos h2]
  rw [if_neg h2, if_neg h2]
  by_cases h3 : y = c
  · rw [if_pos h3, if_pos h3]
  rw [if_neg h3, if_neg h3]
  simp only [if_neg h1, if_neg h2, if_neg h3]
theorem TabOk.mono {p : Array Value} {i j : Nat} {qu : Str} {own own' : List (Addr × Obj)} (h : TabOk p i j qu own) (hs : ∀ x ∈ own, x ∈ own') : TabOk p i j qu own' := by
  rcases h with h | ⟨c, oc, vs, t, h1, h2, h3⟩
  · exact .inl h
  · exact .inr ⟨c, oc, vs, t, h1, hs _ h2, h3⟩

theorem tab_up {p p' : Array Value} {i j : Nat} {qu : Str} {own own' : List (Addr × Obj)} (h : TabOk p' i j qu own' ∨ p' = p) (T : TabOk p i j qu own) : TabOk p' i j qu (own' ++ own) := by
  rcases h with h | rfl
  · exact h.mono fun x hx => List.mem_append_left _ hx
  · exact T.mono fun x hx => List.mem_append_right _ hx
noncomputable def DivJ (n : Nat) (b : Int) (D : List Int) (rest : List (Addr × Obj)) (l' : Nat) (m₀ : Str → Option Value) (ds : List Value) (m : Str → Option Value) (news : List (Addr × Obj)) : Prop :=
  ∃ (ns qs : List Int) (vq : List Value) (e : Nat) (r : Int) (t : Tok) (x1 x2 : Option Value), IntsAre ds ns ∧ IntsAre vq qs ∧ LDiv n b D ns qs r ∧
    m = (fun y => if y = Str.ofString "r" then some (.int r t) else if y = Str.ofString "q_digit" then x1 else if y = Str.ofString "a_digit" then x2 else m₀ y) ∧ news = (l', listO vq e) :: rest
set_option maxHeartbeats 4000000 in
theorem c_divmod_pos (p1 p2 : Array Value) (own : List (Addr × Obj)) (a b : Int) (t1 t2 : Tok) (ha : 0 ≤ a) (hb : 0 < b) (k : Nat) (hk0 : (1 ≤ k ∧ 0 < a) ∨ (k = 0 ∧ a = 0)) (hk2 : k ≤ 500) (hak : ((Builtin.Int.intBits a : Int) + (Builtin.Int.intBits b : Int) - 1).fdiv (Builtin.Int.intBits b : Int) = k) (hax : a < 2 ^ (Builtin.Int.intBits b * k)) (hnb1 : 1 ≤ Builtin.Int.intBits b) (hnb2 : Builtin.Int.intBits b ≤ 3000) (hown : ∀ p ∈ own, p.1 ≠ 30) (hown2 : ∀ p ∈ own, p.1 ≠ 37) (T1 : TabOk p1 32 4 qual1 own) (T2 : TabOk p2 47 4 qual2 own) :
    Claim w mean mg mb 49 ((30, tabObj p1) :: (37, tabObj p2) :: own) (k + 2) [.int a t1, .int b t2]
    (fun v news' => ∃ (r : Nat) (u1 u2 : Tok) (p1' p2' : Array Value) (own' : List (Addr × Obj)), v = .ref r ∧ news' = (r, tup2 (.int (a.fdiv b) u1) (.int (a.fmod b) u2)) :: (30, tabObj p1') :: (37, tabObj p2') :: (own' ++ own) ∧ (TabOk p1' 32 4 qual1 own' ∨ p1' = p1) ∧ (TabOk p2' 47 4 qual2 own' ∨ p2' = p2) ∧ (∀ p ∈ own', p.1 ≠ 30 ∧ p.1 ≠ 37 ∧ ∀ x ∈ own, x.1 < p.1) ∧ 30 < r ∧ 37 < r ∧ (∀ p ∈ own' ++ own, p.1 < r)) := by
  intros dp un gd cn cs a' ccd cl outer A₀ base h₀ L m s Q E B F X N T hk hd hu hret
  have hax := Hid.mk hax
  refine wpAny_call ?_
  k_dflt cell_enter
  k_steps
  refine stop_out (use_claim rfl (c_int2digits p1 p2 own (Builtin.Int.intBits b) hnb1 (by omega) a t1 _ ha k hk0 (by omega) hak hax.out hown hown2 T1) (by assumption) (by assumption) (by assumption) (by assumption) (by assumption) rfl ?_ ?_ ?_)
  · show dp + 1 + (k + 1) < _; omega
  · show un + 3 + 8 * (k + 1) < _; omega
  rintro v h2 tk2 news2 F2 N2 ⟨l, vs, p1', own', rfl, rfl, I, T1', hn', hlt, hst, hl30, hl37⟩
  generalize hO2 : own' ++ own = own2 at N2
  k_steps
  rename_i hB l1 hC ll1 tkD D hD FD ND lD
  refine iter_revUnr (lo := listO vs 0) (vs := vs) (n := 0) rfl (by assumption) (by assumption) ?_ (.tail _ (.head _)) rfl rfl ?_
  · exact offI_of (lt_cons lD.1 (lt_cons lD.2.1 (lt_cons lD.2.2.1 (lt_cons lD.2.2.2.1 (alt_mem lD.2.2.2.2)))))
  have hDb := dig_bounds (Builtin.Int.intBits b) k a
  refine rev_inv (DivJ (Builtin.Int.intBits b) b (dig (Builtin.Int.intBits b) k a) ((l, listO vs 0) :: (30, tabObj p1') :: (37, tabObj p2) :: own2) l1) ?_ ?_ ?_
  · exact ⟨_, [], [], 0, 0, _, _, _, I.reverse, .nil, LDiv.start hb _, map3 _ _ _ _, rfl⟩
  · rintro m5 news5 h5 tk5 ⟨ns, qs, vq, e, r, t, x1, x2, I1, I2, LD, rfl, rfl⟩ F5 N5
    cases I1
    have hvq : vq.length ≤ 500 := by
      have h1 := LD.len
      rw [dig_length] at h1
      have h2 := I2.length
      omega
    have LS := Hid.mk (LD.done hb)
    k_steps
    refine kl_reverse (its := vq.toArray) (n := e) (l := vq.reverse) (by assumption) (by assumption) rfl (by k_upd) (Nat.le_trans (m := 100000) (by rw [List.toList_toArray]; omega) (by decide)) ?_
    intro h7 F7 N7
    have hn1 : l1 ≠ 30 := neN (a := l1) (b := 30) (by omega)
    have hn2 : l1 ≠ 37 := neN (a := l1) (b := 37) (by omega)
    have hlen : qs.reverse.length = k := by rw [LS.out.2.1, dig_length]
    have hown3 : ∀ p ∈ own2, p.1 ≠ 37 := by
      intro p hp
      rw [← hO2] at hp
      rcases List.mem_append.mp hp with hp | hp
      · exact (hn' p hp).2.1
      · exact hown2 p hp
    k_steps
    refine stop_out (use_claim rfl (c_digits2int p1' p2 ((l, listO vs 0) :: own2) (Builtin.Int.intBits b) hnb1 (by omega) l1 e vq.reverse qs.reverse _ I2.reverse (by omega) LS.out.1 ?_ hn1 hn2 (T2.mono ?_)) (by assumption) (by assumption) (by assumption) (cb_drop N7 ?_) (by assumption) rfl ?_ ?_ ?_)
    · intro p hp
      rcases List.mem_cons.mp hp with rfl | hp
      · exact neN (a := l) (b := 37) (by omega)
      · exact hown3 p hp
    · intro p hp; rw [← hO2]; exact .tail _ (List.mem_append_right _ hp)
    · intro p hp
      rcases List.mem_cons.mp hp with rfl | hp
      · k_mem
      rcases List.mem_cons.mp hp with rfl | hp
      · k_mem
      rcases List.mem_cons.mp hp with rfl | hp
      · k_mem
      rcases List.mem_cons.mp hp with rfl | hp
      · k_mem
      · exact .tail _ (.tail _ (.tail _ (.tail _ hp)))
    · show dp + 1 + (qs.reverse.length + 1) < _; omega
    · show un + 3 + 8 * (qs.reverse.length + 1) < _; omega
    rintro v8 h8 tk8 news8 F8 N8 ⟨t8, p2', own8, rfl, rfl, T2', hn8, hst8⟩
    k_steps
    rename_i D9 h9 F9 N9 l9 kF kN kT kX
    have hval : val (Builtin.Int.intBits b) (dig (Builtin.Int.intBits b) k a) = a := val_dig _ k a ha hax.out
    have e1 := LS.out.2.2.1
    have e2 := LS.out.2.2.2
    rw [hval] at e1 e2
    rw [e1, e2] at kN
    have eo : own8 ++ (l, listO vs 0) :: own2 = (own8 ++ (l, listO vs 0) :: own') ++ own := by rw [← hO2]; simp
    refine hret _ _ _ ((D9, tup2 (.int (a.fdiv b) t8) (.int (a.fmod b) t)) :: (30, tabObj p1') :: (37, tabObj p2') :: ((own8 ++ (l, listO vs 0) :: own') ++ own)) kF (cb_drop kN ?_) ⟨D9, t8, t, p1', p2', own8 ++ (l, listO vs 0) :: own', rfl, rfl, T1'.imp (fun h => h.mono fun x hx => List.mem_append_right _ (.tail _ hx)) id, T2'.imp (fun h => h.mono fun x hx => List.mem_append_left _ hx) id, ?_, l9.2.1, l9.2.2.1, eo ▸ alt_mem l9.2.2.2⟩
    · rw [← eo]
      intro p hp
      rcases List.mem_cons.mp hp with rfl | hp
      · k_mem
      rcases List.mem_cons.mp hp with rfl | hp
      · k_mem
      rcases List.mem_cons.mp hp with rfl | hp
      · k_mem
      · exact .tail _ (.tail _ (.tail _ (.tail _ hp)))
    · intro p hp
      rcases List.mem_append.mp hp with hp | hp
      · exact ⟨(hn8 p hp).1, (hn8 p hp).2.1, fun x hx => (hn8 p hp).2.2.2 x (.tail _ (hO2 ▸ List.mem_append_right _ hx))⟩
      rcases List.mem_cons.mp hp with rfl | hp
      · exact ⟨neN (a := l) (b := 30) (by omega), neN (a := l) (b := 37) (by omega), hlt⟩
      · exact ⟨(hn' p hp).1, (hn' p hp).2.1, (hn' p hp).2.2.2⟩
  · rintro v5 r5 m5 news5 it5 h5 tk5 ⟨ns, qs, vq, e, r, t, x1, x2, I1, I2, LD, rfl, rfl⟩ hc F5 N5
    cases I1 with
    | cons d td I1 =>
    have hvq : vq.length ≤ 500 := by
      have h1 := LD.len
      rw [dig_length] at h1
      have h2 := I2.length
      omega
    have LS := LD.step hb hDb
    have TF := turn_facts hb hnb2 LS.1 LS.2.1 LS.2.2.1 LS.2.2.2.1
    have hsh : Hid (0 ≤ (Builtin.Int.intBits b : Int)) := ⟨by omega⟩
    have hsh2 : Hid ((Builtin.Int.intBits r : Int) + (Builtin.Int.intBits b : Int) ≤ 2 ^ 27) := ⟨TF.1⟩
    have LS := Hid.mk LS
    have TF := Hid.mk TF
    k_steps
    refine stop_out (use_claim rfl (c_div2n1n _ _ b _ _ _ _ (by omega) TF.out.2.1 TF.out.2.2) (by assumption) (by assumption) (by assumption) (by assumption) (by assumption) rfl ?_ ?_ ?_)
    · show dp + 1 + 1 < _; omega
    · show un + 3 + 8 * 1 < _; omega
    rintro v6 h6 tk6 news6 F6 N6 ⟨R6, u6, u7, rfl, rfl, hR6⟩
    k_lt hR6
    k_steps
    refine UnrEnd.intro (by assumption) (by assumption) ((l1, listO (vq ++ [.int ((r * 2 ^ ((Builtin.Int.intBits b : Nat) : Int).toNat + d).fdiv b) u6]) (e + 1)) :: (l, listO vs 0) :: (30, tabObj p1') :: (37, tabObj p2) :: own2) ?_ ?_ ⟨.tail _ (.head _), _, qs ++ [(r * 2 ^ ((Builtin.Int.intBits b : Nat) : Int).toNat + d).fdiv b], vq ++ [.int ((r * 2 ^ ((Builtin.Int.intBits b : Nat) : Int).toNat + d).fdiv b) u6], e + 1, (r * 2 ^ ((Builtin.Int.intBits b : Nat) : Int).toNat + d).fmod b, u7, _, _, I1, IntsAre.append I2 (.cons _ _ .nil), LS.out.2.2.2.2, map3_put, rfl⟩
    · intro p hp
      rcases List.mem_cons.mp hp with rfl | hp
      · k_mem
      rcases List.mem_cons.mp hp with rfl | hp
      · simp only [listO, W.listOf, ← List.push_toArray]; k_mem
      · exact .tail _ (.tail _ (.tail _ hp))
    · intro p hp
      rcases List.mem_cons.mp hp with rfl | hp
      · exact Nat.ne_of_lt lD.1
      · exact Nat.ne_of_lt (lt_cons lD.2.1 (lt_cons lD.2.2.1 (lt_cons lD.2.2.2.1 (alt_mem lD.2.2.2.2))) p hp)
theorem rst3 : True := by first | walk1 | trivial
section
variable {w : World} {mean : ExcName → Option Value} {mg mb : Str → Option Value}
theorem dm_news {h₀ hp : Heap} {L : Addr} {D : Addr} {x y x' y' : Int} {u1 u2 : Tok} {pr : Addr × Obj} {rest : List (Addr × Obj)} (N : News h₀ L hp ((D, tup2 (.int x u1) (.int y u2)) :: pr :: rest)) (hx : x = x') (hy : y = y') : News h₀ L hp ((D, tup2 (.int x' u1) (.int y' u2)) :: rest) := by
  subst hx hy
  exact cb_drop N fun p hp => by
    rcases List.mem_cons.mp hp with rfl | hp
    · exact .head _
    · exact .tail _ (.tail _ hp)
noncomputable abbrev DmPost (p1 p2 : Array Value) (own : List (Addr × Obj)) (a b : Int) (v : Value) (news' : List (Addr × Obj)) : Prop :=
  ∃ (r : Nat) (u1 u2 : Tok) (p1' p2' : Array Value) (own' : List (Addr × Obj)), v = .ref r ∧ news' = (r, tup2 (.int (a.fdiv b) u1) (.int (a.fmod b) u2)) :: (30, tabObj p1') :: (37, tabObj p2') :: (own' ++ own) ∧ (TabOk p1' 32 4 qual1 own' ∨ p1' = p1) ∧ (TabOk p2' 47 4 qual2 own' ∨ p2' = p2) ∧ (∀ p ∈ own', p.1 ≠ 30 ∧ p.1 ≠ 37 ∧ ∀ x ∈ own, x.1 < p.1) ∧ 30 < r ∧ 37 < r ∧ (∀ p ∈ own' ++ own, p.1 < r)
set_option maxHeartbeats 4000000 in
theorem c_dm1 (p1 p2 : Array Value) (own : List (Addr × Obj)) (a b : Int) (t1 t2 : Tok) (ha : 0 ≤ a) (hb : 0 < b) (hab : Builtin.Int.intBits a ≤ 300) (hbb : Builtin.Int.intBits b ≤ 300) (hown : ∀ p ∈ own, p.1 ≠ 30) (hown2 : ∀ p ∈ own, p.1 ≠ 37) (T1 : TabOk p1 32 4 qual1 own) (T2 : TabOk p2 47 4 qual2 own) :
    Claim w mean mg mb 56 ((30, tabObj p1) :: (37, tabObj p2) :: own) 303 [.int a t1, .int b t2] (DmPost p1 p2 own a b) := by
  intros dp un gd cn cs a' ccd cl outer A₀ base h₀ L m s Q E B F X N T hk hd hu hret
  have hb1 := bits_pos hb
  have CF := count_facts (n := Builtin.Int.intBits b) ha hb1
  refine wpAny_call ?_
  k_dflt cell_enter
  k_steps
  all_goals try (exfalso; clear hret; omega)
  refine stop_out (use_claim rfl (c_divmod_pos p1 p2 own a b _ _ ha hb _ CF.1 (by omega) CF.2.1 CF.2.2.1 hb1 (by omega) hown hown2 T1 T2) (by assumption) (by assumption) (by assumption) (by assumption) (by assumption) rfl ?_ ?_ ?_)
  · show dp + 1 + _ < _; omega
  · show un + 3 + 8 * _ < _; omega
  rintro v8 h8 tk8 news8 F8 N8 ⟨r8, u1, u2, p1', p2', own8, rfl, rfl, H8⟩
  k_steps
  exact hret _ _ _ _ (by assumption) (by assumption) ⟨r8, u1, u2, p1', p2', own8, rfl, rfl, H8⟩

set_option maxHeartbeats 4000000 in
theorem c_dm2 (p1 p2 : Array Value) (own : List (Addr × Obj)) (a b : Int) (t1 t2 : Tok) (ha : a < 0) (hb : 0 < b) (hab : Builtin.Int.intBits (-a - 1) ≤ 300) (hbb : Builtin.Int.intBits b ≤ 300) (hown : ∀ p ∈ own, p.1 ≠ 30) (hown2 : ∀ p ∈ own, p.1 ≠ 37) (T1 : TabOk p1 32 4 qual1 own) (T2 : TabOk p2 47 4 qual2 own) :
    Claim w mean mg mb 56 ((30, tabObj p1) :: (37, tabObj p2) :: own) 304 [.int a t1, .int b t2] (DmPost p1 p2 own a b) := by
  intros dp un gd cn cs a' ccd cl outer A₀ base h₀ L m s Q E B F X N T hk hd hu hret
  refine wpAny_call ?_
  k_dflt cell_enter
  k_steps
  all_goals try (exfalso; clear hret; omega)
  refine stop_out (use_claim rfl (c_dm1 p1 p2 own (Builtin.bitNot a) b _ _ (by rw [bitNot_eq]; omega) hb hab hbb hown hown2 T1 T2) (by assumption) (by assumption) (by assumption) (by assumption) (by assumption) rfl ?_ ?_ ?_)
  · show dp + 1 + _ < _; omega
  · show un + 3 + 8 * _ < _; omega
  rintro v8 h8 tk8 news8 F8 N8 ⟨r8, u1, u2, p1', p2', own8, rfl, rfl, H1, H2, H3, H4, H5, H6⟩
  k_steps
  rename_i D9 h9 F9 N9 l9 kF kN kT kX
  exact hret _ _ _ _ kF (dm_news kN (not_div (a := a) hb).1 (not_div (a := a) hb).2) ⟨D9, _, _, p1', p2', own8, rfl, rfl, H1, H2, H3, l9.2.1, l9.2.2.1, alt_mem l9.2.2.2⟩
theorem c_dm12 (p1 p2 : Array Value) (own : List (Addr × Obj)) (a b : Int) (t1 t2 : Tok) (hb : 0 < b) (hab : a.natAbs < 2 ^ 300) (hbb : Builtin.Int.intBits b ≤ 300) (hown : ∀ p ∈ own, p.1 ≠ 30) (hown2 : ∀ p ∈ own, p.1 ≠ 37) (T1 : TabOk p1 32 4 qual1 own) (T2 : TabOk p2 47 4 qual2 own) :
    Claim w mean mg mb 56 ((30, tabObj p1) :: (37, tabObj p2) :: own) 304 [.int a t1, .int b t2] (DmPost p1 p2 own a b) := by
  by_cases ha : 0 ≤ a
  · intros dp un gd cn cs a' ccd cl outer A₀ base h₀ L m s Q E B F X N T hk hd hu hret
    exact c_dm1 p1 p2 own a b t1 t2 ha hb (log2_lt_of ha (by have : ((2 ^ 300 : Nat) : Int) = 2 ^ 300 := by norm_cast
                                                             omega)) hbb hown hown2 T1 T2 dp un gd cn cs a' ccd cl outer A₀ base h₀ L m s Q E B F X N T hk (by omega) (by omega) hret
  · exact c_dm2 p1 p2 own a b t1 t2 (by omega) hb (log2_lt_of (by omega) (by have : ((2 ^ 300 : Nat) : Int) = 2 ^ 300 := by norm_cast
                                                                             omega)) hbb hown hown2 T1 T2
set_option maxHeartbeats 4000000 in
theorem c_dm3 (p1 p2 : Array Value) (own : List (Addr × Obj)) (a b : Int) (t1 t2 : Tok) (hb : b < 0) (hab : a.natAbs < 2 ^ 300) (hbb : Builtin.Int.intBits (-b) ≤ 300) (hown : ∀ p ∈ own, p.1 ≠ 30) (hown2 : ∀ p ∈ own, p.1 ≠ 37) (T1 : TabOk p1 32 4 qual1 own) (T2 : TabOk p2 47 4 qual2 own) :
    Claim w mean mg mb 56 ((30, tabObj p1) :: (37, tabObj p2) :: own) 305 [.int a t1, .int b t2] (DmPost p1 p2 own a b) := by
  intros dp un gd cn cs a' ccd cl outer A₀ base h₀ L m s Q E B F X N T hk hd hu hret
  refine wpAny_call ?_
  k_dflt cell_enter
  k_steps
  all_goals try (exfalso; clear hret; omega)
  refine stop_out (use_claim rfl (c_dm12 p1 p2 own (-a) (-b) _ _ (by omega) (by omega) hbb hown hown2 T1 T2) (by assumption) (by assumption) (by assumption) (by assumption) (by assumption) rfl ?_ ?_ ?_)
  · show dp + 1 + _ < _; omega
  · show un + 3 + 8 * _ < _; omega
  rintro v8 h8 tk8 news8 F8 N8 ⟨r8, u1, u2, p1', p2', own8, rfl, rfl, H1, H2, H3, H4, H5, H6⟩
  k_steps
  rename_i D9 h9 F9 N9 l9 kF kN kT kX
  exact hret _ _ _ _ kF (dm_news kN neg_div.1 neg_div.2) ⟨D9, _, _, p1', p2', own8, rfl, rfl, H1, H2, H3, l9.2.1, l9.2.2.1, alt_mem l9.2.2.2⟩
theorem c_divmod (p1 p2 : Array Value) (own : List (Addr × Obj)) (a b : Int) (t1 t2 : Tok) (hb : b ≠ 0) (hab : a.natAbs < 2 ^ 300) (hbb : b.natAbs < 2 ^ 300) (hown : ∀ p ∈ own, p.1 ≠ 30) (hown2 : ∀ p ∈ own, p.1 ≠ 37) (T1 : TabOk p1 32 4 qual1 own) (T2 : TabOk p2 47 4 qual2 own) :
    Claim w mean mg mb 56 ((30, tabObj p1) :: (37, tabObj p2) :: own) 305 [.int a t1, .int b t2] (DmPost p1 p2 own a b) := by
  have e : ((2 ^ 300 : Nat) : Int) = 2 ^ 300 := by norm_cast
  by_cases h : 0 < b
  · intros dp un gd cn cs a' ccd cl outer A₀ base h₀ L m s Q E B F X N T hk hd hu hret
    exact c_dm12 p1 p2 own a b t1 t2 h hab (log2_lt_of (by omega) (by omega)) hown hown2 T1 T2 dp un gd cn cs a' ccd cl outer A₀ base h₀ L m s Q E B F X N T hk (by omega) (by omega) hret
  · exact c_dm3 p1 p2 own a b t1 t2 (by omega) hab (log2_lt_of (by omega) (by omega)) hown hown2 T1 T2
end
section
variable {w : World} {mean : ExcName → Option Value} {mg mb : Str → Option Value}
noncomputable def setEs (o : Obj) : List (Int × Value) := match o.data with | .set es _ _ => es.toList | _ => []
/-- what in_table_b1 answers at a code point -/
noncomputable def b1 (P : Params) (c : Int) : Bool := (setEs (o64 P)).any fun e => e.2.isInt c
noncomputable def elemOk (e : Int × Value) : Bool := (match e.2 with | .int k _ => decide (e.1 = hashInt k) | _ => false) && e.2.scannable
theorem elems_of {prog : Program} {w : World} {es : List (Int × Value)} (h : es.all elemOk = true) : ElemsOf (intKind prog w) es := by
  intro e he
  have := List.all_eq_true.mp h e he
  unfold elemOk at this
  obtain ⟨h1, h2⟩ := Bool.and_eq_true_iff.mp this
  refine ⟨?_, h2⟩
  rcases e with ⟨x, v⟩
  cases v with
  | int k t => exact ⟨k, intKind_is _ _ _ _, of_decide_eq_true h1⟩
  | _ => cases h1
theorem b1_set {h₀ h : Heap} {L : Addr} {m : Str → Option Value} (X : (K w.params).In h₀) (F : Fr h₀ L h m) : h.SetOf (intKind PR w) 64 (b1 w.params) 27 := by
  refine ⟨o64 w.params, _, _, _, F.keep _ _ (X 64 _ (by kernel_rfl)), ⟨rfl, rfl, rfl⟩, rfl, elems_of (by kernel_rfl), fun k => ?_, by decide, rfl, rfl⟩
  exact List.any_eq_true
local macro_rules | `(tactic| walk_at "compareOp In int ref") => `(tactic| (refine wpAny_inSet_of (intKind_is _ _ _ _) ?y1 (b1_set (by assumption) (by assumption)) ?_; (case y1 => rfl)))
set_option maxHeartbeats 4000000 in
theorem c_b1 (news : List (Addr × Obj)) (c : Nat) (t1 : Tok) : Claim w mean mg mb 74 news 1 [.str ⟨#[c]⟩ t1] (fun v news' => v = .bool (b1 w.params c) ∧ news' = news) := by
  intros dp un gd cn cs a' ccd cl outer A₀ base h₀ L m s Q E B F X N T hk hd hu hret
  refine wpAny_call ?_
  k_dflt cell_enter
  k_steps
  exact hret _ _ _ _ (by assumption) (by assumption) ⟨rfl, rfl⟩

noncomputable def dictEs (o : Obj) : Array DictEntry := match o.data with | .dict es _ => es | _ => #[]
noncomputable def intKeyOk (e : DictEntry) : Bool := match e.key with | .int k _ => decide (e.hash = hashInt k) | _ => false
theorem keys_of_int {prog : Program} {w : World} {es : Array DictEntry} (h : es.toList.all intKeyOk = true) : KeysOf (intKind prog w) es := by
  intro e he
  have := List.all_eq_true.mp h e (Array.mem_toList_iff.mpr he)
  unfold intKeyOk at this
  rcases e with ⟨x, v, y⟩
  cases v with
  | int k t => exact ⟨k, intKind_is _ _ _ _, of_decide_eq_true this⟩
  | _ => cases this
noncomputable def b3 (P : Params) (c : Int) : Option Value := findBy Value.isInt (dictEs (o75 P)) c
theorem b3_map {h₀ h : Heap} {L : Addr} {m : Str → Option Value} (X : (K w.params).In h₀) (F : Fr h₀ L h m) : h.MapOf (intKind PR w) 75 (b3 w.params) :=
  ⟨o75 w.params, _, _, F.keep _ _ (X 75 _ (by kernel_rfl)), ⟨rfl, rfl, rfl⟩, rfl, keys_of_int (by kernel_rfl), fun _ => rfl⟩
local macro_rules | `(tactic| walk_at "getMethod ref") => `(tactic| ((with_reducible show wpAny _ _ (getMethod (Value.ref _) (PySem.Str.ofString "get") _) _ _ _); refine getMethod_builtin (Heap.MapOf.typeIs (b3_map (by assumption) (by assumption))) PySem.F.plainAttrs_dict PySem.F.slot_dict_get PySem.F.type_dict_get (Heap.MapOf.noDict (b3_map (by assumption) (by assumption))) ?_))
theorem b3_get {A : Around} {E : Value → Shared → Prop} {s : Shared} {h₀ : Heap} {L : Addr} {m : Str → Option Value} {c : Int} {t : Tok} {Q : Value → Shared → Prop} (X : (K w.params).In h₀) (F : Fr h₀ L s.heap m) {v : Value} (hv : (b3 w.params c).getD .none = v) (h : Q v { s with toks := s.toks + 1 }) :
    wpAny (model PR w) A (call (.builtin "dict.get") [.ref 75, .int c t]) Q E s :=
  call_meetsIn PySem.F.slot_dict_get (b3_map X F).typeIs PySem.F.entry_dict_get (PySem.F.args_dict_get_2 _ _) (meets_dict_get (intKind PR w) 75 (intKind_is _ _ _ _) rfl) ⟨_, b3_map X F, hv ▸ h⟩
local macro_rules | `(tactic| walk_at "call builtin:dict.get") => `(tactic| refine b3_get (by assumption) (by assumption) (by assumption) ?_)
theorem low_one {A : Around} {E : Value → Shared → Prop} {s : Shared} {x : Str} {t : Tok} {Q : Value → Shared → Prop} (hx : x.length ≤ 5592405) (hl : Txt.lower x = x) (h : ∀ t' k, Q (.str x t') { s with toks := k }) : wpAny (model PR w) A (call (.builtin "str.lower") [.str x t]) Q E s :=
  SCL.lower hx fun _ => by rw [hl]; exact h _ _
local macro_rules | `(tactic| walk_at "call builtin:str.lower") => `(tactic| (refine low_one ?y1 (by assumption) ?_; (case y1 => exact (by decide : 1 ≤ 5592405)); intro t' tk'))
set_option maxHeartbeats 4000000 in
theorem c_b3 (news : List (Addr × Obj)) (c : Nat) (t1 : Tok) (hb : (b3 w.params c).getD .none = .none) (hl : Txt.lower ⟨#[c]⟩ = ⟨#[c]⟩) : Claim w mean mg mb 120 news 1 [.str ⟨#[c]⟩ t1] (fun v news' => ∃ t, v = .str ⟨#[c]⟩ t ∧ news' = news) := by
  intros dp un gd cn cs a' ccd cl outer A₀ base h₀ L m s Q E B F X N T hk hd hu hret
  refine wpAny_call ?_
  k_dflt cell_enter
  k_steps
  exact hret _ _ _ _ (by assumption) (by assumption) ⟨_, rfl, rfl⟩

set_option maxHeartbeats 4000000 in
theorem c_b3s (news : List (Addr × Obj)) (c : Nat) (t1 t2 : Tok) (x : Str) (hb : (b3 w.params c).getD .none = .str x t2) : Claim w mean mg mb 120 news 1 [.str ⟨#[c]⟩ t1] (fun v news' => ∃ t, v = .str x t ∧ news' = news) := by
  intros dp un gd cn cs a' ccd cl outer A₀ base h₀ L m s Q E B F X N T hk hd hu hret
  refine wpAny_call ?_
  k_dflt cell_enter
  k_steps
  exact hret _ _ _ _ (by assumption) (by assumption) ⟨_, rfl, rfl⟩
end
theorem rst4 : True := by first | walk1 | trivial
section
variable {w : World} {mean : ExcName → Option Value} {mg mb : Str → Option Value}
theorem keys_of_str {prog : Program} {w : World} {es : Array DictEntry} (h : ∀ e ∈ es.toList, ∃ s t, e.key = .str s t ∧ e.hash = hashStr w s) : KeysOf (strKind prog w) es := by
  intro e he
  obtain ⟨s, t, h1, h2⟩ := h e (Array.mem_toList_iff.mpr he)
  exact ⟨s, by rw [h1]; exact strKind_is _ _ _ _, h2⟩
/-- the table EXACT_TOKEN_TYPES -/
noncomputable def ex (P : Params) (s : Str) : Option Value := findBy Value.isStrOf (dictEs (o121 P)) s
set_option maxRecDepth 100000 in
theorem ex_keys : ∀ e ∈ (dictEs (o121 w.params)).toList, ∃ s t, e.key = .str s t ∧ e.hash = hashStr w s := by
  repeat (refine List.forall_mem_cons.mpr ⟨⟨_, _, rfl, rfl⟩, ?_⟩)
  exact List.forall_mem_nil _
theorem ex_map {h₀ h : Heap} {L : Addr} {m : Str → Option Value} (X : (K w.params).In h₀) (F : Fr h₀ L h m) : h.MapOf (strKind PR w) 121 (ex w.params) :=
  ⟨o121 w.params, _, _, F.keep _ _ (X 121 _ (by kernel_rfl)), ⟨rfl, rfl, rfl⟩, rfl, keys_of_str ex_keys, fun _ => rfl⟩
set_option maxHeartbeats 4000000 in
theorem c_iseof (news : List (Addr × Obj)) (x : Int) (t1 : Tok) : Claim w mean mg mb 130 news 1 [.int x t1] (fun v news' => v = .bool (decide (x = 0)) ∧ news' = news) := by
  intros dp un gd cn cs a' ccd cl outer A₀ base h₀ L m s Q E B F X N T hk hd hu hret
  refine wpAny_call ?_
  k_dflt cell_enter
  k_steps
  exact hret _ _ _ _ (by assumption) (by assumption) ⟨rfl, rfl⟩
end
section
variable {w : World} {mean : ExcName → Option Value} {mg mb : Str → Option Value}
theorem range_inv {prog : Program} {w : World} {A : Around} {E : Value → Shared → Prop} {s : Shared} {env : Env} {h₀ : Heap} {x : Str} {body : List Stmt} {Q : Flow → Shared → Prop} {I : Addr} {a : Int} {n : Nat} {m₀ : Str → Option Value} {news₀ : List (Addr × Obj)}
    (J : (Str → Option Value) → Nat → (Str → Option Value) → List (Addr × Obj) → Prop) (hs : J m₀ 0 m₀ news₀)
    (he : ∀ m news h tk, J m₀ n m news → Fr h₀ env.locals h m → News h₀ env.locals h news → Q .next { s with heap := h, toks := tk })
    (ht : ∀ (i : Nat) m news t h tk, i < n → J m₀ i m news → Fr h₀ env.locals h (fun y => if y = x then some (.int (a + (i : Int)) t) else m y) → News h₀ env.locals h ((I, itR (a + ((i + 1 : Nat) : Int)) ((n : Int) - ((i + 1 : Nat) : Int))) :: news) →
      wpAny (model prog w) A (execs body env) (UnrPost h₀ env.locals { s with heap := h, toks := tk } I (itR (a + ((i + 1 : Nat) : Int)) ((n : Int) - ((i + 1 : Nat) : Int))) (fun m' n' => J m₀ (i + 1) m' n') Q) E { s with heap := h, toks := tk }) :
    RangeRest prog w A E h₀ env x body Q s I a n n 0 m₀ news₀ := by
  suffices H : ∀ k i m news, i + k = n → J m₀ i m news → RangeRest prog w A E h₀ env x body Q s I a n k i m news from H n 0 _ _ (Nat.zero_add n) hs
  intro k
  induction k with
  | zero => intro i m news hi hJ; obtain rfl : i = n := hi; exact fun h tk F N => he m news h tk hJ F N
  | succ k ih =>
    intro i m news hi hJ t h tk F N
    refine wpAny_mono (ht i m news t h tk (by omega) hJ F N) (fun f s₂ p => ?_) fun _ _ e => e
    cases f with
    | ret v => exact p
    | brk => exact p
    | next => obtain ⟨h', tk', m', n', e, F', N', o, j⟩ := p; exact ⟨h', tk', m', n', e, F', N', o, ih _ _ _ (by omega) j⟩
    | cont => obtain ⟨h', tk', m', n', e, F', N', o, j⟩ := p; exact ⟨h', tk', m', n', e, F', N', o, ih _ _ _ (by omega) j⟩
theorem isList_up {g h : Heap} {L l : Addr} {m : Str → Option Value} {vs : Array Value} (hl : g.IsList l vs) (F : Fr g L h m) : h.IsList l vs := hl.at fun o e => F.keep _ _ e
theorem map1 (m : Str → Option Value) (a : Str) : m = fun y => if y = a then m a else m y := by
  funext y
  by_cases h1 : y = a
  · rw [if_pos h1, h1]
  rw [if_neg h1]
theorem map1_put {a : Str} {va o1 : Option Value} {m : Str → Option Value} : (fun y => if y = a then va else (fun y => if y = a then o1 else m y) y) = fun y => if y = a then va else m y := by
  funext y
  by_cases h1 : y = a
  · rw [if_pos h1, if_pos h1]
  rw [if_neg h1, if_neg h1]
  simp only [if_neg h1]
theorem ne_swap {I a : Addr} {o o' : Obj} {l : List (Addr × Obj)} (h : ∀ p ∈ (a, o) :: l, p.1 < I) : ∀ p ∈ (a, o') :: l, p.1 ≠ I := fun p hp => by
  rcases List.mem_cons.mp hp with rfl | hp
  · exact Nat.ne_of_lt (h (a, o) (.head _))
  · exact Nat.ne_of_lt (h p (.tail _ hp))
theorem list_inv {prog : Program} {w : World} {A : Around} {E : Value → Shared → Prop} {s : Shared} {env : Env} {h₀ : Heap} {x : Str} {body : List Stmt} {Q : Flow → Shared → Prop} {I : Addr} {lp : Addr × Obj} {ds : List Value} {m₀ : Str → Option Value} {news₀ : List (Addr × Obj)}
    (J : (Str → Option Value) → List Value → (Str → Option Value) → List (Addr × Obj) → Prop) (hs : J m₀ ds m₀ news₀)
    (he : ∀ m news h tk, J m₀ [] m news → Fr h₀ env.locals h m → News h₀ env.locals h news → Q .next { s with heap := h, toks := tk })
    (ht : ∀ v r m news (it : Obj) h tk, J m₀ (v :: r) m news → it.cls = .type "list_iterator" → Fr h₀ env.locals h (fun y => if y = x then some v else m y) → News h₀ env.locals h ((I, it) :: news) →
      wpAny (model prog w) A (execs body env) (UnrPost h₀ env.locals { s with heap := h, toks := tk } I it (fun m' n' => lp ∈ n' ∧ J m₀ r m' n') Q) E { s with heap := h, toks := tk }) :
    ListRest prog w A E h₀ env x body Q s I lp ds m₀ news₀ := by
  suffices H : ∀ ds m news, J m₀ ds m news → ListRest prog w A E h₀ env x body Q s I lp ds m news from H _ _ _ hs
  intro ds
  induction ds with
  | nil => intro m news hJ; exact fun h tk F N => he m news h tk hJ F N
  | cons v r ih =>
    intro m news hJ it h tk hc F N
    refine wpAny_mono (ht v r m news it h tk hJ hc F N) (fun f s₂ p => ?_) fun _ _ e => e
    cases f with
    | ret v => exact p
    | brk => exact p
    | next => obtain ⟨h', tk', m', n', e, F', N', o, l, j⟩ := p; exact ⟨h', tk', m', n', e, F', N', o, l, ih _ _ j⟩
    | cont => obtain ⟨h', tk', m', n', e, F', N', o, l, j⟩ := p; exact ⟨h', tk', m', n', e, F', N', o, l, ih _ _ j⟩
theorem str_inv {prog : Program} {w : World} {A : Around} {E : Value → Shared → Prop} {s : Shared} {env : Env} {h₀ : Heap} {x : Str} {body : List Stmt} {Q : Flow → Shared → Prop} {I : Addr} {ds : List Str} {m₀ : Str → Option Value} {news₀ : List (Addr × Obj)}
    (J : (Str → Option Value) → List Str → (Str → Option Value) → List (Addr × Obj) → Prop) (hs : J m₀ ds m₀ news₀)
    (he : ∀ m news h tk, J m₀ [] m news → Fr h₀ env.locals h m → News h₀ env.locals h news → Q .next { s with heap := h, toks := tk })
    (ht : ∀ c r m news (u : Tok) (it : Obj) h tk, J m₀ (c :: r) m news → Fr h₀ env.locals h (fun y => if y = x then some (.str c u) else m y) → News h₀ env.locals h ((I, it) :: news) →
      wpAny (model prog w) A (execs body env) (UnrPost h₀ env.locals { s with heap := h, toks := tk } I it (fun m' n' => J m₀ r m' n') Q) E { s with heap := h, toks := tk }) :
    StrRest prog w A E h₀ env x body Q s I ds m₀ news₀ := by
  suffices H : ∀ ds m news, J m₀ ds m news → StrRest prog w A E h₀ env x body Q s I ds m news from H _ _ _ hs
  intro ds
  induction ds with
  | nil => intro m news hJ; exact fun h tk F N => he m news h tk hJ F N
  | cons c r ih =>
    intro m news hJ u it h tk F N
    refine wpAny_mono (ht c r m news u it h tk hJ F N) (fun f s₂ p => ?_) fun _ _ e => e
    cases f with
    | ret v => exact p
    | brk => exact p
    | next => obtain ⟨h', tk', m', n', e, F', N', o, j⟩ := p; exact ⟨h', tk', m', n', e, F', N', o, ih _ _ j⟩
    | cont => obtain ⟨h', tk', m', n', e, F', N', o, j⟩ := p; exact ⟨h', tk', m', n', e, F', N', o, ih _ _ j⟩
/-- a while turn's end: the measure less, the word kept -/
noncomputable def WhEnd (h₀ : Heap) (L : Addr) (s : Shared) (k : Nat) (J : Nat → (Str → Option Value) → List (Addr × Obj) → Prop) (Q : Flow → Shared → Prop) (f : Flow) (s₃ : Shared) : Prop :=
  match f with
  | .ret v => Q (.ret v) s₃
  | .brk => Q .next s₃
  | _ => ∃ k' h' tk' m' news', k' < k ∧ s₃ = { s with heap := h', toks := tk' } ∧ Fr h₀ L h' m' ∧ News h₀ L h' news' ∧ J k' m' news'
theorem WhEnd.intro {h₀ : Heap} {L : Addr} {s : Shared} {k : Nat} {J : Nat → (Str → Option Value) → List (Addr × Obj) → Prop} {Q : Flow → Shared → Prop} {h' : Heap} {tk' : Nat} {m' : Str → Option Value} {news' : List (Addr × Obj)} (k' : Nat) (hk : k' < k) (F : Fr h₀ L h' m') (N : News h₀ L h' news') (j : J k' m' news') :
    WhEnd h₀ L s k J Q .next { s with heap := h', toks := tk' } := ⟨k', h', tk', m', news', hk, rfl, F, N, j⟩
theorem whl_inv {prog : Program} {w : World} {A : Around} {E : Value → Shared → Prop} {s : Shared} {env : Env} {test : PySem.Expr} {body orelse : List Stmt} {Q : Flow → Shared → Prop} {pos : Pos} {h₀ : Heap} {m₀ : Str → Option Value} {news₀ : List (Addr × Obj)}
    (J : (Str → Option Value) → Nat → (Str → Option Value) → List (Addr × Obj) → Prop) (k : Nat) (hE : PassesOwn (model prog w) A env E) (F : Fr h₀ env.locals s.heap m₀) (N : News h₀ env.locals s.heap news₀) (hs : J m₀ k m₀ news₀)
    (ht : ∀ k m news h tk, J m₀ k m news → Fr h₀ env.locals h m → News h₀ env.locals h news →
      wpAny (model prog w) A (isTrue test env (eval test env)) (fun b s₂ => if b = true then wpAny (model prog w) A (execs body env) (WhEnd h₀ env.locals s k (J m₀) Q) E s₂ else wpAny (model prog w) A (execs orelse env) Q E s₂) E { s with heap := h, toks := tk }) :
    wpAny (model prog w) A (exec (.While test body orelse pos) env) Q E s := by
  refine whl_start k ?_
  suffices H : ∀ k m news h tk, J m₀ k m news → Fr h₀ env.locals h m → News h₀ env.locals h news → ∀ k₁, WhlRest prog w A E env test body orelse Q k₁ { s with heap := h, toks := tk } from H k m₀ news₀ s.heap s.toks hs F N k
  intro k
  induction k using Nat.strongRecOn with
  | ind k ih =>
    intro m news h tk hJ F N k₁
    refine whl_turn (k := k₁) hE (wpAny_mono (ht k m news h tk hJ F N) (fun b s₂ p => ?_) fun _ _ e => e)
    cases b with
    | false => exact WhlIf.no rfl (by rw [if_neg Bool.false_ne_true] at p; exact p)
    | true =>
      rw [if_pos rfl] at p
      refine WhlIf.yes rfl (wpAny_mono p (fun f s₃ p₃ => ?_) fun _ _ e => e)
      cases f with
      | ret v => exact p₃
      | brk => exact p₃
      | next => obtain ⟨k', h', tk', m', news', hk, rfl, F', N', j⟩ := p₃; exact ih k' hk m' news' h' tk' j F' N' k₁
      | cont => obtain ⟨k', h', tk', m', news', hk, rfl, F', N', j⟩ := p₃; exact ih k' hk m' news' h' tk' j F' N' k₁
theorem map_ext3 {A B C : Str} {f g : Str → Option Value} (h1 : f A = g A) (h2 : f B = g B) (h3 : f C = g C) (h : ∀ y, y ≠ A → y ≠ B → y ≠ C → f y = g y) : f = g := by
  funext y
  by_cases e1 : y = A
  · rw [e1]; exact h1
  by_cases e2 : y = B
  · rw [e2]; exact h2
  by_cases e3 : y = C
  · rw [e3]; exact h3
  exact h y e1 e2 e3
open LCg LCt in
theorem comp_inv {prog : Program} {w : World} {A : Around} {s : Shared} {h₀ : Heap} {L : Addr} {m : Str → Option Value} {env : Env} {elt : PySem.Expr} {x : Str} {scope : Scope} {cl : List (Str × Addr)} {S : List (Addr × Obj) → Prop} {P : Nat → Value → Prop} {Fin : List Value → List (Addr × Obj) → Prop} {n : Nat} {news₀ : List (Addr × Obj)}
    (J : Nat → List Value → List (Addr × Obj) → Prop) (hs : J 0 [] news₀) (hf : ∀ ys news, J n ys news → Fin ys news)
    (ht : ∀ i ys news v I oI C oC D m₂ h tk (E' : Value → Shared → Prop), i < n → J i ys news → P i v → NsObj oC m₂ → m₂ x = some v → Fr h₀ L h m → News h₀ L h ((I, oI) :: (C, oC) :: (D, lst ys) :: news) → Off3 I C D news → ((@Ne Nat I C) ∧ (@Ne Nat I D) ∧ (@Ne Nat C D)) →
      wpAny (model prog w) A (eval elt (compEnvC scope cl C env)) (CompEnd h₀ L m { s with heap := h, toks := tk } I oI C oC D (lst ys) S (fun y news' => J (i + 1) (ys ++ [y]) news')) E' { s with heap := h, toks := tk }) :
    CompRest prog w A h₀ L m env elt x scope cl s S P Fin n 0 [] news₀ := by
  suffices H : ∀ k i ys news, i + k = n → J i ys news → CompRest prog w A h₀ L m env elt x scope cl s S P Fin k i ys news from H n 0 _ _ (Nat.zero_add n) hs
  intro k
  induction k with
  | zero => intro i ys news hi hJ; obtain rfl : i = n := hi; exact hf _ _ hJ
  | succ k ih =>
    intro i ys news hi hJ v I oI C oC D m₂ h tk E' h1 h2 h3 h4 h5 h6 h7
    refine wpAny_mono (ht i ys news v I oI C oC D m₂ h tk E' (by omega) hJ h1 h2 h3 h4 h5 h6 h7) (fun y s₂ p => ?_) fun _ _ e => e
    obtain ⟨h', tk', n', e, F', N', o, l, j⟩ := p
    exact ⟨h', tk', n', e, F', N', o, l, ih _ _ _ (by omega) j⟩
open LCg LCt in
theorem comp_invT {prog : Program} {w : World} {A : Around} {s : Shared} {h₀ : Heap} {L : Addr} {m : Str → Option Value} {env : Env} {ct elt : PySem.Expr} {x : Str} {scope : Scope} {cl : List (Str × Addr)} {S : List (Addr × Obj) → Prop} {P : Nat → Value → Prop} {Fin : List Value → List (Addr × Obj) → Prop} {n : Nat} {news₀ : List (Addr × Obj)}
    (J : Nat → List Value → List (Addr × Obj) → Prop) (hs : J 0 [] news₀) (hf : ∀ ys news, J n ys news → Fin ys news)
    (ht : ∀ i ys news v I oI C oC D m₂ h tk (E' : Value → Shared → Prop), i < n → J i ys news → P i v → NsObj oC m₂ → m₂ x = some v → Fr h₀ L h m → News h₀ L h ((I, oI) :: (C, oC) :: (D, lst ys) :: news) → Off3 I C D news → ((@Ne Nat I C) ∧ (@Ne Nat I D) ∧ (@Ne Nat C D)) →
      wpAny (model prog w) A (isTrue ct (compEnvC scope cl C env) (eval ct (compEnvC scope cl C env))) (fun ok s' => if ok = true then
        wpAny (model prog w) A (eval elt (compEnvC scope cl C env)) (CompEnd h₀ L m { s with heap := h, toks := tk } I oI C oC D (lst ys) S (fun y news' => J (i + 1) (ys ++ [y]) news')) E' s'
        else CompEnd h₀ L m { s with heap := h, toks := tk } I oI C oC D (lst ys) S (fun _ news' => J (i + 1) ys news') Value.none s') E' { s with heap := h, toks := tk }) :
    CompRestT prog w A h₀ L m env ct elt x scope cl s S P Fin n 0 [] news₀ := by
  suffices H : ∀ k i ys news, i + k = n → J i ys news → CompRestT prog w A h₀ L m env ct elt x scope cl s S P Fin k i ys news from H n 0 _ _ (Nat.zero_add n) hs
  intro k
  induction k with
  | zero => intro i ys news hi hJ; obtain rfl : i = n := hi; exact hf _ _ hJ
  | succ k ih =>
    intro i ys news hi hJ v I oI C oC D m₂ h tk E' h1 h2 h3 h4 h5 h6 h7
    refine wpAny_mono (ht i ys news v I oI C oC D m₂ h tk E' (by omega) hJ h1 h2 h3 h4 h5 h6 h7) (fun ok s₂ p => ?_) fun _ _ e => e
    cases ok with
    | true =>
      simp only [if_true] at p ⊢
      refine wpAny_mono p (fun y s₃ p => ?_) fun _ _ e => e
      obtain ⟨h', tk', n', e, F', N', o, l, j⟩ := p
      exact ⟨h', tk', n', e, F', N', o, l, ih _ _ _ (by omega) j⟩
    | false =>
      simp only [Bool.false_eq_true, if_false] at p ⊢
      obtain ⟨h', tk', n', e, F', N', o, l, j⟩ := p
      exact ⟨h', tk', n', e, F', N', o, l, ih _ _ _ (by omega) j⟩
end
section
variable {w : World} {mean : ExcName → Option Value} {mg mb : Str → Option Value}
local macro_rules | `(tactic| walk_at "call builtin:len") => `(tactic| (refine len_list (isList_up (by assumption) (by assumption)) ?y1 ?_; (case y1 => rw [List.size_toArray]; omega)))
local macro_rules | `(tactic| walk_at "pyIter ref") => `(tactic| refine stop_of ?_)
/-- a contract whose caller's base holds a list -/
noncomputable abbrev ClaimL (w : World) (mean : ExcName → Option Value) (mg mb : Str → Option Value) (sl : Addr) (sv : List Value) (f : Addr) (news : List (Addr × Obj)) (need : Nat) (vs : List Value) (Post : Value → List (Addr × Obj) → Prop) : Prop :=
  ∀ (dp un : Nat) (gd : Option (List Code)) (cn : Str) (cs : Scope) (a : Addr) (ccd : Value) (cl : List (Str × Addr)) (outer : List Env) (A₀ : Around) (base h₀ : Heap) (L : Addr) (m : Str → Option Value) (s : Shared) (Q E : Value → Shared → Prop),
    h₀.IsList sl sv.toArray → Below A₀ base outer h₀ → Fr h₀ L s.heap m → (K w.params).In h₀ → News h₀ L s.heap news → Top TP TL mean mg mb h₀ → cs.kind = .function → dp + need < recursionLimit → un + 8 * need < cLine →
    (∀ (v : Value) (h' : Heap) (tk' : Nat) (news' : List (Addr × Obj)), Fr h₀ L h' m → News h₀ L h' news' → Post v news' → Q v { s with heap := h', toks := tk' }) →
      wpAny (model PR w) (ktrTop dp un gd cn cs L a ccd cl outer) (call (.ref f) vs) Q E s
theorem getD_nonneg {nc : List Int} (h : ∀ x ∈ nc, 0 ≤ x) (i : Nat) : 0 ≤ nc.getD i 0 := by
  rw [List.getD_eq_getElem?_getD]
  cases e : nc[i]? with
  | none => exact Int.le_refl _
  | some v => exact h v (List.mem_of_getElem? e)
theorem set_nonneg {nc : List Int} (h : ∀ x ∈ nc, 0 ≤ x) (i : Nat) (v : Int) (hv : 0 ≤ v) : ∀ x ∈ nc.set i v, 0 ≤ x := by
  intro x hx
  rcases List.mem_or_eq_of_mem_set hx with hx | rfl
  · exact h x hx
  · exact hv
noncomputable def CellJ (n : Nat) (l : Nat) (news : List (Addr × Obj)) (m₀ : Str → Option Value) (_ : Nat) (m : Str → Option Value) (news' : List (Addr × Obj)) : Prop :=
  ∃ (vc : List Value) (nc : List Int) (e : Nat) (x1 : Option Value), IntsAre vc nc ∧ nc.length = n ∧ (∀ x ∈ nc, 0 ≤ x) ∧ m = (fun y => if y = Str.ofString "place" then x1 else m₀ y) ∧ news' = (l, listO vc e) :: news
set_option maxHeartbeats 4000000 in
theorem c_cells (sl : Nat) (sv : List Value) (ns : List Int) (hI : IntsAre sv ns) (hlen : ns.length ≤ 63) (news : List (Addr × Obj)) : ClaimL w mean mg mb sl sv 137 news 1 [.ref sl] (fun v news' => ∃ (l : Nat) (vc : List Value) (nc : List Int) (e : Nat), v = .ref l ∧ news' = (l, listO vc e) :: news ∧ IntsAre vc nc ∧ nc.length = 5 ∧ (∀ x ∈ nc, 0 ≤ x) ∧ ∀ p ∈ news, p.1 < l) := by
  intros dp un gd cn cs a' ccd cl outer A₀ base h₀ L m s Q E hL B F X N T hk hd hu hret
  refine wpAny_call ?_
  k_dflt cell_enter
  rename Fr h₀ L _ m => FG
  have hsv := hI.length
  have hL' := isList_up hL FG
  k_steps
  refine stop_out (iter_rangeUnr (n := sv.length) rfl (by assumption) ?_ ?_ (by assumption) (by assumption) ?_)
  · exact small_one (by omega) (by omega) (by omega) (by omega)
  · rw [rangeSize_nat]; omega
  intro I hI1
  have hI2 := hI1
  k_lt hI1
  refine range_inv (CellJ 5 _ news) ⟨_, [0, 0, 5, 3, 10], 0, _, .cons _ _ (.cons _ _ (.cons _ _ (.cons _ _ (.cons _ _ .nil)))), rfl, by decide, map1 _ _, rfl⟩ ?_ ?_
  · rintro m5 news5 h5 tk5 ⟨vc, nc, e, x1, I1, hn, h0, rfl, rfl⟩ F5 N5
    k_steps
    exact hret _ _ _ _ (by assumption) (by assumption) ⟨_, vc, nc, e, rfl, rfl, I1, hn, h0, by assumption⟩
  · rintro i m5 news5 t5 h5 tk5 hi ⟨vc, nc, e, x1, I1, hn, h0, rfl, rfl⟩ F5 N5
    have hm : 0 ≤ (0 + (i : Int)).fmod 5 ∧ (0 + (i : Int)).fmod 5 < 5 := ⟨Int.fmod_nonneg_of_pos _ (by decide), Int.fmod_lt_of_pos _ (by decide)⟩
    have hvc := I1.length
    have h0 := Hid.mk h0
    k_steps
    refine UnrEnd.intro (by assumption) (by assumption) ((_, listO (vc.set _ _) e) :: news) ?_ ?_ ⟨_, _, _, _, by assumption, ?_, ?_, map1_put, rfl⟩
    · exact fun p hp => hp
    · exact ne_swap hI2
    · rw [List.length_set]; exact hn
    · exact set_nonneg h0.out _ _ (Int.add_nonneg (getD_nonneg h0.out _) (Int.fmod_nonneg_of_pos _ (by decide)))
end
theorem rst5 : True := by first | walk1 | trivial
section
variable {w : World} {mean : ExcName → Option Value} {mg mb : Str → Option Value}
theorem ne_same {I : Nat} {l l' : List (Addr × Obj)} (h : ∀ p ∈ l, p.1 < I) (e : l'.map (·.1) = l.map (·.1)) : ∀ p ∈ l', p.1 ≠ I := by
  intro p hp
  have hp' : p.1 ∈ l'.map (·.1) := List.mem_map_of_mem hp
  rw [e] at hp'
  obtain ⟨q, hq, hq'⟩ := List.mem_map.mp hp'
  rw [← hq']
  exact Nat.ne_of_lt (h q hq)
theorem map2 (m : Str → Option Value) (a b : Str) : m = fun y => if y = a then m a else if y = b then m b else m y := by
  funext y
  by_cases h1 : y = a
  · rw [if_pos h1, h1]
  rw [if_neg h1]
  by_cases h2 : y = b
  · rw [if_pos h2, h2]
  rw [if_neg h2]
theorem map_ext2 {A B : Str} {f g : Str → Option Value} (h1 : f A = g A) (h2 : f B = g B) (h : ∀ y, y ≠ A → y ≠ B → f y = g y) : f = g := by
  funext y
  by_cases e1 : y = A
  · rw [e1]; exact h1
  by_cases e2 : y = B
  · rw [e2]; exact h2
  exact h y e1 e2
theorem getD_bounds {ns : List Int} {b : Int} (hb : 0 < b) (h : ∀ x ∈ ns, 0 ≤ x ∧ x < b) (i : Nat) : 0 ≤ ns.getD i 0 ∧ ns.getD i 0 < b := by
  rw [List.getD_eq_getElem?_getD]
  cases e : ns[i]? with
  | none => exact ⟨Int.le_refl _, hb⟩
  | some v => exact h v (List.mem_of_getElem? e)
theorem range_snoc {α : Type} (f : α → Nat → α) (s : α) (n : Nat) : (List.range (n + 1)).foldl f s = f ((List.range n).foldl f s) n := by
  rw [List.range_succ, List.foldl_append]; rfl
theorem strs_get : ∀ {vs : List Value} {xs : List Str} (_ : StrsAre vs xs) (i : Nat) (_ : i < xs.length), ∃ t, vs[i]? = some (.str (xs.getD i ⟨#[]⟩) t)
  | _, _, .nil, i, h => absurd h (Nat.not_lt_zero i)
  | _, _, .cons y t r, 0, _ => ⟨t, rfl⟩
  | _, _, .cons y t r, i + 1, h => strs_get r i (Nat.lt_of_succ_lt_succ h)
theorem strs_item {A : Around} {E : Value → Shared → Prop} {s : Shared} {h₀ : Heap} {L : Addr} {news : List (Addr × Obj)} {l : Addr} {vs : List Value} {xs : List Str} {e : Nat} {k : Int} {u : Tok} {Q : Value → Shared → Prop} {value slice : PySem.Expr} (N : News h₀ L s.heap news) (hm : (l, listO vs e) ∈ news) (S : StrsAre vs xs) (h0 : 0 ≤ k) (h1 : k < xs.length) (h2 : xs.length ≤ 100000) (h : ∀ t, Q (.str (xs.getD k.toNat ⟨#[]⟩) t) s)
    (hs : subscripted slice false (.ref l) (.int k u) = operate [.ref l, .int k u] (getItem (.ref l) (.int k u))) : wpAny (model PR w) A (subscriptTail value slice (.ref l) (.int k u)) Q E s := by
  obtain ⟨t, ht⟩ := strs_get S k.toNat (by omega)
  have hl := News.isList N hm
  exact tail_any hl.typeIs PySem.F.slot_list_getitem.lookup (wpAny_getItem_list hl h0 (by omega) (by simpa using ht) (h t)) hs
theorem ints_get : ∀ {vs : List Value} {ns : List Int} (_ : IntsAre vs ns) (i : Nat) (v : Value), vs[i]? = some v → ∃ t, v = .int (ns.getD i 0) t ∧ i < ns.length
  | _, _, .nil, i, v, h => by cases h
  | _, _, .cons n t _, 0, v, h => ⟨t, by simpa using h.symm, by simp⟩
  | _, _, .cons n t r, i + 1, v, h => by
    obtain ⟨t', h1, h2⟩ := ints_get r i v (by simpa using h)
    exact ⟨t', by simpa using h1, by simp; omega⟩
theorem take_snoc {α : Type} {d : α} : ∀ (l : List α) (i : Nat), i < l.length → l.take (i + 1) = l.take i ++ [l.getD i d]
  | [], i, h => absurd h (Nat.not_lt_zero i)
  | a :: l, 0, _ => by simp
  | a :: l, i + 1, h => by
    rw [List.take_succ_cons, List.take_succ_cons, take_snoc l i (Nat.lt_of_succ_lt_succ h)]; rfl
theorem ints_item {A : Around} {E : Value → Shared → Prop} {s : Shared} {h₀ : Heap} {L : Addr} {news : List (Addr × Obj)} {l : Addr} {vs : List Value} {xs : List Int} {e : Nat} {k : Int} {u : Tok} {Q : Value → Shared → Prop} {value slice : PySem.Expr} (N : News h₀ L s.heap news) (hm : (l, listO vs e) ∈ news) (S : IntsAre vs xs) (h0 : 0 ≤ k) (h1 : k < xs.length) (h2 : xs.length ≤ 100000) (h : ∀ t, Q (.int (xs.getD k.toNat 0) t) s)
    (hs : subscripted slice false (.ref l) (.int k u) = operate [.ref l, .int k u] (getItem (.ref l) (.int k u))) : wpAny (model PR w) A (subscriptTail value slice (.ref l) (.int k u)) Q E s := by
  have hl := News.isList N hm
  have hv := S.length
  have hk : k.toNat < vs.length := by omega
  obtain ⟨t, ht, _⟩ := ints_get S k.toNat vs[k.toNat] (List.getElem?_eq_getElem hk)
  exact tail_any hl.typeIs PySem.F.slot_list_getitem.lookup (wpAny_getItem_list hl h0 (by omega) (x := .int (xs.getD k.toNat 0) t) (by rw [← ht]; simpa using hk) (h t)) hs
local macro_rules | `(tactic| walk_at "exec While Compare cons nil") => `(tactic| refine stop_of ?_)
noncomputable def ComW2 (news : List (Addr × Obj)) (g : Int) (m₀ : Str → Option Value) (k : Nat) (m : Str → Option Value) (news' : List (Addr × Obj)) : Prop :=
  ∃ (u l : Int) (t t' : Tok), 0 ≤ u ∧ 0 ≤ l ∧ l.toNat = k ∧ (Int.gcd u l : Int) = g ∧
    m = (fun y => if y = Str.ofString "upper" then some (.int u t) else if y = Str.ofString "lower" then some (.int l t') else m₀ y) ∧ news' = news
set_option maxHeartbeats 1000000 in
theorem c_common2 (u l : Int) (tu tl : Tok) (hu0 : 0 ≤ u) (hl0 : 0 ≤ l) (news : List (Addr × Obj)) : Claim w mean mg mb 170 news 1 [.int u tu, .int l tl] (fun v news' => ∃ t, v = .int (Int.gcd u l) t ∧ news' = news) := by
  intros dp un gd cn cs a' ccd cl outer A₀ base h₀ L m s Q E B F X N T hk hd hu hret
  refine wpAny_call ?_
  k_dflt cell_enter
  k_steps
  refine stop_out (whl_inv (ComW2 news (Int.gcd u l)) l.toNat (by with_unfolding_all passes_own) (by assumption) (by assumption) ⟨u, l, tu, tl, hu0, hl0, rfl, rfl, ?_, rfl⟩ ?_)
  · exact map_ext2 (A := Str.ofString "upper") (B := Str.ofString "lower") rfl rfl fun y h1 h2 => by simp only [if_neg h1, if_neg h2]
  · rintro k6 m6 news6 h6 tk6 ⟨u6, l6, t6, t6', h1, h2, h3, h4, rfl, rfl⟩ F6 N6
    k_steps
    · have hl : 0 < l6 := by omega
      refine WhEnd.intro (u6.fmod l6).toNat ?_ (by assumption) (cb_drop (by assumption) fun p hp => .tail _ hp) ⟨l6, u6.fmod l6, _, _, h2, Int.fmod_nonneg_of_pos _ hl, rfl, (gcd_step hl).trans h4, (map_ext2 (A := Str.ofString "upper") (B := Str.ofString "lower") rfl rfl fun y h1 h2 => by simp only [if_neg h1, if_neg h2]), rfl⟩
      · have := Int.fmod_lt_of_pos u6 hl
        have := Int.fmod_nonneg_of_pos u6 hl
        omega
    · obtain rfl : l6 = 0 := by omega
      rw [gcd_end h1] at h4
      exact hret _ _ _ _ (by assumption) (by assumption) ⟨t6, congrArg (fun z => Value.int z t6) h4, rfl⟩
end
theorem rst6 : True := by first | walk1 | trivial
section
variable {w : World} {mean : ExcName → Option Value} {mg mb : Str → Option Value}
theorem mul_right {a b : Int} (h0 : 0 ≤ b) (h1 : b < 2 ^ 64) : IntMulOk a b := by
  have e : ((2 ^ 64 : Nat) : Int) = 2 ^ 64 := by norm_cast
  exact IntMulOk.of_right (log2_lt_of h0 (by omega))
local macro_rules | `(tactic| k_mem) => `(tactic| first | exact List.mem_cons_self | assumption | (refine List.mem_cons_of_mem _ ?_; k_mem))
local macro_rules | `(tactic| walk_at "pyIter ref") => `(tactic| refine stop_of ?_)
local macro_rules | `(tactic| walk_at "binaryOp Mult int int") => `(tactic| (refine PyProof.Rows.mul_int ?_ (mul_right (by assumption) (by assumption)); (try dsimp only)))
local macro_rules | `(tactic| walk_at "subscriptTail") => `(tactic| ((with_reducible show wpAny _ _ (subscriptTail _ _ (Value.ref _) (Value.int _ _)) _ _ _); refine ints_item (by k_asm) (by k_dflt k_mem) (IntsAre.cons _ _ (IntsAre.cons _ _ (IntsAre.cons _ _ IntsAre.nil))) (by decide) (by first | exact (by decide : (0 : Int) < 3) | exact (by decide : (1 : Int) < 3)) (by exact (by decide : 3 ≤ 100000)) ?_ ?hs; (case hs => with_unfolding_all rfl); intro t'; (try dsimp only)))
/-- what is told: the one before and the newest -/
noncomputable def told (a b : Int) : Nat → Int × Int
  | 0 => (0, 1)
  | n + 1 => ((told a b n).2, (told a b n).2 * a + (told a b n).1 * b)
noncomputable def ToldJ (a b : Int) (news : List (Addr × Obj)) (m₀ : Str → Option Value) (i : Nat) (m : Str → Option Value) (news' : List (Addr × Obj)) : Prop :=
  ∃ (t1 t2 : Tok) (x1 : Option Value), m = (fun y => if y = Str.ofString "older" then some (.int (told a b i).1 t1) else if y = Str.ofString "newer" then some (.int (told a b i).2 t2) else if y = Str.ofString "place" then x1 else m₀ y) ∧ news' = news
set_option maxHeartbeats 1000000 in
theorem c_told (wl : Nat) (e : Nat) (a b c : Int) (ta tb tc : Tok) (ha0 : 0 ≤ a) (ha : a < 2 ^ 64) (hb0 : 0 ≤ b) (hb : b < 2 ^ 64) (n : Nat) (hn1 : 1 ≤ n) (hn : n ≤ 100) (tn : Tok) (news : List (Addr × Obj)) (hm : (wl, listO [.int a ta, .int b tb, .int c tc] e) ∈ news) :
    Claim w mean mg mb 156 news 1 [.int (n : Int) tn, .ref wl] (fun v news' => ∃ t, v = .int (told a b (n - 1)).2 t ∧ news' = news) := by
  intros dp un gd cn cs a' ccd cl outer A₀ base h₀ L m s Q E B F X N T hk hd hu hret
  refine wpAny_call ?_
  k_dflt cell_enter
  k_steps
  rename Fr _ _ _ _ => F4
  rename News _ _ _ _ => N4
  refine stop_out (iter_rangeUnr (n := n - 1) rfl (by assumption) ?_ ?_ F4 N4 ?_)
  · exact small_one (by omega) (by omega) (by omega) (by omega)
  · rw [rangeSize_nat]; omega
  intro I hI1
  refine range_inv (ToldJ a b _) ⟨_, _, _, map3 _ (Str.ofString "older") (Str.ofString "newer") (Str.ofString "place"), rfl⟩ ?_ ?_
  · rintro m5 news5 h5 tk5 ⟨t1, t2, x1, rfl, rfl⟩ F5 N5
    k_steps
    exact hret _ _ _ _ (by assumption) (cb_drop (by assumption) fun p hp => .tail _ hp) ⟨_, rfl, rfl⟩
  · rintro i m5 news5 t5 h5 tk5 hi ⟨t1, t2, x1, rfl, rfl⟩ F5 N5
    k_steps
    rename Fr _ _ _ _ => F6
    rename News _ _ _ _ => N6
    refine UnrEnd.intro F6 N6 _ (fun p hp => .tail _ hp) (fun p hp => Nat.ne_of_lt (hI1 p hp)) ⟨_, _, _, (map_ext3 (A := Str.ofString "older") (B := Str.ofString "newer") (C := Str.ofString "place") rfl rfl rfl fun y h1 h2 h3 => by simp only [if_neg h1, if_neg h2, if_neg h3]), rfl⟩
end
theorem rst7 : True := by first | walk1 | trivial
section
variable {w : World} {mean : ExcName → Option Value} {mg mb : Str → Option Value}
local macro_rules | `(tactic| walk_at "pyIter ref") => `(tactic| refine stop_of ?_)
/-- the two tables and what was made meanwhile -/
noncomputable def Tabs (own : List (Addr × Obj)) (p1 p2 : Array Value) (own' : List (Addr × Obj)) : Prop :=
  TabOk p1 32 4 qual1 (own' ++ own) ∧ TabOk p2 47 4 qual2 (own' ++ own) ∧ (∀ p ∈ own', p.1 ≠ 30 ∧ p.1 ≠ 37 ∧ ∀ x ∈ own, x.1 < p.1)
/-- Euclid's run -/
noncomputable def eu (u l : Int) : Nat → Int × Int
  | 0 => (u, l)
  | n + 1 => if (eu u l n).2 = 0 then eu u l n else ((eu u l n).2, (eu u l n).1.fmod (eu u l n).2)
theorem fmod_abs {a b : Int} (hb : b ≠ 0) : (a.fmod b).natAbs < b.natAbs := by
  rcases Int.lt_or_gt_of_ne hb with h | h
  · have h1 : (-a).fmod (-b) = -(a.fmod b) := Int.neg_fmod_neg ..
    have h2 := Int.fmod_nonneg_of_pos (-a) (show 0 < -b by omega)
    have h3 := Int.fmod_lt_of_pos (-a) (show 0 < -b by omega)
    omega
  · have h2 := Int.fmod_nonneg_of_pos a h
    have h3 := Int.fmod_lt_of_pos a h
    omega
theorem eu_bound {u l : Int} {B : Nat} (hu : u.natAbs < B) (hl : l.natAbs < B) : ∀ n, (eu u l n).1.natAbs < B ∧ (eu u l n).2.natAbs < B
  | 0 => ⟨hu, hl⟩
  | n + 1 => by
    have ih := eu_bound hu hl n
    rw [eu]
    split
    · exact ih
    · rename_i h
      have := fmod_abs (a := (eu u l n).1) h
      exact ⟨ih.2, Nat.lt_trans this ih.2⟩
theorem m2_ne {I n : Addr} {it : Obj} {own own' : List (Addr × Obj)} (hI : n < I) (h : ∀ p ∈ own', p.1 ≠ n) (h' : ∀ p ∈ own, p.1 ≠ n) : ∀ p ∈ (I, it) :: (own' ++ own), p.1 ≠ n := by
  intro p hp
  rcases List.mem_cons.mp hp with rfl | hp
  · exact Nat.ne_of_gt hI
  rcases List.mem_append.mp hp with hp | hp
  · exact h p hp
  · exact h' p hp
theorem mea_off2 {I : Addr} {a b c d : Obj} {own own' : List (Addr × Obj)} (hI2 : ∀ p ∈ (30, a) :: (37, b) :: own, p.1 < I) (h : ∀ p ∈ own', p.1 ≠ I) : ∀ p ∈ (30, c) :: (37, d) :: (own' ++ own), p.1 ≠ I := by
  intro p hp
  rcases List.mem_cons.mp hp with rfl | hp
  · exact Nat.ne_of_lt (hI2 (30, a) (.head _))
  rcases List.mem_cons.mp hp with rfl | hp
  · exact Nat.ne_of_lt (hI2 (37, b) (.tail _ (.head _)))
  rcases List.mem_append.mp hp with hp | hp
  · exact h p hp
  · exact Nat.ne_of_lt (hI2 p (.tail _ (.tail _ hp)))
theorem m2_perm {x y z : Addr × Obj} {l : List (Addr × Obj)} : ∀ p ∈ y :: z :: x :: l, p ∈ x :: y :: z :: l := by
  intro p hp
  simp only [List.mem_cons] at hp ⊢
  rcases hp with h | h | h | h <;> simp [h]
theorem m2_sub {d r i a b : Addr × Obj} {own8 own6 own : List (Addr × Obj)} : ∀ p ∈ i :: a :: b :: ((own8 ++ own6) ++ own), p ∈ d :: r :: a :: b :: (own8 ++ i :: (own6 ++ own)) := by
  intro p hp
  simp only [List.mem_cons, List.mem_append] at hp ⊢
  rcases hp with h | h | h | (h | h) | h <;> simp [h]
noncomputable def MeaT2 (own : List (Addr × Obj)) (I : Addr) (u l : Int) (m₀ : Str → Option Value) (i : Nat) (m : Str → Option Value) (news' : List (Addr × Obj)) : Prop :=
  ∃ (t t' : Tok) (x3 : Option Value) (p1 p2 : Array Value) (own' : List (Addr × Obj)),
    m = (fun y => if y = Str.ofString "upper" then some (.int (eu u l i).1 t) else if y = Str.ofString "lower" then some (.int (eu u l i).2 t') else if y = Str.ofString "turn" then x3 else m₀ y) ∧ news' = (30, tabObj p1) :: (37, tabObj p2) :: (own' ++ own) ∧ Tabs own p1 p2 own' ∧ ∀ p ∈ own', p.1 ≠ I
set_option maxHeartbeats 1000000 in
theorem c_measure2 (u l : Int) (tu tl : Tok) (hu1 : u.natAbs < 2 ^ 300) (hl1 : l.natAbs < 2 ^ 300) (p1 p2 : Array Value) (own : List (Addr × Obj)) (hown : ∀ p ∈ own, p.1 ≠ 30) (hown2 : ∀ p ∈ own, p.1 ≠ 37) (T1 : TabOk p1 32 4 qual1 own) (T2 : TabOk p2 47 4 qual2 own) :
    Claim w mean mg mb 163 ((30, tabObj p1) :: (37, tabObj p2) :: own) 310 [.int u tu, .int l tl] (fun v news' => ∃ t p1' p2' own', v = .int (eu u l 200).1 t ∧ news' = (30, tabObj p1') :: (37, tabObj p2') :: (own' ++ own) ∧ Tabs own p1' p2' own') := by
  intros dp un gd cn cs a' ccd cl outer A₀ base h₀ L m s Q E B F X N T hk hd hu hret
  refine wpAny_call ?_
  k_dflt cell_enter
  k_steps
  rename Fr _ _ _ _ => F4
  rename News _ _ _ _ => N4
  have hbd := Hid.mk (eu_bound hu1 hl1)
  refine stop_out (iter_rangeUnr (n := 200) rfl (by assumption) (by decide) (by decide) F4 N4 ?_)
  intro I hI1
  refine range_inv (MeaT2 own I u l) ⟨tu, tl, _, p1, p2, [], map_ext3 (A := Str.ofString "upper") (B := Str.ofString "lower") (C := Str.ofString "turn") rfl rfl rfl (fun y h1 h2 h3 => by simp only [if_neg h1, if_neg h2, if_neg h3]), rfl, ⟨T1, T2, fun p hp => nomatch hp⟩, fun p hp => nomatch hp⟩ ?_ ?_
  · rintro m5 news5 h5 tk5 ⟨t, t', x3, q1, q2, own5, rfl, rfl, TB, hoff⟩ F5 N5
    k_steps
    exact hret _ _ _ _ (by assumption) (by assumption) ⟨t, q1, q2, own5, rfl, rfl, TB⟩
  · rintro i5 m5 news5 t5 h5 tk5 hi5 ⟨t, t', x3, q1, q2, own5, rfl, rfl, TB, hoff⟩ F5 N5
    have hb5 := hbd.out i5
    have heu : eu u l (i5 + 1) = if (eu u l i5).2 = 0 then eu u l i5 else ((eu u l i5).2, (eu u l i5).1.fmod (eu u l i5).2) := rfl
    generalize hU : (eu u l i5).1 = U at F5 hb5 heu
    generalize hV : (eu u l i5).2 = V at F5 hb5 heu
    obtain ⟨hbU, hbV⟩ := hb5
    have hbU := Hid.mk hbU
    have hbV := Hid.mk hbV
    k_steps
    rename Fr _ _ _ _ => F6
    rename News _ _ _ _ => N6
    refine stop_out (use_claim rfl (c_iseof _ V _) (by assumption) F6 (by assumption) N6 (by assumption) rfl ?_ ?_ ?_)
    · show dp + 1 + 1 < _; omega
    · show un + 3 + 8 * 1 < _; omega
    rintro v7 h7 tk7 news7 F7 N7 ⟨hv, rfl⟩
    by_cases hz : V = 0
    · rw [decide_eq_true hz] at hv
      subst hv
      rw [if_pos hz] at heu
      k_steps
      refine UnrEnd.intro F7 N7 _ (fun p hp => hp) (mea_off2 hI1 hoff) ⟨t, t', _, q1, q2, own5, (map_ext3 (A := Str.ofString "upper") (B := Str.ofString "lower") (C := Str.ofString "turn") (by rw [heu, hU]; rfl) (by rw [heu, hV]; rfl) rfl fun y h1 h2 h3 => by simp only [if_neg h1, if_neg h2, if_neg h3]), rfl, TB, hoff⟩
    · rw [decide_eq_false hz] at hv
      subst hv
      rw [if_neg hz] at heu
      k_steps
      have hI30 : 30 < I := hI1 (30, tabObj p1) (.head _)
      have hI37 : 37 < I := hI1 (37, tabObj p2) (.tail _ (.head _))
      refine stop_out (use_claim rfl (c_divmod q1 q2 ((I, _) :: (own5 ++ own)) U V t t' hz hbU.out hbV.out ?_ ?_ (TB.1.mono ?_) (TB.2.1.mono ?_)) (by assumption) F7 (by assumption) (cb_drop N7 m2_perm) (by assumption) rfl ?_ ?_ ?_)
      · exact m2_ne hI30 (fun p hp => (TB.2.2 p hp).1) hown
      · exact m2_ne hI37 (fun p hp => (TB.2.2 p hp).2.1) hown2
      · exact fun x hx => .tail _ hx
      · exact fun x hx => .tail _ hx
      · show dp + 1 + 305 < _; omega
      · show un + 3 + 8 * 305 < _; omega
      rintro v8 h8 tk8 news8 F8 N8 ⟨r8, s1, s2, o1, o2, own8, rfl, rfl, H1, H2, H3, H4, H5, H6⟩
      k_steps
      rename Fr _ _ _ _ => F9
      rename News _ _ _ _ => N9
      refine UnrEnd.intro F9 N9 ((30, tabObj o1) :: (37, tabObj o2) :: ((own8 ++ own5) ++ own)) m2_sub (mea_off2 hI1 ?_) ⟨t', s2, _, o1, o2, own8 ++ own5, (map_ext3 (A := Str.ofString "upper") (B := Str.ofString "lower") (C := Str.ofString "turn") (by rw [heu]; rfl) (by rw [heu]; rfl) rfl fun y h1 h2 h3 => by simp only [if_neg h1, if_neg h2, if_neg h3]), rfl, ⟨?_, ?_, ?_⟩, ?_⟩
      · intro p hp
        rcases List.mem_append.mp hp with hp | hp
        · exact Nat.ne_of_gt ((H3 p hp).2.2 _ (.head _))
        · exact hoff p hp
      · rw [List.append_assoc]; exact tab_up H1 TB.1
      · rw [List.append_assoc]; exact tab_up H2 TB.2.1
      · intro p hp
        rcases List.mem_append.mp hp with hp | hp
        · exact ⟨(H3 p hp).1, (H3 p hp).2.1, fun x hx => (H3 p hp).2.2 x (.tail _ (List.mem_append_right _ hx))⟩
        · exact TB.2.2 p hp
      · intro p hp
        rcases List.mem_append.mp hp with hp | hp
        · exact Nat.ne_of_gt ((H3 p hp).2.2 _ (.head _))
        · exact hoff p hp
end
theorem rst8 : True := by first | walk1 | trivial
section
variable {w : World} {mean : ExcName → Option Value} {mg mb : Str → Option Value}
theorem ints_last {A : Around} {E : Value → Shared → Prop} {s : Shared} {h₀ : Heap} {L : Addr} {news : List (Addr × Obj)} {l : Addr} {vs : List Value} {xs : List Int} {e : Nat} {k : Int} {u : Tok} {Q : Value → Shared → Prop} {value slice : PySem.Expr} (hk1 : k = -1) (N : News h₀ L s.heap news) (hm : (l, listO vs e) ∈ news) (S : IntsAre vs xs) (h1 : 1 ≤ xs.length) (h2 : xs.length ≤ 100000) (h : ∀ t, Q (.int (xs.getD (xs.length - 1) 0) t) s)
    (hs : subscripted slice false (.ref l) (.int k u) = operate [.ref l, .int k u] (getItem (.ref l) (.int k u))) : wpAny (model PR w) A (subscriptTail value slice (.ref l) (.int k u)) Q E s := by
  subst hk1
  have hl := News.isList N hm
  have hv := S.length
  obtain ⟨v, hv2⟩ : ∃ v, vs[xs.length - 1]? = some v := ⟨_, List.getElem?_eq_getElem (by omega)⟩
  obtain ⟨t, rfl, _⟩ := ints_get S (xs.length - 1) v hv2
  refine tail_any hl.typeIs PySem.F.slot_list_getitem.lookup (wpAny_getItem_list_neg hl (by decide) ?_ (by decide) (x := .int (xs.getD (xs.length - 1) 0) t) ?_ (h t)) hs
  · rw [List.size_toArray]; omega
  · rw [List.size_toArray, List.getElem?_toArray, show (-1 + (vs.length : Int)).toNat = xs.length - 1 by omega]; exact hv2
local macro_rules | `(tactic| k_mem) => `(tactic| first | exact List.mem_cons_self | assumption | (refine List.mem_cons_of_mem _ ?_; k_mem))
local macro_rules | `(tactic| walk_at "pyIter ref") => `(tactic| refine stop_of ?_)
local macro_rules | `(tactic| walk_at "compareOp In str ref") => `(tactic| refine stop_of ?_)
local macro_rules | `(tactic| walk_at "binaryOp Mult int int") => `(tactic| (refine PyProof.Rows.mul_int ?_ (by assumption); (try dsimp only)))
local macro_rules | `(tactic| walk_at "call builtin:len") => `(tactic| ((with_reducible show wpAny _ _ (call (Value.builtin "len") [Value.str _ _]) _ _ _); refine PySem.P.len_str (by omega) ?_))
local macro_rules | `(tactic| walk_at "subscriptTail") => `(tactic| ((with_reducible show wpAny _ _ (subscriptTail _ _ (Value.ref _) (Value.int _ _)) _ _ _); refine ints_item (by k_asm) (by k_dflt k_mem) (by assumption) ?y1 ?y2 ?y3 ?_ ?hs; (case hs => with_unfolding_all rfl); (case y1 => assumption); (case y2 => assumption); (case y3 => omega); intro t'))
local macro_rules | `(tactic| walk_at "subscriptTail") => `(tactic| ((with_reducible show wpAny _ _ (subscriptTail _ _ (Value.ref _) (Value.int (-_) _)) _ _ _); refine ints_last (by rfl) (by k_asm) (by k_dflt k_mem) (by assumption) ?y1 ?y3 ?_ ?hs; (case hs => with_unfolding_all rfl); (case y1 => assumption); (case y3 => assumption); intro t'))
/-- n times the same sign -/
noncomputable def repS (c n : Nat) : Str := ⟨(List.replicate n c).toArray⟩
noncomputable def LucL (a b : Int) (k : Nat) : List Int := (List.range k).map fun i => (told a b i).2
theorem slice_rep {c n i j : Nat} (h1 : j ≤ i) (h2 : i < n) : Txt.slice (repS c n) (some (1 + (i : Int) - (1 + (j : Int)))) (some (1 + (i : Int))) = repS c (j + 1) := by
  have hl : (repS c n).length = n := by simp [repS, Str.length]
  rw [eq_of_beq (slice_closesL (x := repS c n) (by omega) (by omega) (by rw [hl]; omega))]
  show (⟨((List.drop _ (List.replicate n c)).take _).toArray⟩ : Str) = ⟨(List.replicate (j + 1) c).toArray⟩
  rw [List.drop_replicate, List.take_replicate]
  congr 3
  omega
theorem mul_leftN {a b : Int} (h0 : 0 ≤ a) (h1 : a < 2 ^ 64) : IntMulOk a b := by
  have e : ((2 ^ 64 : Nat) : Int) = 2 ^ 64 := by norm_cast
  exact IntMulOk.of_left (log2_lt_of h0 (by omega))
theorem LucL_get {a b : Int} {n k : Nat} (h : k < n) : (LucL a b n).getD k 0 = (told a b k).2 := by
  unfold LucL
  rw [List.getD_eq_getElem?_getD, List.getElem?_map, List.getElem?_range h]; rfl
noncomputable def SumJ2 (a b : Int) (l : Nat) (R : List (Addr × Obj)) (m₀ : Str → Option Value) (i : Nat) (m : Str → Option Value) (news' : List (Addr × Obj)) : Prop :=
  ∃ (vc : List Value) (e : Nat) (x1 x2 x3 : Option Value), IntsAre vc (LucL a b (i + 1)) ∧ m = (fun y => if y = Str.ofString "end" then x1 else if y = Str.ofString "total" then x2 else if y = Str.ofString "size" then x3 else m₀ y) ∧ news' = (l, listO vc e) :: R
theorem rangeSize_one {n : Nat} : Builtin.Range.rangeSize 1 (1 + (n : Int)) 1 = (n : Int) := by
  unfold Builtin.Range.rangeSize
  rw [if_pos (by decide)]
  split <;> omega
/-- what the total is after j sizes, at the end i + 1 -/
noncomputable def tot (a b : Int) (i j : Nat) : Int := (if 1 ≤ j then a * (told a b i).2 else 0) + if 2 ≤ j then b * (told a b (i - 1)).2 else 0
theorem tot_step {a b z : Int} {i j : Nat} (h2 : j ≠ 2) (h3 : j < 3) (h4 : j ≤ i) : tot a b i j + ([a, b, z] : List Int).getD (1 + (j : Int) - 1).toNat 0 * (LucL a b (i + 1)).getD (1 + (i : Int) - (1 + (j : Int))).toNat 0 = tot a b i (j + 1) := by
  rcases (by omega : j = 0 ∨ j = 1) with rfl | rfl
  · rw [show (1 + (i : Int) - (1 + ((0 : Nat) : Int))).toNat = i by omega, LucL_get (by omega)]
    show 0 + 0 + a * (told a b i).2 = a * (told a b i).2 + 0
    omega
  · rw [show (1 + (i : Int) - (1 + ((1 : Nat) : Int))).toNat = i - 1 by omega, LucL_get (by omega)]
    show a * (told a b i).2 + 0 + b * (told a b (i - 1)).2 = a * (told a b i).2 + b * (told a b (i - 1)).2
    omega
theorem tot_end {a b : Int} {i : Nat} : tot a b i (min (i + 1) 3) = (told a b (i + 1)).2 := by
  cases i with
  | zero => show a * 1 + 0 = 1 * a + 0 * b; omega
  | succ i =>
    have h : ∀ j, 2 ≤ j → tot a b (i + 1) j = a * (told a b (i + 1)).2 + b * (told a b i).2 := fun j hj => by
      unfold tot; rw [if_pos (by omega), if_pos hj]; rfl
    rw [h _ (by omega)]
    show _ = (told a b (i + 1)).2 * a + (told a b (i + 1)).1 * b
    rw [Int.mul_comm a, Int.mul_comm b]; rfl
theorem LucL_snoc {a b : Int} {k : Nat} : LucL a b (k + 1) = LucL a b k ++ [(told a b k).2] := by
  unfold LucL; rw [List.range_succ, List.map_append]; rfl
theorem listOf_push2 {vp : List Value} {v : Value} {e : Nat} : W.listOf (vp.toArray.push v) e = listO (vp ++ [v]) e := by
  simp [listO, W.listOf]
noncomputable def SumK2 (a b : Int) (i : Nat) (P : Addr × Obj) (R : List (Addr × Obj)) (m₀ : Str → Option Value) (j : Nat) (m : Str → Option Value) (news' : List (Addr × Obj)) : Prop :=
  ∃ (t : Tok) (x : Option Value), m = (fun y => if y = Str.ofString "total" then some (.int (tot a b i j) t) else if y = Str.ofString "size" then x else m₀ y) ∧ news' = P :: R
set_option maxHeartbeats 400000 in
theorem c_sum2 (c n : Nat) (hn : n ≤ 100) (e1 : (ex w.params (repS c 1)).isSome = true) (e2 : (ex w.params (repS c 2)).isSome = true) (e3 : (ex w.params (repS c 3)).isSome = false)
    (wl : Nat) (e : Nat) (a b z : Int) (ta tb tz : Tok) (ha0 : 0 ≤ a) (ha : a < 2 ^ 64) (hb0 : 0 ≤ b) (hb : b < 2 ^ 64) (tn : Tok) (news : List (Addr × Obj)) (hm : (wl, listO [.int a ta, .int b tb, .int z tz] e) ∈ news) :
    Claim w mean mg mb 149 news 1 [.str (repS c n) tn, .ref wl] (fun v news' => ∃ t, v = .int (told a b n).2 t ∧ news' = news) := by
  intros dp un gd cn cs a' ccd cl outer A₀ base h₀ L m s Q E B F X N T hk hd hu hret
  have hlen : (repS c n).length = n := by simp [repS, Str.length]
  refine wpAny_call ?_
  k_dflt cell_enter
  k_steps
  rename Fr _ _ _ _ => F4
  rename News _ _ _ _ => N4
  rw [hlen] at *
  refine stop_out (iter_rangeUnr (n := n) rfl (by assumption) ?_ ?_ F4 N4 ?_)
  · exact small_one (by omega) (by omega) (by omega) (by omega)
  · rw [Int.add_comm]; exact rangeSize_one
  intro I hI1
  have hIo := hI1
  refine range_inv (SumJ2 a b _ news) ⟨_, 0, _, _, _, .cons _ _ .nil, map3 _ (Str.ofString "end") (Str.ofString "total") (Str.ofString "size"), rfl⟩ ?_ ?_
  · rintro m5 news5 h5 tk5 ⟨vc, e5, x1, x2, x3, I5, rfl, rfl⟩ F5 N5
    have hl5 : 1 ≤ (LucL a b (n + 1)).length := by simp [LucL]
    have hl6 : (LucL a b (n + 1)).length ≤ 100000 := by simp [LucL]; omega
    k_steps
    refine hret _ _ _ _ (by assumption) (cb_drop (by assumption) fun p hp => .tail _ hp) ⟨_, congrArg (fun z => Value.int z _) ?_, rfl⟩
    rw [show (LucL a b (n + 1)).length = n + 1 by simp [LucL], show (-1 + ((n + 1 : Nat) : Int)).toNat = n by omega]
    exact LucL_get (by omega)
  · rintro i m5 news5 t5 h5 tk5 hi ⟨vc, e5, x1, x2, x3, I5, rfl, rfl⟩ F5 N5
    k_steps
    rename Fr _ _ _ _ => F6
    rename News _ _ _ _ => N6
    have hmin : (if (3 : Int) < 1 + (i : Int) then (3 : Int) else 1 + (i : Int)) + 1 = 1 + ((min (i + 1) 3 : Nat) : Int) := by split <;> omega
    refine stop_out (iter_rangeUnr (n := min (i + 1) 3) rfl (by assumption) ?_ ?_ F6 N6 ?_)
    · rw [hmin]; exact small_one (by omega) (by omega) (by omega) (by omega)
    · rw [hmin]; exact rangeSize_one
    intro I2 hI2
    have hvl : vc.length = i + 1 := by rw [I5.length]; simp [LucL]
    have hls : (repS c n).length ≤ 1000 := by rw [show (repS c n).length = n by simp [repS, Str.length]]; omega
    refine range_inv (SumK2 a b i (I, _) ((_, listO vc e5) :: news)) ⟨_, _, map_ext2 (A := Str.ofString "total") (B := Str.ofString "size") rfl rfl (fun y h1 h2 => by simp only [if_neg h1, if_neg h2]), rfl⟩ ?_ ?_
    · rintro m7 news7 h7 tk7 ⟨t7, x7, rfl, rfl⟩ F7 N7
      have hlI := allLt_of hI1
      simp only [AllLt] at hlI
      have hl2 := hlI.2
      rename ∀ p ∈ news, p.1 < _ => l1
      have l2 := allLt_of l1
      have htt : tot a b i (min (i + 1) 3) = (told a b (i + 1)).2 := tot_end
      k_steps
      rename News _ _ _ _ => N8
      rw [listOf_push2] at N8
      refine UnrEnd.intro (by assumption) N8 _ (fun p hp => hp) (ne_same hIo rfl) ⟨_, _, _, _, _, ?_, map_ext3 (A := Str.ofString "end") (B := Str.ofString "total") (C := Str.ofString "size") rfl rfl rfl (fun y h1 h2 h3 => by simp only [if_neg h1, if_neg h2, if_neg h3]), rfl⟩
      rw [htt, LucL_snoc]
      exact IntsAre.append I5 (.cons _ _ .nil)
    · rintro j m7 news7 t7' h7 tk7 hj ⟨t7, x7, rfl, rfl⟩ F7 N7
      have hj3 : j < 3 ∧ j ≤ i := by omega
      have hslice : Txt.slice (repS c n) (some (1 + (i : Int) - (1 + (j : Int)))) (some (1 + (i : Int))) = repS c (j + 1) := slice_rep (by omega) (by omega)
      k_steps
      refine stop_out (wpAny_in_of (strKind_is _ _ _ _) rfl (ex_map (by assumption) (by assumption)) ?_)
      rw [hslice]
      dsimp only
      by_cases hj2 : j = 2
      · subst hj2
        rw [e3]
        k_steps
        exact UnrEnd.intro (by assumption) (by assumption) _ (fun p hp => hp) (fun p hp => Nat.ne_of_lt (hI2 p hp)) ⟨_, _, map_ext2 (A := Str.ofString "total") (B := Str.ofString "size") rfl rfl (fun y h1 h2 => by simp only [if_neg h1, if_neg h2]), rfl⟩
      · have he : (ex w.params (repS c (j + 1))).isSome = true := by
          rcases (by omega : j = 0 ∨ j = 1) with rfl | rfl
          · exact e1
          · exact e2
        rw [he]
        have IW : IntsAre [Value.int a ta, Value.int b tb, Value.int z tz] [a, b, z] := .cons _ _ (.cons _ _ (.cons _ _ .nil))
        have hw0 : 0 ≤ 1 + (j : Int) - 1 := by omega
        have hw1 : 1 + (j : Int) - 1 < (([a, b, z] : List Int).length : Int) := by show 1 + (j : Int) - 1 < 3; omega
        have hs0 : 0 ≤ 1 + (i : Int) - (1 + (j : Int)) := by omega
        have hs1 : 1 + (i : Int) - (1 + (j : Int)) < ((LucL a b (i + 1)).length : Int) := by rw [show (LucL a b (i + 1)).length = i + 1 by simp [LucL]]; omega
        have hmo : IntMulOk (([a, b, z] : List Int).getD (1 + (j : Int) - 1).toNat 0) ((LucL a b (i + 1)).getD (1 + (i : Int) - (1 + (j : Int))).toNat 0) := by
          rcases (by omega : j = 0 ∨ j = 1) with rfl | rfl
          · exact mul_leftN ha0 ha
          · exact mul_leftN hb0 hb
        k_steps
        exact UnrEnd.intro (by assumption) (by assumption) _ (fun p hp => hp) (fun p hp => Nat.ne_of_lt (hI2 p hp)) ⟨_, _, map_ext2 (A := Str.ofString "total") (B := Str.ofString "size") (congrArg (fun z => some (Value.int z _)) (tot_step hj2 hj3.1 hj3.2)) rfl (fun y h1 h2 => by simp only [if_neg h1, if_neg h2]), rfl⟩
end
theorem rst9 : True := by first | walk1 | trivial
section
variable {w : World} {mean : ExcName → Option Value} {mg mb : Str → Option Value}
open LCg LCt in
noncomputable def CompSrcTS (prog : Program) (w : World) (A : Around) (h₀ : Heap) (L : Addr) (m : Str → Option Value) (env : Env) (ct elt : PySem.Expr) (x : Str) (scope : Scope) (cl : List (Str × Addr)) (Fin : Shared → List Value → List (Addr × Obj) → Prop) (xv : Value) (s₁ : Shared) : Prop :=
  ∃ tx t news, xv = .str tx t ∧ A.handled = none ∧ Fr h₀ L s₁.heap m ∧ News h₀ L s₁.heap news ∧ tx.cps.size ≤ sizeLine ∧
    ∀ s₂ : Shared, (∃ h, s₂ = { s₁ with heap := h }) → CompRestT prog w A h₀ L m env ct elt x scope cl s₂ (fun _ => True) (SignAt tx) (Fin s₂) tx.cps.size 0 [] news
open LCg LCt in
theorem CompSrcTS.intro {prog : Program} {w : World} {A : Around} {h₀ : Heap} {L : Addr} {m : Str → Option Value} {env : Env} {ct elt : PySem.Expr} {x : Str} {scope : Scope} {cl : List (Str × Addr)} {Fin : Shared → List Value → List (Addr × Obj) → Prop} {tx : Str} {t : Tok} {news : List (Addr × Obj)} {s₁ : Shared}
    (hh : A.handled = none) (F : Fr h₀ L s₁.heap m) (N : News h₀ L s₁.heap news) (hsz : tx.cps.size ≤ sizeLine)
    (h : ∀ g, CompRestT prog w A h₀ L m env ct elt x scope cl { s₁ with heap := g } (fun _ => True) (SignAt tx) (Fin { s₁ with heap := g }) tx.cps.size 0 [] news) :
    CompSrcTS prog w A h₀ L m env ct elt x scope cl Fin (.str tx t) s₁ := ⟨tx, t, news, rfl, hh, F, N, hsz, fun _ ⟨g, e⟩ => e ▸ h g⟩
theorem striter_st {I : Addr} {T : String} {tx : Str} {t : Tok} (i : Nat) (h h' : Heap) (o : Obj) (st : h.IsStrIter I T tx t i) (e : h.get? I = some o) (e' : h'.get? I = some o) : h'.IsStrIter I T tx t i := by
  obtain ⟨o', q, r⟩ := st
  rw [e] at q; cases q
  exact ⟨o, e', r⟩
open LCg LCt in
theorem ListComp_TS {prog : Program} {w : World} {A : Around} {E : Value → Shared → Prop} {s : Shared} {h₀ : Heap} {L : Addr} {m : Str → Option Value} {env : Env} {ct elt iter : PySem.Expr} {x : Str} {px : Pos} {scope : Scope} {cl : List (Str × Addr)} {pos : Pos} {Q : Value → Shared → Prop} (F₀ : Fr h₀ L s.heap m)
    (hclos : closureFor scope env = pure cl) (hcell : ∀ y ∈ scope.names, y.2 ≠ .cell) (hkind : scope.kind = .function)
    (hnames : ∀ y ∈ scope.names, y.2 = .local → scope.names.lookup y.1 = some .local) (hx : scope.names.lookup x = some .local)
    (h : wpAny (model prog w) A (eval iter env) (CompSrcTS prog w A h₀ L m env ct elt x scope cl (fun s₂ => FinE h₀ L m s₂ Q)) E s)
    (hs : ∀ x, foldedSetIterable iter env x = pure x := by intro _; rfl) :
    wpAny (model prog w) A (eval (.ListComp elt [⟨.Name x px, iter, [ct], 0⟩] scope pos) env) Q E s := by
  rw [eval_ListComp]
  refine wpAny_comprehension_free (use := none) rfl hs hclos hkind hnames (wpAny_mono h (fun xv s₁ h₁ => ?_) fun _ _ e => e)
  obtain ⟨tx, t, news, rfl, hh, F, N, hsz, R⟩ := h₁
  cases ha : tx.cps.all (· < 128)
  · refine wpAny_pyIter_wide ha ?_
    refine block_T (Walks.strWide hh s₁.heap.objs.size tx t) hsz (fun i h st => by obtain ⟨o, e, _⟩ := st; exact ⟨o, e⟩) (fun i h h' o nw st e e' _ _ _ => striter_st i h h' o st e e') hcell hkind hx ⟨_, Heap.get?_push_size _ rfl, rfl, rfl⟩ (fun b hb => ?_)
      (F.keeps fun _ _ e => Heap.get?_push_of_some _ e) (N.grown fun _ _ e => Heap.get?_push_of_some _ e) (Nat.ne_of_lt F.ns.lt) (next_is_new F) (fun p hp => Nat.ne_of_lt (Heap.lt_size (N p hp).1)) trivial (R _ ⟨_, rfl⟩) ?_
    · rw [List.mem_singleton.mp hb]
      show s₁.heap.objs.size < (s₁.heap.push _).objs.size
      rw [Heap.size_push]; exact Nat.lt_succ_self _
    · intro D C h tk m' ys news' F' N' o1 hn hC₀ hD₀ hCL hDL hCD offC fin
      refine ⟨m', hn, fun h'' hs'' => fin D h'' tk (F'.change hs'' hCL hC₀) (fun p hp => ?_) o1⟩
      refine ⟨hs''.extBut _ _ ?_ (N' p hp).1, (N' p hp).2⟩
      rcases List.mem_cons.mp hp with rfl | hp
      · exact Ne.symm hCD
      · exact offC p hp
  · refine wpAny_pyIter_ascii ha ?_
    refine block_T (Walks.strAscii hh s₁.heap.objs.size tx t) hsz (fun i h st => by obtain ⟨o, e, _⟩ := st; exact ⟨o, e⟩) (fun i h h' o nw st e e' _ _ _ => striter_st i h h' o st e e') hcell hkind hx ⟨_, Heap.get?_push_size _ rfl, rfl, rfl⟩ (fun b hb => ?_)
      (F.keeps fun _ _ e => Heap.get?_push_of_some _ e) (N.grown fun _ _ e => Heap.get?_push_of_some _ e) (Nat.ne_of_lt F.ns.lt) (next_is_new F) (fun p hp => Nat.ne_of_lt (Heap.lt_size (N p hp).1)) trivial (R _ ⟨_, rfl⟩) ?_
    · rw [List.mem_singleton.mp hb]
      show s₁.heap.objs.size < (s₁.heap.push _).objs.size
      rw [Heap.size_push]; exact Nat.lt_succ_self _
    · intro D C h tk m' ys news' F' N' o1 hn hC₀ hD₀ hCL hDL hCD offC fin
      refine ⟨m', hn, fun h'' hs'' => fin D h'' tk (F'.change hs'' hCL hC₀) (fun p hp => ?_) o1⟩
      refine ⟨hs''.extBut _ _ ?_ (N' p hp).1, (N' p hp).2⟩
      rcases List.mem_cons.mp hp with rfl | hp
      · exact Ne.symm hCD
      · exact offC p hp
/-- what a sign says to the stringprep tables: none (it is left out), or what it is folded to -/
noncomputable def Mean (w : World) (c : Nat) : Option Str → Prop
  | none => b1 w.params c = true
  | some x => b1 w.params c = false ∧ (b3 w.params c).getD .none = .none ∧ Txt.lower ⟨#[c]⟩ = ⟨#[c]⟩ ∧ x = ⟨#[c]⟩
theorem b3_find {P : Params} {c : Int} : b3 P c = (b3E.find? fun e => Value.isInt c e.key).map (·.val) := by
  show Option.map _ (Array.find? _ b3E.toArray) = _
  rw [List.find?_toArray]
noncomputable def highKey (e : DictEntry) : Bool := match e.key with | .int k _ => decide (181 ≤ k) | _ => false
theorem b3_high : b3E.all highKey = true := by kernel_rfl
theorem b3_low {P : Params} {c : Int} (h : c < 181) : b3 P c = none := by
  rw [b3_find, List.find?_eq_none.mpr]; rfl
  intro e he hk
  have := List.all_eq_true.mp b3_high e he
  unfold highKey at this
  split at this
  · rename_i k t hkk
    have h1 : 181 ≤ k := of_decide_eq_true this
    rw [hkk] at hk
    have h2 : k = c := by simpa [Value.isInt] using hk
    omega
  · cases this
noncomputable def unL : List Nat := [173, 847, 6150, 6155, 6156, 6157, 8203, 8204, 8205, 8288, 65279] ++ (List.range 16).map (65024 + ·)
noncomputable def unS : Str := ⟨unL.toArray⟩
theorem un_mean (P : Params) : unL.all (fun c => b1 P c) = true := by kernel_rfl
theorem un_b1 {P : Params} {i : Int} (h0 : 0 ≤ i) (h1 : i < 27) : b1 P (unL.getD i.toNat 0) = true := by
  have hi : i.toNat < unL.length := by show i.toNat < 27; omega
  rw [List.getD_eq_getElem?_getD, List.getElem?_eq_getElem hi]
  exact List.all_eq_true.mp (un_mean P) _ (List.getElem_mem hi)
theorem un_get (i : Nat) : unS.cps.getD i 0 = unL.getD i 0 := by
  show unL.toArray.getD i 0 = _
  rw [Array.getD_eq_getD_getElem?, List.getElem?_toArray, List.getD_eq_getElem?_getD]
theorem str_len (x y : Str) : (x ++ y).length = x.length + y.length := by
  show (x.cps ++ y.cps).size = _
  rw [Array.size_append]; rfl
theorem StrsAre.append {vs us : List Value} {xs ys : List Str} (h : StrsAre vs xs) (k : StrsAre us ys) : StrsAre (vs ++ us) (xs ++ ys) := by
  induction h with
  | nil => exact k
  | cons y t _ ih => exact .cons y t ih
/-- the five signs -/
noncomputable def sgL : List Nat := [42, 47, 60, 61, 62]
noncomputable def sgOk (P : Params) (c : Nat) : Bool := decide (c < 128) && !b1 P c && (Txt.lower ⟨#[c]⟩ == ⟨#[c]⟩)
theorem sg_ok (P : Params) : sgL.all (sgOk P) = true := by kernel_rfl
theorem sg_mean {w : World} {c : Nat} (h : c ∈ sgL) : Mean w c (some ⟨#[c]⟩) := by
  have h4 := List.all_eq_true.mp (sg_ok w.params) c h
  unfold sgOk at h4
  have h5 := Bool.and_eq_true_iff.mp h4
  have h6 := Bool.and_eq_true_iff.mp h5.1
  have hlt : c < 128 := of_decide_eq_true h6.1
  refine ⟨by simpa using h6.2, ?_, eq_of_beq h5.2, rfl⟩
  rw [b3_low (by omega)]; rfl
/-- the signs of a piece and what they say -/
noncomputable def pieceT (c : Nat) (bits : Int) (k : Nat) : List (Nat × Option Str) :=
  (c, some ⟨#[c]⟩) :: if (bits.fdiv (2 ^ k)).fmod 2 = 1 then [(unL.getD ((bits + k).fmod 27).toNat 0, none)] else []
noncomputable def seenT (c : Nat) (bits : Int) (n : Nat) : List (Nat × Option Str) := ((List.range n).map (pieceT c bits)).flatten
noncomputable def pieceS (c : Nat) (bits : Int) (k : Nat) : Str := ⟨((pieceT c bits k).map (·.1)).toArray⟩
theorem seenT_mean {w : World} {c : Nat} {bits : Int} {n : Nat} (h : Mean w c (some ⟨#[c]⟩)) : ∀ y ∈ seenT c bits n, Mean w y.1 y.2 := by
  intro y hy
  obtain ⟨l, hl, hy⟩ := List.mem_flatten.mp hy
  obtain ⟨k, _, rfl⟩ := List.mem_map.mp hl
  unfold pieceT at hy
  rcases List.mem_cons.mp hy with rfl | hy
  · exact h
  · split at hy
    · obtain rfl := List.mem_singleton.mp hy
      exact un_b1 (Int.fmod_nonneg_of_pos _ (by decide)) (Int.fmod_lt_of_pos _ (by decide))
    · cases hy
theorem pieceT_len {c : Nat} {bits : Int} {k : Nat} : (pieceT c bits k).length ≤ 2 := by
  unfold pieceT; split <;> simp
theorem seenT_len {c : Nat} {bits : Int} {n : Nat} : (seenT c bits n).length ≤ n * 2 := by
  unfold seenT
  rw [List.length_flatten]
  refine Nat.le_trans (sum_le (b := 2) ?_) (by simp)
  intro x hx
  obtain ⟨y, hy, rfl⟩ := List.mem_map.mp hx
  obtain ⟨k, _, rfl⟩ := List.mem_map.mp hy
  exact pieceT_len
theorem seenT_text {c : Nat} {bits : Int} {n : Nat} : catS ((List.range n).map (pieceS c bits)) = ⟨((seenT c bits n).map (·.1)).toArray⟩ := by
  unfold catS seenT
  congr 2
  rw [List.map_flatten, List.map_map, List.map_map]
  rfl
theorem seenT_said {c : Nat} {bits : Int} : ∀ n, catS ((seenT c bits n).filterMap (·.2)) = ⟨(List.replicate n c).toArray⟩
  | 0 => rfl
  | n + 1 => by
    have ih := congrArg (fun z : Str => z.cps.toList) (seenT_said (c := c) (bits := bits) n)
    dsimp only at ih
    rw [cat_toList] at ih
    show (⟨_⟩ : Str) = _
    congr 1
    rw [show seenT c bits (n + 1) = seenT c bits n ++ pieceT c bits n by unfold seenT; rw [List.range_succ, List.map_append, List.flatten_append]; simp]
    rw [List.filterMap_append, List.map_append, List.flatten_append, ih, List.replicate_succ']
    unfold pieceT
    split <;> rfl
theorem c_map (news : List (Addr × Obj)) (c : Nat) (x : Str) (t1 : Tok) (hm : Mean w c (some x)) : Claim w mean mg mb 120 news 1 [.str ⟨#[c]⟩ t1] (fun v news' => ∃ t, v = .str x t ∧ news' = news) := by
  obtain ⟨_, h1, h2, rfl⟩ := hm
  exact c_b3 news c t1 h1 h2
theorem piece_yes {c : Nat} {bits : Int} {k : Nat} (h : (bits.fdiv (2 ^ k)).fmod 2 = 1) : (⟨#[c]⟩ : Str) ++ Txt.item unS ((bits + k).fmod 27) = pieceS c bits k := by
  have h0 : 0 ≤ (bits + k).fmod 27 := Int.fmod_nonneg_of_pos _ (by decide)
  have h1 : (bits + k).fmod 27 < 27 := Int.fmod_lt_of_pos _ (by decide)
  have hul : unS.length = 27 := rfl
  rw [eq_of_beq (item_closes (x := unS) ⟨h0, by rw [hul]; exact h1⟩), un_get, str_app]
  unfold pieceS pieceT
  rw [if_pos h]; rfl
theorem piece_no {c : Nat} {bits : Int} {k : Nat} (h : (bits.fdiv (2 ^ k)).fmod 2 ≠ 1) : (⟨#[c]⟩ : Str) ++ Str.ofString "" = pieceS c bits k := by
  rw [str_app]
  unfold pieceS pieceT
  rw [if_neg h]; rfl
theorem pieces_len {c : Nat} {bits : Int} {n : Nat} : (((List.range n).map (pieceS c bits)).map (·.length)).sum ≤ n * 2 := by
  refine Nat.le_trans (sum_le (b := 2) ?_) (by simp)
  intro x hx
  obtain ⟨y, hy, rfl⟩ := List.mem_map.mp hx
  obtain ⟨k, _, rfl⟩ := List.mem_map.mp hy
  show ((pieceT c bits k).map (·.1)).toArray.size ≤ 2
  rw [List.size_toArray, List.length_map]
  exact pieceT_len
local macro_rules | `(tactic| k_mem) => `(tactic| first | exact List.mem_cons_self | assumption | (refine List.mem_cons_of_mem _ ?_; k_mem))
local macro_rules | `(tactic| walk_at "CompSrc") => `(tactic| refine stop_of ?_)
local macro_rules | `(tactic| walk_at "CompEnd") => `(tactic| refine stop_of ?_)
local macro_rules | `(tactic| walk_at "call builtin:str.join") => `(tactic| refine stop_of ?_)
local macro_rules | `(tactic| walk_at "eval ListComp") => `(tactic| (k_here; lct_look; lcg_calm; k_dflt (refine ListComp_TS (F₀ := by k_asm) (by with_unfolding_all rfl) (by decide) (by rfl) (by decide) (by rfl) ?_)))
local macro_rules | `(tactic| walk_at "CompSrcTS") => `(tactic| refine stop_of ?_)
noncomputable def UnJ (news : List (Addr × Obj)) (i : Nat) (ys : List Value) (news' : List (Addr × Obj)) : Prop :=
  StrsAre ys ((List.range i).map fun k => ⟨#[65024 + k]⟩) ∧ news' = news
noncomputable def prepM (n : Nat) (t2 : Tok) : Str → Option Value := fun y => if y = Str.ofString "count" then some (.int n t2) else none
noncomputable def PieceJ (c : Nat) (bits : Int) (news : List (Addr × Obj)) (i : Nat) (ys : List Value) (news' : List (Addr × Obj)) : Prop :=
  StrsAre ys ((List.range i).map (pieceS c bits)) ∧ news' = news
noncomputable def SaidJ (T : List (Nat × Option Str)) (news : List (Addr × Obj)) (i : Nat) (ys : List Value) (news' : List (Addr × Obj)) : Prop :=
  StrsAre ys ((T.take i).filterMap (·.2)) ∧ news' = news
set_option maxHeartbeats 1000000 in
theorem c_prepared (c n : Nat) (bits : Int) (hb : 0 ≤ bits) (hn : n ≤ 11) (hc : Mean w c (some ⟨#[c]⟩)) (t1 t2 t3 : Tok) (news : List (Addr × Obj)) :
    Claim w mean mg mb 142 news 2 [.str ⟨#[c]⟩ t1, .int (n : Int) t2, .int bits t3] (fun v news' => ∃ t, v = .str (repS c n) t ∧ news' = news) := by
  intros dp un gd cn cs a' ccd cl outer A₀ base h₀ L m s Q E B F X N T' hk hd hu hret
  refine wpAny_call ?_
  k_dflt (refine' code_defC ?k1 ?k2 ?k3 ?k4 ?k5 ?kA ?kF ?kK ?k6 ?k7 ?k8 ?k9 ?kB ?kD ?_ ?c2 ?c3 ?c4; (case kA => exact rfl); (case kF => exact rfl); (case kK => assumption); (case k1 => k_asm); (case k2 => k_asm); (case k3 => k_asm); (case k4 => k_asm); (case k5 => k_asm); (case k6 => k_is); (case k7 => k_is); (case k8 => exact Nat.lt_of_le_of_lt (Nat.le_add_right _ _) hd); (case k9 => exact BindsTo.of_eq rfl); (case kB => exact rfl); (case kD => decide +kernel); (case c2 => exact rfl); (case c3 => exact rfl); (case c4 => exact rfl); k_whole; intro g' L' h' tk' cells' FG' F' N' Y' B' X' T2' l1; have l0 := l1; replace l1 := allLt_of l1; k_cells Y'; (try simp only [List.cons_append, List.nil_append] at N'); (try dsimp only); (try k_lift B'); (try k_fold))
  rename_i oU oB oS dU dB dS
  rename Fr _ _ _ _ => FF
  replace dU : oU.data = .cell none := dU
  replace dB : oB.data = .cell (some (.int bits t3)) := dB
  replace dS : oS.data = .cell (some (.str ⟨#[c]⟩ t1)) := dS
  replace FF : Fr g' L' h' (prepM n t2) := FF
  k_steps
  rename Fr _ _ _ _ => F2
  rename News _ _ _ _ => N2
  rename IsRange _ _ _ _ _ _ _ _ => R2
  refine stop_out (LCg.CompSrc.range (n := 16) rfl F2 N2 R2 (by decide) (by decide) (by decide) ?_)
  intro g3
  dsimp only
  refine comp_inv (UnJ _) ⟨.nil, rfl⟩ ?_ ?_
  rotate_left
  · rintro i6 ys6 news6 v6 I6 oI6 C6 oC6 D6 m6 h6 tk6 E6 hi6 ⟨S6, rfl⟩ P6 NC6 hx6 F6 N6 off6 ne6
    obtain ⟨t7, rfl⟩ := P6
    clear hret
    have hb0 : 0 ≤ 65024 + (i6 : Int) := by omega
    have hb1 : 65024 + (i6 : Int) < 1114112 := by omega
    dsimp only
    k_steps
    refine stop_out (LCg.CompEnd.intro (by assumption) (by assumption) _ (fun p hp => hp) off6 trivial ⟨?_, rfl⟩)
    rw [List.range_succ, List.map_append, show (65024 + (i6 : Int)).toNat = 65024 + i6 by omega]
    exact StrsAre.append S6 (.cons _ _ .nil)
  rintro ys7 news7 ⟨S7, rfl⟩
  intro D8 h8 tk8 F8 N8 o8
  simp only [LCg.Off1] at o8
  dsimp only
  k_steps
  rename Fr _ _ _ _ => F9
  rename News _ _ _ _ => N9
  refine stop_out (join_list (News.isList N9 (.head _)) S7 (by decide) ?_)
  intro t9 k9
  rw [txt_cat]
  k_steps
  rename Fr _ _ _ _ => F10
  rename News _ _ _ _ => N10
  rename IsRange _ _ _ _ _ _ _ _ => R10
  rename _ = Data.cell (some (Value.str (_ ++ _) _)) => dU2
  have dU3 := dU2.trans (congrArg (fun z => Data.cell (some (Value.str z _))) (show _ = unS by kernel_rfl))
  clear dU2
  refine stop_out (LCg.CompSrc.range (n := n) rfl F10 N10 R10 ?_ ?_ ?_ ?_)
  · exact small_one (by omega) (by omega) (by omega) (by omega)
  · rw [rangeSize_nat]; omega
  · exact Nat.le_trans (m := 100000) (by omega) (by decide)
  intro g11
  dsimp only
  refine comp_inv (PieceJ c bits _) ⟨.nil, rfl⟩ ?_ ?_
  rotate_left
  · rintro i6 ys6 news6 v6 I6 oI6 C6 oC6 D6 m6 h6 tk6 E6 hi6 ⟨S6, rfl⟩ P6 NC6 hx6 F6 N6 off6 ne6
    obtain ⟨t7, rfl⟩ := P6
    clear hret
    have hb0 : 0 ≤ 0 + (i6 : Int) := by omega
    have hb1 : 0 + (i6 : Int) ≤ 1000000 := by omega
    have e6 : (0 + (i6 : Int)).toNat = i6 := by omega
    have e7 : bits + (0 + (i6 : Int)) = bits + (i6 : Int) := by omega
    dsimp only
    k_steps
    · rename Int.fmod _ 2 = 1 => hy
      rw [e6] at hy
      refine stop_out (LCg.CompEnd.intro (by assumption) (by assumption) _ (fun p hp => hp) off6 trivial ⟨?_, rfl⟩)
      rw [List.range_succ, List.map_append, e7, piece_yes hy]
      exact StrsAre.append S6 (.cons _ _ .nil)
    · rename Int.fmod _ 2 ≠ 1 => hy
      rw [e6] at hy
      refine stop_out (LCg.CompEnd.intro (by assumption) (by assumption) _ (fun p hp => hp) off6 trivial ⟨?_, rfl⟩)
      rw [List.range_succ, List.map_append, piece_no hy]
      exact StrsAre.append S6 (.cons _ _ .nil)
  rintro ys12 news12 ⟨S12, rfl⟩
  intro D13 h13 tk13 F13 N13 o13
  simp only [LCg.Off1] at o13
  dsimp only
  k_steps
  rename Fr _ _ _ _ => F14
  rename News _ _ _ _ => N14
  have hpl := pieces_len (c := c) (bits := bits) (n := n)
  refine stop_out (join_list (News.isList N14 (.head _)) S12 ?_ ?_)
  · rw [show (Str.ofString "").length = 0 from rfl]; omega
  intro t15 k15
  rw [txt_cat, seenT_text]
  k_steps
  rename Fr _ _ _ _ => F16
  rename News _ _ _ _ => N16
  have hTl := seenT_len (c := c) (bits := bits) (n := n)
  have hTm := seenT_mean (bits := bits) (n := n) hc
  have hfin := seenT_said (c := c) (bits := bits) n
  generalize seenT c bits n = T at F16 hTl hTm hfin
  refine stop_out (CompSrcTS.intro rfl F16 N16 ?_ ?_)
  · show (List.map (fun x : Nat × Option Str => x.1) T).toArray.size ≤ sizeLine
    rw [List.size_toArray, List.length_map]
    exact Nat.le_trans (m := 100000) (by omega) (by decide)
  intro g17
  dsimp only
  refine comp_invT (SaidJ T _) ⟨.nil, rfl⟩ ?_ ?_
  rotate_left
  · rintro i18 ys18 news18 v18 I18 oI18 C18 oC18 D18 m18 h18 tk18 E18 hi18 ⟨S18, rfl⟩ ⟨ch, u18, hch, rfl⟩ NC18 hx18 F18 N18 off18 ne18
    clear hret
    obtain ⟨o, ho⟩ : ∃ o, T[i18]? = some (ch, o) := by
      rw [List.getElem?_toArray, List.getElem?_map] at hch
      obtain ⟨y, hy, rfl⟩ := Option.map_eq_some_iff.mp hch
      exact ⟨y.2, hy⟩
    have hiT : i18 < T.length := (List.getElem?_eq_some_iff.mp ho).1
    have hm := hTm (ch, o) (List.mem_of_getElem? ho)
    have hsn : T.take (i18 + 1) = T.take i18 ++ [(ch, o)] := by
      rw [take_snoc (d := (0, none)) T i18 hiT, List.getD_eq_getElem?_getD, ho]; rfl
    dsimp only at hm ⊢
    k_steps
    refine stop_out (use_claim rfl (c_b1 _ ch _) (by assumption) F18 (by assumption) N18 (by assumption) rfl ?_ ?_ ?_)
    · show dp + 1 + 1 < _; omega
    · show un + 3 + 8 * 1 < _; omega
    rintro v19 h19 tk19 news19 F19 N19 ⟨hv19, rfl⟩
    cases o with
    | none =>
      rw [show b1 w.params ch = true from hm] at hv19
      subst hv19
      k_steps
      refine stop_out (LCg.CompEnd.intro (by assumption) (by assumption) _ (fun p hp => hp) off18 trivial ⟨?_, rfl⟩)
      rw [hsn, List.filterMap_append]
      show StrsAre ys18 (_ ++ [])
      rw [List.append_nil]; exact S18
    | some x =>
      have hm1 := hm.1
      rw [hm1] at hv19
      subst hv19
      k_steps
      refine stop_out (use_claim rfl (c_map _ ch x _ hm) (by assumption) F19 (by assumption) N19 (by assumption) rfl ?_ ?_ ?_)
      · show dp + 1 + 1 < _; omega
      · show un + 3 + 8 * 1 < _; omega
      rintro v20 h20 tk20 news20 F20 N20 ⟨t20, rfl, rfl⟩
      k_steps
      refine stop_out (LCg.CompEnd.intro (by assumption) (by assumption) _ (fun p hp => hp) off18 trivial ⟨?_, rfl⟩)
      rw [hsn, List.filterMap_append]
      exact StrsAre.append S18 (.cons _ _ .nil)
  rintro ys21 news21 ⟨S21, rfl⟩
  intro D22 h22 tk22 F22 N22 o22
  dsimp only
  k_steps
  have hT0 : (⟨(List.map (fun x : Nat × Option Str => x.1) T).toArray⟩ : Str).cps.size = T.length := by
    rw [List.size_toArray, List.length_map]
  rw [hT0, List.take_length] at S21
  have hcl := cat_len (T.filterMap (·.2))
  rw [hfin, show (⟨(List.replicate n c).toArray⟩ : Str).length = n by show (List.replicate n c).toArray.size = n; simp] at hcl
  refine stop_out (join_list (News.isList N22 (.head _)) S21 ?_ ?_)
  · rw [show (Str.ofString "").length = 0 from rfl]; omega
  intro t23 k23
  rw [txt_cat, hfin]
  k_steps
  exact hret _ _ _ _ (by assumption) (cb_drop (by assumption) fun p hp => .tail _ (.tail _ (.tail _ (.tail _ (.tail _ (.tail _ hp)))))) ⟨_, rfl, rfl⟩
end
theorem rst10 : True := by first | walk1 | trivial
section
variable {w : World} {mean : ExcName → Option Value} {mg mb : Str → Option Value}
/-! the plain law: Lucas, Carmichael -/
noncomputable def luc (a b : Nat) : Nat → Nat
  | 0 => 0
  | 1 => 1
  | n + 2 => luc a b (n + 1) * a + luc a b n * b
theorem told_luc (a b : Nat) : ∀ n, told (a : Int) (b : Int) n = ((luc a b n : Int), (luc a b (n + 1) : Int))
  | 0 => rfl
  | n + 1 => by
    rw [told, told_luc a b n]
    show (_, _) = (_, ((luc a b (n + 1) * a + luc a b n * b : Nat) : Int))
    rw [Int.natCast_add, Int.natCast_mul, Int.natCast_mul]
theorem luc_add (a b m : Nat) : ∀ n, luc a b (m + n + 1) = luc a b (m + 1) * luc a b (n + 1) + b * (luc a b m * luc a b n) ∧ luc a b (m + n + 2) = luc a b (m + 1) * luc a b (n + 2) + b * (luc a b m * luc a b (n + 1))
  | 0 => by
    refine ⟨by simp [luc], ?_⟩
    show luc a b (m + 1) * a + luc a b m * b = luc a b (m + 1) * (1 * a + 0 * b) + b * (luc a b m * 1)
    rw [Nat.one_mul, Nat.zero_mul, Nat.mul_one, Nat.mul_comm b]; rfl
  | n + 1 => by
    obtain ⟨h1, h2⟩ := luc_add a b m n
    refine ⟨h2, ?_⟩
    show luc a b (m + n + 2) * a + luc a b (m + n + 1) * b = luc a b (m + 1) * (luc a b (n + 2) * a + luc a b (n + 1) * b) + b * (luc a b m * (luc a b (n + 1) * a + luc a b n * b))
    rw [h1, h2]
    generalize luc a b (m + 1) = p
    generalize luc a b (n + 2) = q
    generalize luc a b m = r
    generalize luc a b (n + 1) = s
    generalize luc a b n = t
    simp only [Nat.mul_add, Nat.add_mul]
    have e1 : p * q * a = p * (q * a) := Nat.mul_assoc ..
    have e2 : b * (r * s) * a = b * (r * (s * a)) := by rw [Nat.mul_assoc, Nat.mul_assoc]
    have e3 : p * s * b = p * (s * b) := Nat.mul_assoc ..
    have e4 : b * (r * t) * b = b * (r * (t * b)) := by rw [Nat.mul_assoc, Nat.mul_assoc]
    omega
theorem luc_cop_b {a b : Nat} (h : Nat.Coprime a b) : ∀ n, Nat.Coprime (luc a b (n + 1)) b
  | 0 => Nat.coprime_one_left b
  | n + 1 => by
    show Nat.gcd (luc a b (n + 1) * a + luc a b n * b) b = 1
    rw [Nat.gcd_add_mul_right_left]
    exact Nat.Coprime.mul_left (luc_cop_b h n) h
theorem luc_cop {a b : Nat} (h : Nat.Coprime a b) : ∀ n, Nat.Coprime (luc a b (n + 1)) (luc a b n)
  | 0 => Nat.coprime_one_left 0
  | n + 1 => by
    show Nat.gcd (luc a b (n + 1) * a + luc a b n * b) (luc a b (n + 1)) = 1
    rw [Nat.gcd_mul_left_add_left]
    exact Nat.Coprime.mul_left (luc_cop h n).symm (luc_cop_b h n).symm
theorem luc_gcd_add {a b : Nat} (h : Nat.Coprime a b) (m n : Nat) : Nat.gcd (luc a b (m + n)) (luc a b n) = Nat.gcd (luc a b m) (luc a b n) := by
  cases n with
  | zero => rfl
  | succ k =>
    rw [show m + (k + 1) = m + k + 1 by omega, (luc_add a b m k).1, Nat.gcd_mul_right_add_left]
    rw [show b * (luc a b m * luc a b k) = luc a b m * (b * luc a b k) by rw [Nat.mul_left_comm]]
    exact Nat.Coprime.gcd_mul_right_cancel _ (Nat.Coprime.mul_left (luc_cop_b h k).symm (luc_cop h k).symm)
theorem luc_gcd_mul {a b : Nat} (h : Nat.Coprime a b) (m n : Nat) : ∀ q, Nat.gcd (luc a b (m + n * q)) (luc a b n) = Nat.gcd (luc a b m) (luc a b n)
  | 0 => rfl
  | q + 1 => by rw [Nat.mul_succ, ← Nat.add_assoc, luc_gcd_add h, luc_gcd_mul h m n q]
theorem luc_gcd {a b : Nat} (h : Nat.Coprime a b) (m n : Nat) : Nat.gcd (luc a b m) (luc a b n) = luc a b (Nat.gcd m n) := by
  induction m, n using Nat.gcd.induction with
  | H0 n => rw [Nat.gcd_zero_left]; exact Nat.gcd_zero_left _
  | H1 m n hm ih =>
    rw [Nat.gcd_rec m n, ← ih, Nat.gcd_comm (luc a b m)]
    have := luc_gcd_mul h (n % m) m (n / m)
    rwa [Nat.mod_add_div] at this
theorem luc_lt {a b : Nat} (h : 2 ≤ a) : ∀ n, luc a b n < luc a b (n + 1)
  | 0 => Nat.zero_lt_one
  | n + 1 => by
    have ih := luc_lt (b := b) h n
    show luc a b (n + 1) < luc a b (n + 1) * a + luc a b n * b
    have : luc a b (n + 1) * 2 ≤ luc a b (n + 1) * a := Nat.mul_le_mul_left _ h
    omega
theorem luc_mono {a b : Nat} (h : 2 ≤ a) {m : Nat} : ∀ {n : Nat}, m < n → luc a b m < luc a b n
  | 0, hn => absurd hn (Nat.not_lt_zero m)
  | n + 1, hn => by
    have h1 := luc_lt (b := b) h n
    by_cases e : m = n
    · subst e; exact h1
    · exact Nat.lt_trans (luc_mono h (by omega)) h1
theorem luc_dvd {a b : Nat} (h : Nat.Coprime a b) (h2 : 2 ≤ a) {m n : Nat} : luc a b m ∣ luc a b n ↔ m ∣ n := by
  rw [← Nat.gcd_eq_left_iff_dvd, luc_gcd h, ← Nat.gcd_eq_left_iff_dvd]
  constructor
  · intro e
    rcases Nat.lt_trichotomy (Nat.gcd m n) m with hl | hl | hl
    · exact absurd e (Nat.ne_of_lt (luc_mono h2 hl))
    · exact hl
    · exact absurd e (Nat.ne_of_gt (luc_mono h2 hl))
  · intro e; rw [e]
theorem luc_le {a b : Nat} (ha : a ≤ 1100) (hb : b ≤ 100000) : ∀ n, luc a b (n + 1) ≤ 2048 ^ n ∧ luc a b (n + 2) ≤ 2048 ^ (n + 1)
  | 0 => ⟨Nat.le_refl 1, by show 1 * a + 0 * b ≤ 2048; omega⟩
  | n + 1 => by
    obtain ⟨h1, h2⟩ := luc_le ha hb n
    refine ⟨h2, ?_⟩
    show luc a b (n + 2) * a + luc a b (n + 1) * b ≤ _
    have h3 : luc a b (n + 2) * a ≤ 2048 ^ (n + 1) * 1100 := Nat.mul_le_mul h2 ha
    have h4 : luc a b (n + 1) * b ≤ 2048 ^ n * 100000 := Nat.mul_le_mul h1 hb
    rw [Nat.pow_succ] at h3
    rw [Nat.pow_succ, Nat.pow_succ]
    generalize 2048 ^ n = z at *
    omega
theorem fib201 : (2 : Int) ^ 121 < fib 201 := by decide +kernel
theorem luc_fib {a b : Nat} (ha : a ≤ 1100) (hb : b ≤ 100000) {n : Nat} (hn : n ≤ 12) (hn1 : 1 ≤ n) : (luc a b n : Int) < fib 201 := by
  obtain ⟨k, rfl⟩ : ∃ k, n = k + 1 := ⟨n - 1, by omega⟩
  have h1 := (luc_le ha hb k).1
  have h2 : 2048 ^ k ≤ 2048 ^ 11 := Nat.pow_le_pow_right (by decide) (by omega)
  have h3 := fib201
  have h4 : (2048 : Nat) ^ 11 = 2 ^ 121 := by decide
  have h5 : ((2 ^ 121 : Nat) : Int) = 2 ^ 121 := by norm_cast
  omega
/-- Euclid's run with remainders by the floor ends at the greatest common divisor -/
theorem eu_inv {u l : Int} (hl : 0 ≤ l) (hf : l < fib 201) : ∀ i, i < 200 → 0 ≤ (eu u l (i + 1)).2 ∧ (Int.gcd (eu u l (i + 1)).1 (eu u l (i + 1)).2 : Int) = Int.gcd u l ∧ (l ≠ 0 → 0 ≤ (eu u l (i + 1)).1) ∧ EuB (200 - (i + 1)) (eu u l (i + 1)).1 (eu u l (i + 1)).2
  | 0, _ => by
    rw [eu, eu]
    split
    · rename_i h
      dsimp only at h
      refine ⟨hl, rfl, fun hn => absurd h hn, ?_⟩
      dsimp only
      rw [h]; exact EuB.stay
    · rename_i h
      dsimp only at h
      have hl' : 0 < l := by omega
      have h1 := Int.fmod_nonneg_of_pos u hl'
      have h2 := Int.fmod_lt_of_pos u hl'
      exact ⟨h1, gcd_step hl', fun _ => hl, .inr ⟨h2, hf⟩⟩
  | i + 1, hi => by
    obtain ⟨h1, h2, h3, h4⟩ := eu_inv (u := u) hl hf i (by omega)
    rw [eu]
    split
    · rename_i h
      refine ⟨h1, h2, h3, ?_⟩
      rw [h]; exact EuB.stay
    · rename_i h
      have hl' : 0 < (eu u l (i + 1)).2 := by omega
      have hn : l ≠ 0 := by
        rintro rfl
        refine h ?_
        clear h h1 h2 h3 h4 hl'
        have : ∀ k, eu u 0 k = (u, 0) := fun k => by
          induction k with
          | zero => rfl
          | succ k ih => rw [eu, ih]; rfl
        rw [this]
      refine ⟨Int.fmod_nonneg_of_pos _ hl', (gcd_step hl').trans h2, fun _ => h1, ?_⟩
      rw [show 200 - (i + 1) = 200 - (i + 1 + 1) + 1 by omega] at h4
      exact h4.step hl' (h3 hn)
theorem eu_gcd {u l : Int} (hl : 0 < l) (hf : l < fib 201) : (eu u l 200).1 = Int.gcd u l := by
  obtain ⟨h1, h2, h3, h4⟩ := eu_inv (u := u) (Int.le_of_lt hl) hf 199 (by decide)
  have h5 := EuB.zero h1 h4
  rw [h5, gcd_end (h3 (by omega))] at h2
  exact h2
theorem eu_neg {u l : Int} : ∀ n, eu (-u) (-l) n = (-(eu u l n).1, -(eu u l n).2)
  | 0 => rfl
  | n + 1 => by
    rw [eu, eu, eu_neg n]
    dsimp only
    by_cases h : (eu u l n).2 = 0
    · rw [if_pos h, if_pos (by omega)]
    · rw [if_neg h, if_neg (by omega)]
      congr 1
      exact Int.neg_fmod_neg ..
theorem eu_gcd_neg {u l : Int} (hl : 0 < l) (hf : l < fib 201) : (eu u (-l) 200).1 = -Int.gcd u l := by
  have h := eu_neg (u := -u) (l := l) 200
  rw [Int.neg_neg] at h
  rw [h]
  dsimp only
  rw [eu_gcd hl hf, Int.neg_gcd]
end
section
variable {w : World} {mean : ExcName → Option Value} {mg mb : Str → Option Value}
noncomputable abbrev lawE (L fa : Nat) (cd : Value) : Env := envOf (Str.ofString "law") (scAt 72) L fa cd
noncomputable abbrev lawM (sl : Nat) : Str → Option Value := fun x => List.lookup x [(Str.ofString "script", .ref sl)].reverse
noncomputable abbrev tabs0 : List (Addr × Obj) := [(30, tabObj #[]), (37, tabObj #[])]
theorem use_claimL {A : Around} {sl : Addr} {sv : List Value} {f : Addr} {news : List (Addr × Obj)} {need : Nat} {vs : List Value} {Post : Value → List (Addr × Obj) → Prop} {dp un : Nat} {gd : Option (List Code)} {cn : Str} {cs : Scope} {a : Addr} {ccd : Value} {cl : List (Str × Addr)} {outer : List Env} {A₀ : Around} {base h₀ : Heap} {L : Addr} {m : Str → Option Value} {s : Shared} {Q E : Value → Shared → Prop}
    (hA : A = ktrTop dp un gd cn cs L a ccd cl outer) (H : ClaimL w mean mg mb sl sv f news need vs Post) (hL : h₀.IsList sl sv.toArray) (B : Below A₀ base outer h₀) (F : Fr h₀ L s.heap m) (X : (K w.params).In h₀) (N : News h₀ L s.heap news) (T : Top TP TL mean mg mb h₀) (hk : cs.kind = .function) (hd : dp + need < recursionLimit) (hu : un + 8 * need < cLine)
    (h : ∀ v h' tk' news', Fr h₀ L h' m → News h₀ L h' news' → Post v news' → Q v { s with heap := h', toks := tk' }) : wpAny (model PR w) A (call (.ref f) vs) Q E s := by
  subst hA
  exact H dp un gd cn cs a ccd cl outer A₀ base h₀ L m s Q E hL B F X N T hk hd hu h
noncomputable def opVal (v : Value) : Bool := match v with | .int n _ => decide (16 ≤ n ∧ n ≤ 54) | _ => false
noncomputable def sgEx (P : Params) (c : Nat) : Bool := (match ex P ⟨#[c]⟩ with | some v => (match v with | .int n _ => decide (16 ≤ n ∧ n ≤ 22) | _ => false) | none => false) && (match ex P ⟨#[c, c]⟩ with | some v => (match v with | .int n _ => decide (1 ≤ n ∧ n ≤ 54) | _ => false) | none => false) && !(ex P ⟨#[c, c, c]⟩).isSome
theorem sg_ex (P : Params) : sgL.all (sgEx P) = true := by kernel_rfl
theorem sg_one {P : Params} {c : Nat} (h : c ∈ sgL) : ∃ n t, ex P ⟨#[c]⟩ = some (.int n t) ∧ 16 ≤ n ∧ n ≤ 22 := by
  have h1 := List.all_eq_true.mp (sg_ex P) c h
  unfold sgEx at h1
  have h2 := (Bool.and_eq_true_iff.mp (Bool.and_eq_true_iff.mp h1).1).1
  split at h2
  · split at h2
    · exact ⟨_, _, by assumption, of_decide_eq_true h2⟩
    · cases h2
  · cases h2
theorem sg_two {P : Params} {c : Nat} (h : c ∈ sgL) : ∃ n t, ex P ⟨#[c, c]⟩ = some (.int n t) ∧ 1 ≤ n ∧ n ≤ 54 := by
  have h1 := List.all_eq_true.mp (sg_ex P) c h
  unfold sgEx at h1
  have h2 := (Bool.and_eq_true_iff.mp (Bool.and_eq_true_iff.mp h1).1).2
  split at h2
  · split at h2
    · exact ⟨_, _, by assumption, of_decide_eq_true h2⟩
    · cases h2
  · cases h2
theorem sg_three {P : Params} {c : Nat} (h : c ∈ sgL) : (ex P ⟨#[c, c, c]⟩).isSome = false := by
  have h1 := List.all_eq_true.mp (sg_ex P) c h
  unfold sgEx at h1
  simpa using (Bool.and_eq_true_iff.mp h1).2
theorem ex_item {A : Around} {E : Value → Shared → Prop} {s : Shared} {h₀ : Heap} {L : Addr} {m : Str → Option Value} {x : Str} {t : Tok} {v : Value} {Q : Value → Shared → Prop} {value slice : PySem.Expr} (X : (K w.params).In h₀) (F : Fr h₀ L s.heap m) (hv : ex w.params x = some v) (h : Q v { s with toks := s.toks + 1 })
    (hs : subscripted slice false (.ref 121) (.str x t) = operate [.ref 121, .str x t] (getItem (.ref 121) (.str x t))) : wpAny (model PR w) A (subscriptTail value slice (.ref 121) (.str x t)) Q E s :=
  tail_any (ex_map X F).typeIs PySem.F.slot_dict_getitem.lookup (wpAny_getItem_of (strKind_is _ _ _ _) (ex_map X F) hv h) hs
theorem sg_mem {k : Int} (h0 : 0 ≤ k) (h1 : k < 5) : sgL.getD k.toNat 0 ∈ sgL := by
  have hi : k.toNat < sgL.length := by show k.toNat < 5; omega
  rw [List.getD_eq_getElem?_getD, List.getElem?_eq_getElem hi]
  exact List.getElem_mem hi
theorem sg_item {k : Int} (h0 : 0 ≤ k) (h1 : k < 5) : Txt.item (Str.ofString "*/<=>") k = ⟨#[sgL.getD k.toNat 0]⟩ := by
  rw [eq_of_beq (item_closes (x := Str.ofString "*/<=>") ⟨h0, h1⟩)]
  have e : (Str.ofString "*/<=>").cps = sgL.toArray := by kernel_rfl
  rw [e, Array.getD_eq_getD_getElem?, List.getElem?_toArray, List.getD_eq_getElem?_getD]
noncomputable abbrev lm4 (sl lc lw c : Nat) (a : Int) (ts ta : Tok) : Str → Option Value := fun y => if y = Str.ofString "worths" then some (.ref lw) else if y = Str.ofString "one" then some (.int a ta) else if y = Str.ofString "sign" then some (.str ⟨#[c]⟩ ts) else if y = Str.ofString "cells" then some (.ref lc) else lawM sl y
theorem sg_dbl (c : Nat) : (⟨#[c]⟩ : Str) ++ ⟨#[c]⟩ = ⟨#[c, c]⟩ := by rw [str_app]; rfl
/-- the worths of one sign and of two -/
noncomputable def Worth (a b : Int) (A B : Nat) : Prop := a = (A : Int) ∧ b = (B : Int) ∧ Nat.Coprime A B ∧ 2 ≤ A ∧ A ≤ 1100 ∧ B ≤ 100000
theorem worth_of {n1 n2 c1 : Int} (h1 : 16 ≤ n1 ∧ n1 ≤ 22) (h2 : 1 ≤ n2 ∧ n2 ≤ 54) : ∃ A B, Worth (n1 + c1.fmod 1000) (n2 * (n1 + c1.fmod 1000) + 1) A B := by
  have hm0 : 0 ≤ c1.fmod 1000 := Int.fmod_nonneg_of_pos _ (by decide)
  have hm1 : c1.fmod 1000 < 1000 := Int.fmod_lt_of_pos _ (by decide)
  obtain ⟨A, hA⟩ : ∃ A : Nat, n1 + c1.fmod 1000 = (A : Int) := ⟨(n1 + c1.fmod 1000).toNat, by omega⟩
  obtain ⟨N, hN⟩ : ∃ N : Nat, n2 = (N : Int) := ⟨n2.toNat, by omega⟩
  have h3 : N * A ≤ 54 * 1100 := Nat.mul_le_mul (by omega) (by omega)
  refine ⟨A, N * A + 1, hA, ?_, ?_, by omega, by omega, by omega⟩
  · rw [hA, hN, Int.natCast_add, Int.natCast_mul]; rfl
  · show Nat.gcd A (N * A + 1) = 1
    rw [Nat.gcd_mul_right_add_right]; exact Nat.gcd_one_right A
noncomputable abbrev lm5 (sl lc lw c : Nat) (a v1 : Int) (ts ta t1 : Tok) : Str → Option Value := fun y => if y = Str.ofString "first" then some (.int v1 t1) else lm4 sl lc lw c a ts ta y
noncomputable abbrev lm6 (sl lc lw c : Nat) (a v1 v2 : Int) (ts ta t1 t2 : Tok) : Str → Option Value := fun y => if y = Str.ofString "second" then some (.int v2 t2) else lm5 sl lc lw c a v1 ts ta t1 y
noncomputable abbrev led (lc lw : Nat) (c0 c1 c2 c3 c4 a b : Int) (t0 t1 t2 t3 t4 ta tb tz : Tok) (e1 e2 : Nat) (rest : List (Addr × Obj)) : List (Addr × Obj) := (lw, listO [.int a ta, .int b tb, .int 0 tz] e2) :: (lc, listO [.int c0 t0, .int c1 t1, .int c2 t2, .int c3 t3, .int c4 t4] e1) :: rest
theorem sg_rep {P : Params} {c : Nat} (h : c ∈ sgL) : (ex P (repS c 1)).isSome = true ∧ (ex P (repS c 2)).isSome = true ∧ (ex P (repS c 3)).isSome = false := by
  obtain ⟨n1, u1, h1, _⟩ := sg_one (P := P) h
  obtain ⟨n2, u2, h2, _⟩ := sg_two (P := P) h
  refine ⟨?_, ?_, sg_three h⟩
  · show (ex P ⟨#[c]⟩).isSome = true
    rw [h1]; rfl
  · show (ex P ⟨#[c, c]⟩).isSome = true
    rw [h2]; rfl
theorem Worth.b {a b : Int} {A B : Nat} (h : Worth a b A B) : (0 ≤ a ∧ a < 2 ^ 64) ∧ 0 ≤ b ∧ b < 2 ^ 64 := by
  obtain ⟨rfl, rfl, _, _, _, _⟩ := h
  omega
end
section
local macro_rules | `(tactic| k_mem) => `(tactic| first | exact List.mem_cons_self | assumption | (refine List.mem_cons_of_mem _ ?_; k_mem))
local macro_rules | `(tactic| walk_at "binaryOp Mult int int") => `(tactic| (refine PyProof.Rows.mul_int ?_ (by assumption); (try dsimp only)))
local macro_rules | `(tactic| walk_at "subscriptTail") => `(tactic| ((with_reducible show wpAny _ _ (subscriptTail _ _ (Value.ref _) (Value.str _ _)) _ _ _); refine ex_item (by assumption) (by assumption) (by assumption) ?_ ?hs; (case hs => with_unfolding_all rfl); (try dsimp only)))
local macro_rules | `(tactic| walk_at "binaryOp FloorDiv int int") => `(tactic| (refine floordiv_int (by assumption) ?_ (Or.inl (by assumption)); (try dsimp only)))
section
variable {w : World} {mean : ExcName → Option Value} {mg mb : Str → Option Value}
set_option maxHeartbeats 1000000 in
theorem law_1 (sl : Nat) (sv : List Value) (ns : List Int) (hI : IntsAre sv ns) (hlen : ns.length ≤ 63) {g h₁ : Heap} {L fa : Nat} {cd : Value} {s : Shared} {tk : Nat} {qk : Flow → Shared → Prop} {ek : Value → Shared → Prop}
    (hL : g.IsList sl sv.toArray) (B : Below callerA g [] g) (X : (K w.params).In g) (T : Top TP TL mean mg mb g) (l0 : 30 < L ∧ 37 < L)
    (F : Fr g L h₁ (lawM sl)) (N : News g L h₁ tabs0)
    (hn : ∀ (h' : Heap) (tk' lc lw c : Nat) (c0 c1 c2 c3 c4 a b : Int) (A B : Nat) (t0 t1 t2 t3 t4 ts ta ta' tb tz : Tok) (e1 e2 : Nat), c ∈ sgL → 0 ≤ c2 → 0 ≤ c3 → 0 ≤ c4 → Worth a b A B → (30 < lc ∧ 37 < lc) → lc < lw → Fr g L h' (lm4 sl lc lw c a ts ta) → News g L h' ((lw, listO [.int a ta', .int b tb, .int 0 tz] e2) :: (lc, listO [.int c0 t0, .int c1 t1, .int c2 t2, .int c3 t3, .int c4 t4] e1) :: tabs0) →
      wpAny (model PR w) (callerA.deeper (lawE L fa cd)) (execs ((bdAt 72).drop 4) (lawE L fa cd)) qk ek { s with heap := h', toks := tk' }) :
    wpAny (model PR w) (callerA.deeper (lawE L fa cd)) (execs (bdAt 72) (lawE L fa cd)) qk ek { s with heap := h₁, toks := tk } := by
  k_steps
  refine stop_out (use_claimL rfl (c_cells sl sv ns hI hlen _) hL (by assumption) (by assumption) (by assumption) (by assumption) (by assumption) rfl (by decide) (by decide) ?_)
  rintro v1 h2 tk2 news2 F2 N2 ⟨lc, vc, nc, e1, rfl, rfl, I1, hn5, hnn, hf1⟩
  k_lt hf1
  rcases I1 with _ | ⟨c0, t0, I1⟩
  · cases hn5
  rcases I1 with _ | ⟨c1, t1, I1⟩
  · cases hn5
  rcases I1 with _ | ⟨c2, t2, I1⟩
  · cases hn5
  rcases I1 with _ | ⟨c3, t3, I1⟩
  · cases hn5
  rcases I1 with _ | ⟨c4, t4, I1⟩
  · cases hn5
  rcases I1 with _ | ⟨c5, t5, I1⟩
  rotate_left
  · cases hn5
  clear hn5
  have hc0 := hnn c0 (by simp)
  have hc1 := hnn c1 (by simp)
  have hc2 := hnn c2 (by simp)
  have hc3 := hnn c3 (by simp)
  have hc4 := hnn c4 (by simp)
  clear hnn
  iterate 15 (first | walk1 | (dsimp only; walk1))
  rename Fr _ _ _ _ => F3
  rename News _ _ _ _ => N3
  have hm0 : 0 ≤ c0.fmod 5 := Int.fmod_nonneg_of_pos _ (by decide)
  have hm1 : c0.fmod 5 < 5 := Int.fmod_lt_of_pos _ (by decide)
  have hsg : Txt.item (Str.ofString "*/<=>") ((([c0, c1, c2, c3, c4] : List Int).getD (Int.toNat 0) 0).fmod 5) = ⟨#[sgL.getD (c0.fmod 5).toNat 0]⟩ := sg_item hm0 hm1
  have hc := sg_mem hm0 hm1
  rw [hsg] at F3
  generalize sgL.getD (c0.fmod 5).toNat 0 = c at F3 hc hsg
  clear hsg
  obtain ⟨n1, u1, ex1, hn1⟩ := sg_one (P := w.params) hc
  obtain ⟨n2, u2, ex2, hn2⟩ := sg_two (P := w.params) hc
  rw [← sg_dbl] at ex2
  have hmul : IntMulOk n2 (n1 + (([c0, c1, c2, c3, c4] : List Int).getD (Int.toNat 1) 0).fmod 1000) := mul_leftN (by omega) (by omega)
  iterate 41 (first | walk1 | (dsimp only; walk1))
  rename Fr _ _ _ _ => F4
  rename News _ _ _ _ => N4
  obtain ⟨A, B, hW⟩ := worth_of (c1 := c1) hn1 hn2
  refine hn _ _ lc _ c c0 c1 c2 c3 c4 _ _ A B t0 t1 t2 t3 t4 _ _ _ _ _ _ _ hc hc2 hc3 hc4 hW ?_ ?_ F4 N4
  · exact hf1
  · exact (by assumption : lc < _ ∧ _).1
end
section
variable {w : World} {mean : ExcName → Option Value} {mg mb : Str → Option Value}
set_option maxHeartbeats 1000000 in
theorem law_2 (sl : Nat) {g h₁ : Heap} {L fa : Nat} {cd : Value} {s : Shared} {tk : Nat} {qk : Flow → Shared → Prop} {ek : Value → Shared → Prop} {lc lw c : Nat} {c0 c1 c2 c3 c4 a b : Int} {A B : Nat} {t0 t1 t2 t3 t4 ts ta ta' tb tz : Tok} {e1 e2 : Nat}
    (hc : c ∈ sgL) (hc4 : 0 ≤ c4) (hW : Worth a b A B)
    (Bl : Below callerA g [] g) (X : (K w.params).In g) (T : Top TP TL mean mg mb g)
    (F : Fr g L h₁ (lm4 sl lc lw c a ts ta)) (N : News g L h₁ (led lc lw c0 c1 c2 c3 c4 a b t0 t1 t2 t3 t4 ta' tb tz e1 e2 tabs0))
    (hn : ∀ (h' : Heap) (tk' : Nat) (u : Tok), Fr g L h' (lm5 sl lc lw c a (told a b (c2.fmod 12).toNat).2 ts ta u) → News g L h' (led lc lw c0 c1 c2 c3 c4 a b t0 t1 t2 t3 t4 ta' tb tz e1 e2 tabs0) →
      wpAny (model PR w) (callerA.deeper (lawE L fa cd)) (execs ((bdAt 72).drop 5) (lawE L fa cd)) qk ek { s with heap := h', toks := tk' }) :
    wpAny (model PR w) (callerA.deeper (lawE L fa cd)) (execs ((bdAt 72).drop 4) (lawE L fa cd)) qk ek { s with heap := h₁, toks := tk } := by
  have hm0 : 0 ≤ c2.fmod 12 := Int.fmod_nonneg_of_pos _ (by decide)
  have hm1 : c2.fmod 12 < 12 := Int.fmod_lt_of_pos _ (by decide)
  have hk : (([c0, c1, c2, c3, c4] : List Int).getD (Int.toNat 2) 0).fmod 12 = ((c2.fmod 12).toNat : Int) := by show c2.fmod 12 = _; omega
  have hb := hW.b
  have hr := sg_rep (P := w.params) hc
  k_steps
  rw [hk]
  refine stop_out (use_claim rfl (c_prepared c _ _ hc4 (by omega) (sg_mean hc) _ _ _ _) (by assumption) (by assumption) (by assumption) (by assumption) (by assumption) rfl (by decide) (by decide) ?_)
  rintro v5 h5 tk5 news5 F5 N5 ⟨u5, rfl, rfl⟩
  k_steps
  refine stop_out (use_claim rfl (c_sum2 c _ (by omega) hr.1 hr.2.1 hr.2.2 lw e2 a b 0 ta' tb tz hb.1.1 hb.1.2 hb.2.1 hb.2.2 _ _ (.head _)) (by assumption) (by assumption) (by assumption) (by assumption) (by assumption) rfl (by decide) (by decide) ?_)
  rintro v6 h6 tk6 news6 F6 N6 ⟨u6, rfl, rfl⟩
  iterate 2 (first | walk1 | (dsimp only; walk1))
  rename Fr _ _ _ _ => F7
  rename News _ _ _ _ => N7
  exact hn _ _ _ F7 N7
end
section
variable {w : World} {mean : ExcName → Option Value} {mg mb : Str → Option Value}
set_option maxHeartbeats 1000000 in
theorem law_3 (sl : Nat) {g h₁ : Heap} {L fa : Nat} {cd : Value} {s : Shared} {tk : Nat} {qk : Flow → Shared → Prop} {ek : Value → Shared → Prop} {lc lw c : Nat} {c0 c1 c2 c3 c4 a b : Int} {v1 : Int} {tv : Tok} {A B : Nat} {t0 t1 t2 t3 t4 ts ta ta' tb tz : Tok} {e1 e2 : Nat}
    (hc : c ∈ sgL) (hc4 : 0 ≤ c4) (hW : Worth a b A B)
    (Bl : Below callerA g [] g) (X : (K w.params).In g) (T : Top TP TL mean mg mb g)
    (F : Fr g L h₁ (lm5 sl lc lw c a v1 ts ta tv)) (N : News g L h₁ (led lc lw c0 c1 c2 c3 c4 a b t0 t1 t2 t3 t4 ta' tb tz e1 e2 tabs0))
    (hn : ∀ (h' : Heap) (tk' : Nat) (u : Tok), Fr g L h' (lm6 sl lc lw c a v1 (told a b (c3.fmod 12).toNat).2 ts ta tv u) → News g L h' (led lc lw c0 c1 c2 c3 c4 a b t0 t1 t2 t3 t4 ta' tb tz e1 e2 tabs0) →
      wpAny (model PR w) (callerA.deeper (lawE L fa cd)) (execs ((bdAt 72).drop 6) (lawE L fa cd)) qk ek { s with heap := h', toks := tk' }) :
    wpAny (model PR w) (callerA.deeper (lawE L fa cd)) (execs ((bdAt 72).drop 5) (lawE L fa cd)) qk ek { s with heap := h₁, toks := tk } := by
  have hm0 : 0 ≤ c3.fmod 12 := Int.fmod_nonneg_of_pos _ (by decide)
  have hm1 : c3.fmod 12 < 12 := Int.fmod_lt_of_pos _ (by decide)
  have hk : (([c0, c1, c2, c3, c4] : List Int).getD (Int.toNat 3) 0).fmod 12 = ((c3.fmod 12).toNat : Int) := by show c3.fmod 12 = _; omega
  have hb := hW.b
  have hr := sg_rep (P := w.params) hc
  k_steps
  rw [hk]
  refine stop_out (use_claim rfl (c_prepared c _ _ hc4 (by omega) (sg_mean hc) _ _ _ _) (by assumption) (by assumption) (by assumption) (by assumption) (by assumption) rfl (by decide) (by decide) ?_)
  rintro v5 h5 tk5 news5 F5 N5 ⟨u5, rfl, rfl⟩
  k_steps
  refine stop_out (use_claim rfl (c_sum2 c _ (by omega) hr.1 hr.2.1 hr.2.2 lw e2 a b 0 ta' tb tz hb.1.1 hb.1.2 hb.2.1 hb.2.2 _ _ (.head _)) (by assumption) (by assumption) (by assumption) (by assumption) (by assumption) rfl (by decide) (by decide) ?_)
  rintro v6 h6 tk6 news6 F6 N6 ⟨u6, rfl, rfl⟩
  iterate 2 (first | walk1 | (dsimp only; walk1))
  rename Fr _ _ _ _ => F7
  rename News _ _ _ _ => N7
  exact hn _ _ _ F7 N7
end
section
variable {w : World} {mean : ExcName → Option Value} {mg mb : Str → Option Value}
noncomputable abbrev lm8 (sl lc lw c k2 k3 : Nat) (a v1 v2 : Int) (ts ta t1 t2 um un : Tok) : Str → Option Value := fun y => if y = Str.ofString "m" then some (.int ((k2 : Int) + 1) um) else if y = Str.ofString "n" then some (.int ((k3 : Int) + 1) un) else lm6 sl lc lw c a v1 v2 ts ta t1 t2 y
set_option maxHeartbeats 1000000 in
theorem law_4 (sl : Nat) {g h₁ : Heap} {L fa : Nat} {cd : Value} {s : Shared} {tk : Nat} {qk : Flow → Shared → Prop} {ek : Value → Shared → Prop} {lc lw c k2 k3 : Nat} {c0 c1 c2 c3 c4 a b : Int} {A B : Nat} {t0 t1 t2 t3 t4 ts ta ta' tb tz tv tv' : Tok} {e1 e2 : Nat}
    (hW : Worth a b A B) (hk2 : c2.fmod 12 = (k2 : Int)) (hk3 : c3.fmod 12 = (k3 : Int)) (hl2 : k2 ≤ 11) (hl3 : k3 ≤ 11)
    (Bl : Below callerA g [] g) (X : (K w.params).In g) (T : Top TP TL mean mg mb g)
    (F : Fr g L h₁ (lm6 sl lc lw c a (told a b k2).2 (told a b k3).2 ts ta tv tv')) (N : News g L h₁ (led lc lw c0 c1 c2 c3 c4 a b t0 t1 t2 t3 t4 ta' tb tz e1 e2 tabs0))
    (hn : ∀ (h' : Heap) (tk' : Nat) (um un : Tok), Fr g L h' (lm8 sl lc lw c k2 k3 a (told a b k2).2 (told a b k3).2 ts ta tv tv' um un) → News g L h' (led lc lw c0 c1 c2 c3 c4 a b t0 t1 t2 t3 t4 ta' tb tz e1 e2 tabs0) →
      wpAny (model PR w) (callerA.deeper (lawE L fa cd)) (execs ((bdAt 72).drop 8) (lawE L fa cd)) qk ek { s with heap := h', toks := tk' }) :
    wpAny (model PR w) (callerA.deeper (lawE L fa cd)) (execs ((bdAt 72).drop 6) (lawE L fa cd)) qk ek { s with heap := h₁, toks := tk } := by
  have hb := hW.b
  have hk2 : (([c0, c1, c2, c3, c4] : List Int).getD (Int.toNat 2) 0).fmod 12 = (k2 : Int) := hk2
  have hk3 : (([c0, c1, c2, c3, c4] : List Int).getD (Int.toNat 3) 0).fmod 12 = (k3 : Int) := hk3
  k_steps
  rename Fr _ _ _ _ => F2
  rename News _ _ _ _ => N2
  rw [hk2, hk3] at F2
  rw [hk2, hk3] at N2
  rw [hk2]
  refine stop_out (use_claim rfl (c_told lw e2 a b 0 ta' tb tz hb.1.1 hb.1.2 hb.2.1 hb.2.2 (k2 + 1) (by omega) (by omega) _ _ (.tail _ (.tail _ (.head _)))) Bl F2 X N2 T rfl (by decide) (by decide) ?_)
  rintro v3 h3 tk3 news3 F3 N3 ⟨u3, rfl, rfl⟩
  rw [Nat.add_sub_cancel]
  k_steps
  refine stop_out (use_claim rfl (c_told lw e2 a b 0 ta' tb tz hb.1.1 hb.1.2 hb.2.1 hb.2.2 (k3 + 1) (by omega) (by omega) _ _ (.tail _ (.tail _ (.head _)))) Bl F3 X N3 T rfl (by decide) (by decide) ?_)
  rintro v4 h4 tk4 news4 F4 N4 ⟨u4, rfl, rfl⟩
  rw [Nat.add_sub_cancel]
  iterate 6 (first | walk1 | (dsimp only; walk1))
  rename Fr _ _ _ _ => F5
  rename News _ _ _ _ => N5
  exact hn _ _ _ _ F5 (cb_drop N5 fun p hp => .tail _ (.tail _ (.tail _ hp)))
end
section
variable {w : World} {mean : ExcName → Option Value} {mg mb : Str → Option Value}
theorem log2_300 {x : Nat} (h : x < 2 ^ 300) : x.log2 < 9000 := by
  by_cases h0 : x = 0
  · subst h0; decide
  · exact (Nat.log2_lt h0).mpr (Nat.lt_of_lt_of_le h (Nat.pow_le_pow_right (by decide) (by decide)))
theorem tabs_ne {lc lw : Nat} {o o' : Obj} (h1 : 30 < lc ∧ 37 < lc) (h2 : lc < lw) : ∀ p ∈ [(lw, o), (lc, o')], p.1 ≠ 30 ∧ p.1 ≠ 37 := by
  intro p hp
  rcases List.mem_cons.mp hp with rfl | hp
  · exact ⟨neN (a := lw) (b := 30) (by omega), neN (a := lw) (b := 37) (by omega)⟩
  · obtain rfl := List.mem_singleton.mp hp
    exact ⟨neN (a := lc) (b := 30) (by omega), neN (a := lc) (b := 37) (by omega)⟩
theorem p5_in {t1 t2 a b : Addr × Obj} : ∀ p ∈ t1 :: t2 :: [a, b], p ∈ a :: b :: t1 :: [t2] := by
  intro p hp
  simp only [List.mem_cons] at hp ⊢
  rcases hp with h | h | h | h <;> simp_all
/-- the two tables and all the rest of the ledger -/
noncomputable def GoodL (own : List (Addr × Obj)) (p1 p2 : Array Value) : Prop := TabOk p1 32 4 qual1 own ∧ TabOk p2 47 4 qual2 own ∧ ∀ p ∈ own, p.1 ≠ 30 ∧ p.1 ≠ 37
theorem GoodL.step {own own' : List (Addr × Obj)} {p1 p2 p1' p2' : Array Value} (h : GoodL own p1 p2) (t : Tabs own p1' p2' own') : GoodL (own' ++ own) p1' p2' := by
  refine ⟨t.1, t.2.1, fun p hp => ?_⟩
  rcases List.mem_append.mp hp with hp | hp
  · exact ⟨(t.2.2 p hp).1, (t.2.2 p hp).2.1⟩
  · exact h.2.2 p hp
noncomputable abbrev lm9 (sl lc lw c k2 k3 r : Nat) (a v1 v2 : Int) (ts ta t1 t2 um un : Tok) : Str → Option Value := fun y => if y = Str.ofString "answer" then some (.ref r) else lm8 sl lc lw c k2 k3 a v1 v2 ts ta t1 t2 um un y
set_option maxHeartbeats 1000000 in
theorem law_5 (sl : Nat) {g h₁ : Heap} {L fa : Nat} {cd : Value} {s : Shared} {tk : Nat} {qk : Flow → Shared → Prop} {ek : Value → Shared → Prop} {lc lw c k2 k3 : Nat} {c0 c1 c2 c3 c4 a b v1 v2 : Int} {t0 t1 t2 t3 t4 ts ta ta' tb tz tv tv' um un : Tok} {e1 e2 : Nat}
    (h1 : 30 < lc ∧ 37 < lc) (h2 : lc < lw) (hv1 : v1 ≠ 0) (hb1 : v1.natAbs < 2 ^ 300) (hb2 : v2.natAbs < 2 ^ 300)
    (hd : decide (v2.fmod v1 = 0) = (((k3 : Int) + 1).fmod ((k2 : Int) + 1) == 0))
    (Bl : Below callerA g [] g) (X : (K w.params).In g) (T : Top TP TL mean mg mb g)
    (F : Fr g L h₁ (lm8 sl lc lw c k2 k3 a v1 v2 ts ta tv tv' um un)) (N : News g L h₁ (led lc lw c0 c1 c2 c3 c4 a b t0 t1 t2 t3 t4 ta' tb tz e1 e2 tabs0))
    (hn : ∀ (h' : Heap) (tk' r : Nat) (p1 p2 : Array Value) (own : List (Addr × Obj)), GoodL own p1 p2 → (lw, listO [.int a ta', .int b tb, .int 0 tz] e2) ∈ own → Fr g L h' (lm9 sl lc lw c k2 k3 r a v1 v2 ts ta tv tv' um un) → News g L h' ((30, tabObj p1) :: (37, tabObj p2) :: own) →
      wpAny (model PR w) (callerA.deeper (lawE L fa cd)) (execs ((bdAt 72).drop 10) (lawE L fa cd)) qk ek { s with heap := h', toks := tk' }) :
    wpAny (model PR w) (callerA.deeper (lawE L fa cd)) (execs ((bdAt 72).drop 8) (lawE L fa cd)) qk ek { s with heap := h₁, toks := tk } := by
  have hnp : Builtin.divisionGoesByPylong v2 v1 = false := PyProof.noPylong_of_log2 (log2_300 hb1)
  have hbb1 := Hid.mk hb1
  have hbb2 := Hid.mk hb2
  clear hb1 hb2
  k_steps
  refine stop_out (use_claim rfl (c_divmod #[] #[] _ v2 v1 tv' tv hv1 hbb2.out hbb1.out (fun p hp => (tabs_ne h1 h2 p hp).1) (fun p hp => (tabs_ne h1 h2 p hp).2) (.inl rfl) (.inl rfl)) Bl (by assumption) X (cb_drop (by assumption) p5_in) T rfl (by decide) (by decide) ?_)
  rintro v3 h3 tk3 news3 F3 N3 ⟨r3, s1, s2, o1, o2, own3, rfl, rfl, H1, H2, H3, H4, H5, H6⟩
  k_steps
  rename Fr _ _ _ _ => F4
  rename News _ _ _ _ => N4
  refine stop_out (use_claim rfl (c_iseof _ _ _) Bl F4 X N4 T rfl (by decide) (by decide) ?_)
  rintro v5 h5 tk5 news5 F5 N5 ⟨rfl, rfl⟩
  rw [hd]
  iterate 7 (first | walk1 | (dsimp only; walk1))
  generalize (((k3 : Int) + 1).fmod ((k2 : Int) + 1) == 0) = bb
  iterate 1 (first | walk1 | (dsimp only; walk1))
  rw [bne_self_eq_false]
  iterate 6 (first | walk1 | (dsimp only; walk1))
  refine hn _ _ r3 o1 o2 _ ⟨tab_up H1 (.inl rfl), tab_up H2 (.inl rfl), fun p hp => ?_⟩ (List.mem_append_right _ (.head _)) F5 (cb_drop N5 fun p hp => .tail _ (.tail _ hp))
  rcases List.mem_append.mp hp with hp | hp
  · exact ⟨(H3 p hp).1, (H3 p hp).2.1⟩
  · exact tabs_ne h1 h2 p hp
end
section
variable {w : World} {mean : ExcName → Option Value} {mg mb : Str → Option Value}
set_option maxHeartbeats 1000000 in
theorem law_6 (sl : Nat) {g h₁ : Heap} {L fa : Nat} {cd : Value} {s : Shared} {tk : Nat} {qk : Flow → Shared → Prop} {ek : Value → Shared → Prop} {lc lw c k2 k3 r : Nat} {a b v1 v2 : Int} {A B : Nat} {ts ta ta' tb tz tv tv' um un : Tok} {e2 : Nat} {p1 p2 : Array Value} {own : List (Addr × Obj)}
    (hW : Worth a b A B) (hl2 : k2 ≤ 11) (hb1 : v1.natAbs < 2 ^ 300) (hb2 : v2.natAbs < 2 ^ 300)
    (hg1 : (eu v1 v2 200).1 = (told a b (Int.gcd ((k2 : Int) + 1) ((k3 : Int) + 1) - 1)).2) (hg2 : (eu (-v1) v2 200).1 = (told a b (Int.gcd ((k2 : Int) + 1) ((k3 : Int) + 1) - 1)).2) (hg3 : (eu v1 (-v2) 200).1 = -(told a b (Int.gcd ((k2 : Int) + 1) ((k3 : Int) + 1) - 1)).2)
    (hG : GoodL own p1 p2) (hm : (lw, listO [.int a ta', .int b tb, .int 0 tz] e2) ∈ own)
    (Bl : Below callerA g [] g) (X : (K w.params).In g) (T : Top TP TL mean mg mb g)
    (F : Fr g L h₁ (lm9 sl lc lw c k2 k3 r a v1 v2 ts ta tv tv' um un)) (N : News g L h₁ ((30, tabObj p1) :: (37, tabObj p2) :: own))
    (hn : ∀ (h' : Heap) (tk' : Nat) (m' : Str → Option Value) (news : List (Addr × Obj)) (q1 q2 : Array Value), Fr g L h' m' → News g L h' news → (30, tabObj q1) ∈ news → (37, tabObj q2) ∈ news → qk (.ret (.bool true)) { s with heap := h', toks := tk' }) :
    wpAny (model PR w) (callerA.deeper (lawE L fa cd)) (execs ((bdAt 72).drop 10) (lawE L fa cd)) qk ek { s with heap := h₁, toks := tk } := by
  have hbb1 := Hid.mk hb1
  have hbb2 := Hid.mk hb2
  clear hb1 hb2
  have hb := hW.b
  have hgd1 : 1 ≤ Int.gcd ((k2 : Int) + 1) ((k3 : Int) + 1) := Int.gcd_pos_of_ne_zero_left _ (by omega)
  have hgd2 : Int.gcd ((k2 : Int) + 1) ((k3 : Int) + 1) ≤ 100 := Nat.le_trans (Nat.le_of_dvd (by omega) (Int.gcd_dvd_natAbs_left ..)) (by omega)
  k_steps
  refine stop_out (use_claim rfl (c_common2 _ _ _ _ (by omega) (by omega) _) Bl (by assumption) X (by assumption) T rfl (by decide) (by decide) ?_)
  rintro v3 h3 tk3 news3 F3 N3 ⟨u3, rfl, rfl⟩
  generalize Int.gcd ((k2 : Int) + 1) ((k3 : Int) + 1) = G at hgd1 hgd2 hg1 hg2 hg3
  k_steps
  refine stop_out (use_claim rfl (c_told lw e2 a b 0 ta' tb tz hb.1.1 hb.1.2 hb.2.1 hb.2.2 G hgd1 hgd2 _ _ (.tail _ (.tail _ hm))) Bl F3 X N3 T rfl (by decide) (by decide) ?_)
  rintro v4 h4 tk4 news4 F4 N4 ⟨u4, rfl, rfl⟩
  generalize (told a b (G - 1)).2 = TD at hg1 hg2 hg3
  k_steps
  rename Fr _ _ _ _ => F5
  rename News _ _ _ _ => N5
  refine stop_out (use_claim rfl (c_measure2 v1 v2 tv tv' hbb1.out hbb2.out p1 p2 own (fun p hp => (hG.2.2 p hp).1) (fun p hp => (hG.2.2 p hp).2) hG.1 hG.2.1) Bl F5 X N5 T rfl (by decide) (by decide) ?_)
  rintro v6 h6 tk6 news6 F6 N6 ⟨u6, q1, q2, own6, rfl, rfl, hT6⟩
  have hG6 := hG.step hT6
  rw [hg1]
  clear hT6
  generalize own6 ++ own = own7 at N6 hG6
  k_steps
  rename Fr _ _ _ _ => F7
  rename News _ _ _ _ => N7
  refine stop_out (use_claim rfl (c_measure2 (-v1) v2 _ tv' (by rw [Int.natAbs_neg]; exact hbb1.out) hbb2.out q1 q2 own7 (fun p hp => (hG6.2.2 p hp).1) (fun p hp => (hG6.2.2 p hp).2) hG6.1 hG6.2.1) Bl F7 X N7 T rfl (by decide) (by decide) ?_)
  rintro v8 h8 tk8 news8 F8 N8 ⟨u8, q3, q4, own8, rfl, rfl, hT8⟩
  have hG8 := hG6.step hT8
  rw [hg2]
  clear hT8
  generalize own8 ++ own7 = own9 at N8 hG8
  k_steps
  rename Fr _ _ _ _ => F9
  rename News _ _ _ _ => N9
  refine stop_out (use_claim rfl (c_measure2 v1 (-v2) tv _ hbb1.out (by rw [Int.natAbs_neg]; exact hbb2.out) q3 q4 own9 (fun p hp => (hG8.2.2 p hp).1) (fun p hp => (hG8.2.2 p hp).2) hG8.1 hG8.2.1) Bl F9 X N9 T rfl (by decide) (by decide) ?_)
  rintro v10 h10 tk10 news10 F10 N10 ⟨u10, q5, q6, own10, rfl, rfl, hT10⟩
  rw [hg3]
  clear hT10
  generalize own10 ++ own9 = own11 at N10
  k_steps
  rename Fr _ _ _ _ => F11
  rename News _ _ _ _ => N11
  exact hn _ _ _ _ q5 q6 F11 N11 (.tail _ (.tail _ (.head _))) (.tail _ (.tail _ (.tail _ (.head _))))
end
end
theorem rst11 : True := by first | walk1 | trivial
end
theorem rst12 : True := by first | walk1 | trivial
section
variable {w : World} {mean : ExcName → Option Value} {mg mb : Str → Option Value}
theorem told_two {a b : Int} {A B : Nat} (h : Worth a b A B) (k : Nat) : (told a b k).2 = (luc A B (k + 1) : Int) := by
  obtain ⟨rfl, rfl, _⟩ := h
  rw [told_luc]
theorem luc_pos {A B : Nat} (h : 2 ≤ A) (k : Nat) : 0 < luc A B (k + 1) := Nat.lt_of_le_of_lt (Nat.zero_le _) (luc_lt h k)
theorem luc_300 {A B : Nat} (ha : A ≤ 1100) (hb : B ≤ 100000) {k : Nat} (hk : k ≤ 11) : luc A B (k + 1) < 2 ^ 300 := by
  have h1 := (luc_le ha hb k).1
  have h2 : 2048 ^ k ≤ 2048 ^ 11 := Nat.pow_le_pow_right (by decide) hk
  have h3 : (2048 : Nat) ^ 11 < 2 ^ 300 := by decide
  exact Nat.lt_of_le_of_lt (Nat.le_trans h1 h2) h3
theorem fmod_dvd {m n : Nat} : (((n : Int)).fmod (m : Int) = 0) ↔ m ∣ n := by
  rw [Int.fmod_eq_emod_of_nonneg _ (Int.natCast_nonneg m), ← Int.natCast_emod]
  constructor
  · intro h
    exact Nat.dvd_of_mod_eq_zero (by omega)
  · intro h
    rw [Nat.mod_eq_zero_of_dvd h]; rfl
theorem gcd_cast (m n : Nat) : Int.gcd ((m : Int) + 1) ((n : Int) + 1) = Nat.gcd (m + 1) (n + 1) := rfl
theorem law_facts {a b : Int} {A B k2 k3 : Nat} (h : Worth a b A B) (h2 : k2 ≤ 11) (h3 : k3 ≤ 11) :
    (told a b k2).2 ≠ 0 ∧ (told a b k2).2.natAbs < 2 ^ 300 ∧ (told a b k3).2.natAbs < 2 ^ 300 ∧
    decide ((told a b k3).2.fmod (told a b k2).2 = 0) = (((k3 : Int) + 1).fmod ((k2 : Int) + 1) == 0) ∧
    (eu (told a b k2).2 (told a b k3).2 200).1 = (told a b (Int.gcd ((k2 : Int) + 1) ((k3 : Int) + 1) - 1)).2 ∧
    (eu (-(told a b k2).2) (told a b k3).2 200).1 = (told a b (Int.gcd ((k2 : Int) + 1) ((k3 : Int) + 1) - 1)).2 ∧
    (eu (told a b k2).2 (-(told a b k3).2) 200).1 = -(told a b (Int.gcd ((k2 : Int) + 1) ((k3 : Int) + 1) - 1)).2 := by
  rw [gcd_cast, told_two h, told_two h, told_two h]
  obtain ⟨_, _, hc, hA, hA2, hB⟩ := h
  have p2 := luc_pos (B := B) hA k2
  have p3 := luc_pos (B := B) hA k3
  have hg : 1 ≤ Nat.gcd (k2 + 1) (k3 + 1) := Nat.gcd_pos_of_pos_left _ (Nat.succ_pos _)
  have hl := luc_gcd hc (k2 + 1) (k3 + 1)
  rw [show Nat.gcd (k2 + 1) (k3 + 1) - 1 + 1 = Nat.gcd (k2 + 1) (k3 + 1) by omega, ← hl]
  have hf : (luc A B (k3 + 1) : Int) < fib 201 := luc_fib hA2 hB (by omega) (by omega)
  have hp : (0 : Int) < luc A B (k3 + 1) := by omega
  refine ⟨by omega, luc_300 hA2 hB h2, luc_300 hA2 hB h3, ?_, ?_, ?_, ?_⟩
  · have e : ((luc A B (k3 + 1) : Int).fmod (luc A B (k2 + 1)) = 0) ↔ (((k3 : Int) + 1).fmod ((k2 : Int) + 1) = 0) := by
      rw [fmod_dvd, luc_dvd hc hA]
      exact (fmod_dvd (m := k2 + 1) (n := k3 + 1)).symm
    rw [Bool.eq_iff_iff, decide_eq_true_iff, e]
    exact beq_iff_eq.symm
  · exact eu_gcd hp hf
  · rw [eu_gcd hp hf, Int.neg_gcd]; rfl
  · exact eu_gcd_neg hp hf
set_option maxHeartbeats 1000000 in
theorem law_all (sl : Nat) (sv : List Value) (ns : List Int) (hI : IntsAre sv ns) (hlen : ns.length ≤ 63) {g h₁ : Heap} {L fa : Nat} {cd : Value} {s : Shared} {tk : Nat} {qk : Flow → Shared → Prop} {ek : Value → Shared → Prop}
    (hL : g.IsList sl sv.toArray) (B : Below callerA g [] g) (X : (K w.params).In g) (T : Top TP TL mean mg mb g) (l0 : 30 < L ∧ 37 < L)
    (F : Fr g L h₁ (lawM sl)) (N : News g L h₁ tabs0)
    (hret : ∀ (h' : Heap) (tk' : Nat) (m' : Str → Option Value) (news : List (Addr × Obj)) (q1 q2 : Array Value), Fr g L h' m' → News g L h' news → (30, tabObj q1) ∈ news → (37, tabObj q2) ∈ news → qk (.ret (.bool true)) { s with heap := h', toks := tk' }) :
    wpAny (model PR w) (callerA.deeper (lawE L fa cd)) (execs (bdAt 72) (lawE L fa cd)) qk ek { s with heap := h₁, toks := tk } := by
  refine law_1 sl sv ns hI hlen hL B X T l0 F N ?_
  intro h2 tk2 lc lw c c0 c1 c2 c3 c4 a b A B' t0 t1 t2 t3 t4 ts ta ta' tb tz e1 e2 hc hc2 hc3 hc4 hW hlc hlw F2 N2
  have hm0 : 0 ≤ c2.fmod 12 := Int.fmod_nonneg_of_pos _ (by decide)
  have hm1 : c2.fmod 12 < 12 := Int.fmod_lt_of_pos _ (by decide)
  have hm2 : 0 ≤ c3.fmod 12 := Int.fmod_nonneg_of_pos _ (by decide)
  have hm3 : c3.fmod 12 < 12 := Int.fmod_lt_of_pos _ (by decide)
  have hk2 : c2.fmod 12 = ((c2.fmod 12).toNat : Int) := by omega
  have hk3 : c3.fmod 12 = ((c3.fmod 12).toNat : Int) := by omega
  have hl2 : (c2.fmod 12).toNat ≤ 11 := by omega
  have hl3 : (c3.fmod 12).toNat ≤ 11 := by omega
  have hf := law_facts hW hl2 hl3
  refine law_2 sl hc hc4 hW B X T F2 N2 ?_
  intro h3 tk3 u3 F3 N3
  refine law_3 sl hc hc4 hW B X T F3 N3 ?_
  intro h4 tk4 u4 F4 N4
  refine law_4 sl hW hk2 hk3 hl2 hl3 B X T F4 N4 ?_
  intro h5 tk5 um un F5 N5
  refine law_5 sl hlc hlw hf.1 hf.2.1 hf.2.2.1 hf.2.2.2.1 B X T F5 N5 ?_
  intro h6 tk6 r p1 p2 own hG hm F6 N6
  exact law_6 sl hW hl2 hf.2.1 hf.2.2.1 hf.2.2.2.2.1 hf.2.2.2.2.2.1 hf.2.2.2.2.2.2 hG hm B X T F6 N6 hret
end
end M
end
open PySem PySem.W PyProof.Rows PySem.Calls
open PySem.Flt (Hid)
namespace M
theorem ws : OpenLaw.wellSaid PySem.Challenge.rw_rl0133_02 = true := by
  unfold OpenLaw.wellSaid OpenRow.wellSaid OpenRow.partSaid looksOpen
  rw [PySem.W.Fast.named_eq, PySem.W.Fast.te8377067652309620493, PySem.W.Fast.te8326940854005059898, PySem.W.Fast.te17119622794617984870]
  repeat' (with_reducible refine look_both ?_ ?_)
  all_goals decide +kernel
end M
set_option maxHeartbeats 8000000 in
theorem PySem.Challenge.cw_rl0133_02_holds : PySem.Challenge.rw_rl0133_02.Holds := by
  w_on; refine holds_law M.ws fun said => ?_; refine holds_open (q := M.q) (loose := M.loose) (Xt := M.Xt) (XP := XL M.q []) (Yf := Hook.obs M.H) (Ya := Hook.val M.H) (YP := Hook.says M.H) (N := 20000) ?hl (Hook.of M.H) (Hook.keeps M.H) (fun s e => xl_of s (Bool.and_eq_true_iff.mp e).1) XL.keeps (by rfl) (by rfl) (by rfl) (fun s e => recFacts_of (Bool.and_eq_true_iff.mp e).2) (by rfl) (by first | assumption | decide +kernel) (by decide +kernel) ⟨rfl, rfl, rfl, rfl, rfl, by decide +kernel⟩ ?hw ?hc
  case hl => exact M.left
  case hw => w_witness2
  case hc =>
    k_go0
    rename IntsAre _ _ => hI
    rename Fr _ _ _ _ => F
    rename News _ _ _ _ => N
    rename Below _ _ _ _ => B
    rename Frag.In _ _ => X
    rename Top _ _ _ _ _ _ => T
    refine M.law_all _ _ _ hI (by omega) lifted B X T (by assumption) F N ?_
    intro h' tk' m' news' q1 q2 F' N' n1 n2
    refine ⟨?_, GrownAt.of N' n1, GrownAt.of N' n2, True.intro⟩
    dsimp only
    k_steps
