import PyProof.Rows.All
import Wide.All
import OpenK.AllK
import Wide.FinOn
import PySem.Challenge.RW_rl0124_01
set_option Elab.async false
local macro_rules | `(tactic| walk_at $s:str) => `(tactic| k_extra $s)
section -- HDict
open PySem PySem.W PyProof.Rows
set_option maxRecDepth 100000
namespace Mine
section
variable {tb : String → Option Builtin} {p : Program} {w : World} {n₀ : Nat} {ann : Option Value}

theorem topGo_add : ∀ {n m : Nat} {s s' : Shared} {t t' : Thread} {r : Shared × Thread}, topGo tb p w n₀ ann n s t = some (s', t') → topGo tb p w n₀ ann m s' t' = some r → topGo tb p w n₀ ann (n + m) s t = some r
  | 0, m, s, s', t, t', r, h, k => by
    obtain ⟨rfl, rfl⟩ : s = s' ∧ t = t' := by simpa [topGo] using h
    rw [Nat.zero_add]; exact k
  | n + 1, m, s, s', t, t', r, h, k => by
    rw [show n + 1 + m = n + m + 1 by omega]
    unfold topGo at h ⊢
    cases ht : through t with
    | true => rw [ht] at h; cases h
    | false =>
      rw [ht] at h
      cases hk : stepOk n₀ ann t with
      | false => rw [hk] at h; cases h
      | true =>
        rw [hk] at h
        cases hs : step (denote tb) p w s t with
        | halt o s₂ => rw [hs] at h; cases h
        | go s₂ t₂ => rw [hs] at h; exact topGo_add h k

/-- the tree m goes, in at most k steps that the top lets by, from s to s', and gives a -/
noncomputable def Gos (tb : String → Option Builtin) (p : Program) (w : World) (n₀ : Nat) (ann : Option Value) {α : Type} (k : Nat) (m : Sem α) (s : Shared) (a : α) (s' : Shared) : Prop :=
  ∀ (K : α → Sem Fin) (H : Value → Sem Fin) (gd : Bool → Bool) (lv : List Value → List Value) (c : Code) (pos : Pos) (f : Frame) (B : List Frame),
    ∃ n pos', n ≤ k ∧ topGo tb p w n₀ ann n s ⟨m.wrap K H gd lv, c, pos, f :: B⟩ = some (s', ⟨K a, c, pos', f :: B⟩)

variable {α β : Type} {m : Sem α} {s s' s'' : Shared} {a : α} {k k' : Nat}
theorem gos_pure : Gos tb p w n₀ ann 0 (Pure.pure a : Sem α) s a s := fun _ _ _ _ _ pos _ _ => ⟨0, pos, Nat.le_refl _, rfl⟩
theorem gos_le (h : Gos tb p w n₀ ann k m s a s') (hk : k ≤ k') : Gos tb p w n₀ ann k' m s a s' := fun K H gd lv c pos f B => by
  obtain ⟨n, q, h1, h2⟩ := h K H gd lv c pos f B
  exact ⟨n, q, Nat.le_trans h1 hk, h2⟩
theorem gos_bind {f : α → Sem β} {b : β} (h : Gos tb p w n₀ ann k m s a s') (g : Gos tb p w n₀ ann k' (f a) s' b s'') : Gos tb p w n₀ ann (k + k') (m >>= f) s b s'' := fun K H gd lv c pos fr B => by
  obtain ⟨n, q, h1, h2⟩ := h (fun x => (f x).wrap K H gd lv) (fun e => H e) gd lv c pos fr B
  obtain ⟨n', q', g1, g2⟩ := g K H gd lv c q fr B
  refine ⟨n + n', q', Nat.add_le_add h1 g1, ?_⟩
  rw [Sem.bind_eq_wrap', Sem.wrap_wrap]
  exact topGo_add h2 g2
theorem gos_keep {vs : List Value} (h : Gos tb p w n₀ ann k m s a s') : Gos tb p w n₀ ann k (m.keep vs) s a s' := fun K H gd lv c pos fr B => by
  obtain ⟨n, q, h1, h2⟩ := h K (fun e => H e) gd (fun l => lv (vs ++ l)) c pos fr B
  refine ⟨n, q, h1, ?_⟩
  rw [Sem.keep_eq_wrap, Sem.wrap_wrap]
  exact h2
theorem gos_holding {vs : List Value} (h : Gos tb p w n₀ ann k m s a s') : Gos tb p w n₀ ann k (holding vs m) s a s' := by
  unfold PySem.holding
  split
  · exact h
  · exact gos_keep h
theorem gos_onRaise {hd : Value → Sem Unit} (h : Gos tb p w n₀ ann k m s a s') : Gos tb p w n₀ ann k (m.onRaise hd) s a s' := fun K H gd lv c pos fr B => by
  obtain ⟨n, q, h1, h2⟩ := h K (fun e => ((hd e).bind fun _ => (.raise e : Sem α)).wrap K H gd lv) gd lv c pos fr B
  refine ⟨n, q, h1, ?_⟩
  rw [Sem.onRaise_eq_wrap, Sem.wrap_wrap]
  exact h2
theorem gos_rule {t : String} : Gos tb p w n₀ ann 1 (PySem.rule t) s () s := fun _ _ _ _ _ pos _ _ => ⟨1, pos, Nat.le_refl _, rfl⟩
theorem gos_point : Gos tb p w n₀ ann 1 PySem.point s () s := fun _ _ _ _ _ pos _ _ => ⟨1, pos, Nat.le_refl _, rfl⟩
theorem gos_standAt {q : Pos} : Gos tb p w n₀ ann 1 (PySem.standAt q) s () s := fun _ _ _ _ _ _ _ _ => ⟨1, q, Nat.le_refl _, rfl⟩
theorem gos_fresh : Gos tb p w n₀ ann 1 PySem.fresh s s.toks { s with toks := s.toks + 1 } := fun _ _ _ _ _ pos _ _ => ⟨1, pos, Nat.le_refl _, rfl⟩
theorem gos_ask : Gos tb p w n₀ ann 1 PySem.ask s ⟨p, w.params⟩ s := fun _ _ _ _ _ pos _ _ => ⟨1, pos, Nat.le_refl _, rfl⟩
theorem gos_alloc {o : Obj} : Gos tb p w n₀ ann 1 (PySem.alloc o) s s.heap.objs.size { s with heap := s.heap.push o } := fun _ _ _ _ _ pos _ _ => ⟨1, pos, Nat.le_refl _, rfl⟩
theorem gos_load {x : Addr} {part : Option Value} {o : Obj} (ho : s.heap.get? x = some o) : Gos tb p w n₀ ann 1 (.load x part .pure) s o s := fun K H gd lv c pos f B => by
  refine ⟨1, pos, Nat.le_refl _, ?_⟩
  show (match step (denote tb) p w s ⟨.load x part fun y => K y, c, pos, f :: B⟩ with | .go s' t' => topGo tb p w n₀ ann 0 s' t' | .halt _ _ => none) = _
  simp only [step, ho, topGo]
theorem gos_update {x : Addr} {part : Option Value} {o : Obj} {g : Obj → Obj} (ho : s.heap.get? x = some o) (hx : n₀ ≤ x) : Gos tb p w n₀ ann 1 (.update x part g .pure) s () { s with heap := s.heap.update x g } := fun K H gd lv c pos f B => by
  refine ⟨1, pos, Nat.le_refl _, ?_⟩
  have hk : stepOk n₀ ann ⟨.update x part g fun y => K y, c, pos, f :: B⟩ = true := by
    show (true && (Nat.ble n₀ x || x == mainNs || x == cStatics || ann == some (.ref x))) = true
    rw [Nat.ble_eq_true_of_le hx]; rfl
  show (match stepOk n₀ ann ⟨.update x part g fun y => K y, c, pos, f :: B⟩ with
    | false => none
    | true => match step (denote tb) p w s ⟨.update x part g fun y => K y, c, pos, f :: B⟩ with | .go s' t' => topGo tb p w n₀ ann 0 s' t' | .halt _ _ => none) = _
  rw [hk]
  simp only [step, ho, topGo, Option.isSome_some, if_true]
end
end Mine
end
section -- HDict2
open PySem PySem.W PyProof.Rows
set_option maxRecDepth 100000
namespace Mine
noncomputable def dObj (es : List DictEntry) (n : Nat) : Obj := ⟨.type "dict", none, .dict es.toArray n, #[]⟩
noncomputable def hOf (C : List Obj) (x : Obj) (T : List Obj) (lf : Life) : Heap := ⟨(C ++ x :: T).toArray, lf⟩
theorem modify_mid (x : Obj) (T : List Obj) (f : Obj → Obj) : ∀ C : List Obj, (C ++ x :: T).modify C.length f = C ++ f x :: T
  | [] => rfl
  | c :: C => by
    show (c :: (C ++ x :: T)).modify (C.length + 1) f = c :: (C ++ f x :: T)
    rw [List.modify_succ_cons, modify_mid x T f C]
theorem hOf_update (C : List Obj) (x : Obj) (T : List Obj) (lf : Life) (f : Obj → Obj) : (hOf C x T lf).update C.length f = hOf C (f x) T lf := by
  unfold hOf Heap.update
  simp only [Heap.mk.injEq, and_true]
  rw [List.modify_toArray, modify_mid]
theorem hOf_get (C : List Obj) (es : List DictEntry) (n : Nat) (T : List Obj) (lf : Life) : (hOf C (dObj es n) T lf).get? C.length = some (dObj es n) := by
  unfold hOf Heap.get?
  simp [dObj]
theorem hOf_push (C : List Obj) (x : Obj) (T : List Obj) (lf : Life) (o : Obj) : (hOf C x T lf).push o = hOf C x (T ++ [o]) lf := by
  unfold hOf Heap.push
  simp
theorem hOf_size (C : List Obj) (x : Obj) (T : List Obj) (lf : Life) : (hOf C x T lf).objs.size = C.length + 1 + T.length := by
  unfold hOf
  simp; omega
theorem hOf_move (C : List Obj) (x y : Obj) (T : List Obj) (lf : Life) : hOf C x (T ++ [y]) lf = hOf (C ++ x :: T) y [] lf := by
  unfold hOf
  simp
section
variable {p : Program} {w : World} {n₀ : Nat} {ann : Option Value} {s s' : Shared}

theorem hash_go {p : Program} {n₀ : Nat} {ann : Option Value} (i : Int) (t : Tok) (s : Shared) (K : Int → Sem Fin) (H : Value → Sem Fin) (gd lv c pos f B) (w : World) :
   topGo treeTable p w n₀ ann 5 s ⟨(pyHash (.int i t)).wrap K H gd lv, c, pos, f :: B⟩ = some ({ s with toks := s.toks + 1 }, ⟨(pyHashByItsType.reduced (rawHash i)).wrap K H gd lv, c, pos, f :: B⟩) := by
  refine byRow2 (P := fun w => topGo treeTable p w n₀ ann 5 s ⟨(pyHash (.int i t)).wrap K H gd lv, c, pos, f :: B⟩ = some ({ s with toks := s.toks + 1 }, ⟨(pyHashByItsType.reduced (rawHash i)).wrap K H gd lv, c, pos, f :: B⟩)) "special-get-raises" ?_ ?_ w <;> intro w <;> kernel_rfl
theorem rawHash_small {i : Int} (h0 : 0 ≤ i) (h1 : i < 2 ^ 60) : rawHash i = i := by
  unfold rawHash
  have e : ((i.natAbs : Int) % ((2 ^ 61 - 1 : Nat) : Int)) = i := by
    have : ((2 ^ 61 - 1 : Nat) : Int) = 2305843009213693951 := by decide
    rw [this]; omega
  have h2 : ¬ i < 0 := by omega
  have h3 : (i == -1) = false := by simp; omega
  simp only [e, h2, if_false, h3]
  rfl
theorem gos_hash {i : Int} {t : Tok} (h0 : 0 ≤ i) (h1 : i < 2 ^ 60) : Gos treeTable p w n₀ ann 5 (pyHash (.int i t)) s i { s with toks := s.toks + 1 } := fun K H gd lv c pos f B => by
  refine ⟨5, pos, Nat.le_refl _, ?_⟩
  rw [hash_go, rawHash_small h0 h1]
  have e : pyHashByItsType.reduced i = Sem.pure i := by
    unfold pyHashByItsType.reduced
    have a : (decide (-(2 ^ 63 : Int) ≤ i) && decide (i < 2 ^ 63)) = true := by
      have := h1; simp; omega
    have b : (i == -1) = false := by simp; omega
    simp only [a, b, if_true]
    rfl
  rw [e]; rfl
theorem gos_entries {d : Addr} {part : Option Value} {es : List DictEntry} {n : Nat} (h : s.heap.get? d = some (dObj es n)) : Gos treeTable p w n₀ ann 1 (dictEntries d part) s es.toArray s := by
  unfold dictEntries
  exact gos_bind (k := 1) (k' := 0) (gos_load h) gos_pure
theorem gos_epoch {d : Addr} {part : Option Value} {es : List DictEntry} {n : Nat} (h : s.heap.get? d = some (dObj es n)) : Gos treeTable p w n₀ ann 1 (dictEpoch d part) s n s := by
  unfold dictEpoch
  exact gos_bind (k := 1) (k' := 0) (gos_load h) gos_pure
theorem places_nil {es : List DictEntry} {i : Int} (h : ∀ e ∈ es, e.hash ≠ i) : placesWithHash es.toArray.size (fun j => es.toArray[j]?.map (·.hash)) i = [] := by
  unfold placesWithHash
  rw [List.filter_eq_nil_iff]
  intro j hj
  simp only [List.getElem?_toArray, beq_iff_eq]
  intro e
  rw [Option.map_eq_some_iff] at e
  obtain ⟨x, hx, hh⟩ := e
  exact h x (List.mem_of_getElem? hx) hh
theorem gos_find {d : Addr} {i : Int} {t : Tok} {es : List DictEntry} {n : Nat} (h : s.heap.get? d = some (dObj es n)) (hn : ∀ e ∈ es, e.hash ≠ i) : Gos treeTable p w n₀ ann 1 (dictFind d (.int i t) i) s none s := by
  unfold dictFind
  refine gos_holding (gos_bind (k := 1) (k' := 0) (gos_entries h) ?_)
  dsimp only
  rw [places_nil hn]
  exact gos_pure
theorem gos_putKeys {C T : List Obj} {lf : Life} {part : Option Value} {es : List DictEntry} {n : Nat} {e : DictEntry} {s : Shared} (hh : s.heap = hOf C (dObj es n) T lf) (hC : n₀ ≤ C.length) (hs : es.length ≤ 100000) :
    Gos treeTable p w n₀ ann 3 (updateDictKeys C.length (·.push e) part) s () { s with heap := hOf C (dObj (es ++ [e]) (n + 1)) T lf } := by
  unfold updateDictKeys
  have g : s.heap.get? C.length = some (dObj es n) := by rw [hh]; exact hOf_get ..
  refine gos_bind (k := 1) (k' := 2) (gos_load g) ?_
  have u : ({ s with heap := s.heap.update C.length (Obj.mapDictKeys (·.push e)) } : Shared) = { s with heap := hOf C (dObj (es ++ [e]) (n + 1)) T lf } := by
    rw [hh, hOf_update]
    simp [dObj, Obj.mapDictKeys]
  refine gos_bind (k := 1) (k' := 1) (s' := { s with heap := hOf C (dObj (es ++ [e]) (n + 1)) T lf }) (a := ()) (u ▸ gos_update g hC) ?_
  unfold lookBehind
  refine gos_bind (k := 1) (k' := 0) (gos_load (hOf_get ..)) ?_
  have : (dObj (es ++ [e]) (n + 1)).data.pastItsLine = none := by
    simp only [dObj, Data.pastItsLine]
    rw [if_neg]
    simp [sizeLine]
    omega
  rw [this]
  exact gos_pure
theorem gos_set {C T : List Obj} {lf : Life} {es : List DictEntry} {n : Nat} {i : Int} {t : Tok} {v : Value} {s : Shared} (hh : s.heap = hOf C (dObj es n) T lf) (hC : n₀ ≤ C.length) (hs : es.length ≤ 100000) (h0 : 0 ≤ i) (h1 : i < 2 ^ 60) (hn : ∀ e ∈ es, e.hash ≠ i) :
    Gos treeTable p w n₀ ann 11 (dictSet C.length (.int i t) v) s () { s with heap := hOf C (dObj (es ++ [⟨i, .int i t, v⟩]) (n + 1)) T lf, toks := s.toks + 1 } := by
  unfold dictSet
  refine gos_holding (gos_bind (k := 5) (k' := 6) (gos_hash h0 h1) ?_)
  unfold dictSetHashed
  refine gos_holding (gos_bind (k := 1) (k' := 5) (gos_find (es := es) (n := n) (by show s.heap.get? _ = _; rw [hh]; exact hOf_get ..) hn) ?_)
  refine gos_bind (k := 1) (k' := 4) gos_rule ?_
  exact gos_le (gos_putKeys (s := { s with toks := s.toks + 1 }) hh hC hs) (by omega)
theorem gos_put {C T : List Obj} {lf : Life} {es : List DictEntry} {n : Nat} {i : Int} {t : Tok} {v : Value} {s : Shared} (hh : s.heap = hOf C (dObj es n) T lf) (hC : n₀ ≤ C.length) (hs : es.length ≤ 100000) (hn : ∀ e ∈ es, e.hash ≠ i) :
    Gos treeTable p w n₀ ann 4 (dictPut C.length i (.int i t) v) s () { s with heap := hOf C (dObj (es ++ [⟨i, .int i t, v⟩]) (n + 1)) T lf } := by
  unfold dictPut
  refine gos_bind (k := 1) (k' := 3) (gos_find (es := es) (n := n) (by rw [hh]; exact hOf_get ..) hn) ?_
  exact gos_putKeys hh hC hs
end
end Mine
end
section -- HDict3
open PySem PySem.W PyProof.Rows
set_option maxRecDepth 100000
namespace Mine
noncomputable def IsItem (kv : Sem Value × Sem Value) (q : Int × Str) : Prop := kv.1 = mkInt q.1 ∧ ∃ pos, kv.2 = (do let x ← mkText q.2; standAt pos; pure x)
inductive Items : List (Sem Value × Sem Value) → List (Int × Str) → Prop
  | nil : Items [] []
  | cons {kv q l r} : IsItem kv q → Items l r → Items (kv :: l) (q :: r)
theorem Items.length {l r} (h : Items l r) : l.length = r.length := by
  induction h with
  | nil => rfl
  | cons _ _ ih => simp [ih]
noncomputable def entL : Nat → List (Int × Str) → List DictEntry
  | _, [] => []
  | τ, q :: r => ⟨q.1, .int q.1 τ, .str q.2 (τ + 1)⟩ :: entL (τ + 3) r
noncomputable def Rising (lo : Int) : List (Int × Str) → Prop
  | [] => True
  | q :: r => lo < q.1 ∧ q.1 < 2 ^ 60 ∧ Rising q.1 r
noncomputable def lastOf (lo : Int) : List (Int × Str) → Int
  | [] => lo
  | q :: r => lastOf q.1 r
section
variable {p : Program} {w : World} {n₀ : Nat} {ann : Option Value} {s s' : Shared}
theorem gos_mkInt {i : Int} : Gos treeTable p w n₀ ann 1 (mkInt i) s (.int i s.toks) { s with toks := s.toks + 1 } := gos_bind (k := 1) (k' := 0) gos_fresh gos_pure
theorem gos_text {x : Str} {pos : Pos} : Gos treeTable p w n₀ ann 2 (do let x ← mkText x; standAt pos; pure x : Sem Value) s (.str x s.toks) { s with toks := s.toks + 1 } :=
  gos_bind (k := 1) (k' := 1) (gos_bind (k := 1) (k' := 0) gos_fresh gos_pure) (gos_bind (k := 1) (k' := 0) gos_standAt gos_pure)
theorem lastOf_ge {lo : Int} : ∀ {qs : List (Int × Str)}, Rising lo qs → lo ≤ lastOf lo qs
  | [], _ => Int.le_refl _
  | _ :: _, ⟨h1, _, h3⟩ => Int.le_trans (Int.le_of_lt h1) (lastOf_ge h3)
theorem entL_le {lo : Int} : ∀ {qs : List (Int × Str)} {τ : Nat}, Rising lo qs → ∀ e ∈ entL τ qs, e.hash ≤ lastOf lo qs
  | [], _, _, e, he => nomatch he
  | q :: r, τ, ⟨_, _, h3⟩, e, he => by
    rcases List.mem_cons.mp he with rfl | he
    · exact lastOf_ge h3
    · exact entL_le h3 e he
theorem entL_length : ∀ (qs : List (Int × Str)) (τ : Nat), (entL τ qs).length = qs.length
  | [], _ => rfl
  | q :: r, τ => by simp [entL, entL_length r]
theorem gos_fill {C T : List Obj} {lf : Life} (hC : n₀ ≤ C.length) {pairs : List (Sem Value × Sem Value)} {qs : List (Int × Str)} (it : Items pairs qs) : ∀ {s : Shared} {es : List DictEntry} {n : Nat} {lo : Int}, s.heap = hOf C (dObj es n) T lf →
    es.length + qs.length ≤ 100000 → 0 ≤ lo → (∀ e ∈ es, e.hash ≤ lo) → Rising lo qs →
    Gos treeTable p w n₀ ann (14 * qs.length) (forIn pairs PUnit.unit fun x _ => do
        let kv ← x.1
        let vv ← PySem.holding [kv] x.2
        PySem.holding [kv, vv] (dictSet C.length kv vv)
        pure (ForInStep.yield PUnit.unit) : Sem PUnit) s PUnit.unit { s with heap := hOf C (dObj (es ++ entL s.toks qs) (n + qs.length)) T lf, toks := s.toks + 3 * qs.length } := by
  induction it with
  | nil =>
    intro s es n lo hh hs h0 he hr
    have e : ({ s with heap := hOf C (dObj (es ++ entL s.toks []) (n + 0)) T lf, toks := s.toks + 3 * 0 } : Shared) = s := by
      simp only [entL, List.append_nil, Nat.add_zero, Nat.mul_zero]
      rw [← hh]
    show Gos _ _ _ _ _ 0 _ _ _ { s with heap := hOf C (dObj (es ++ entL s.toks []) (n + 0)) T lf, toks := s.toks + 3 * 0 }
    rw [e]
    exact gos_pure
  | @cons kv q l r hq hl ih =>
    intro s es n lo hh hs h0 he hr
    obtain ⟨k, v⟩ := kv
    obtain ⟨hk, pos, hv⟩ := hq
    dsimp only at hk hv
    subst hk hv
    obtain ⟨r1, r2, r3⟩ := hr
    rw [List.length_cons] at hs
    rw [List.forIn_cons]
    refine gos_le (k := (1 + (2 + (11 + 0))) + 14 * r.length) ?_ (by simp only [List.length_cons]; omega)
    have g1 : Gos treeTable p w n₀ ann (1 + (2 + (11 + 0))) (do
        let kv ← PySem.mkInt q.1
        let vv ← PySem.holding [kv] (do let x ← mkText q.2; standAt pos; pure x)
        PySem.holding [kv, vv] (dictSet C.length kv vv)
        pure (ForInStep.yield PUnit.unit) : Sem (ForInStep PUnit)) s (ForInStep.yield PUnit.unit) { s with heap := hOf C (dObj (es ++ [⟨q.1, .int q.1 s.toks, .str q.2 (s.toks + 1)⟩]) (n + 1)) T lf, toks := s.toks + 3 } := by
      refine gos_bind gos_mkInt (gos_bind (gos_holding gos_text) (gos_bind (gos_holding (gos_set (s := { s with toks := s.toks + 1 + 1 }) hh hC (by omega) (by omega) r2 ?_)) gos_pure))
      intro e he' hc
      have := he e he'
      omega
    refine gos_bind g1 ?_
    have := ih (s := { s with heap := hOf C (dObj (es ++ [⟨q.1, .int q.1 s.toks, .str q.2 (s.toks + 1)⟩]) (n + 1)) T lf, toks := s.toks + 3 }) (es := es ++ [⟨q.1, .int q.1 s.toks, .str q.2 (s.toks + 1)⟩]) (n := n + 1) (lo := q.1) rfl
      (by simp only [List.length_append, List.length_cons, List.length_nil]; omega) (by omega) (by
        intro e he'
        rcases List.mem_append.mp he' with h | h
        · have := he e h; omega
        · rw [List.mem_singleton] at h; subst h; exact Int.le_refl _) r3
    have e : ({ s with heap := hOf C (dObj (es ++ [⟨q.1, .int q.1 s.toks, .str q.2 (s.toks + 1)⟩] ++ entL (s.toks + 3) r) (n + 1 + r.length)) T lf, toks := s.toks + 3 + 3 * r.length } : Shared) =
        { s with heap := hOf C (dObj (es ++ entL s.toks (q :: r)) (n + (q :: r).length)) T lf, toks := s.toks + 3 * (q :: r).length } := by
      simp only [entL, List.append_assoc, List.singleton_append, List.length_cons, Shared.mk.injEq, true_and]
      refine ⟨by rw [show n + 1 + r.length = n + (r.length + 1) by omega], by omega, trivial⟩
    rw [← e]
    exact this
theorem gos_sub {B : List Obj} {lf : Life} {pairs : List (Sem Value × Sem Value)} {qs : List (Int × Str)} (it : Items pairs qs) (hC : n₀ ≤ B.length) (hl : 15 < qs.length) (hm : qs.length ≤ 1000) {lo : Int} (h0 : 0 ≤ lo) (hr : Rising lo qs) (hh : s.heap = ⟨B.toArray, lf⟩) :
    Gos treeTable p w n₀ ann (14 * qs.length + 2) (subDict pairs) s B.length { s with heap := hOf B (dObj (entL s.toks qs) qs.length) [] lf, toks := s.toks + 3 * qs.length } := by
  have e1 : ({ s with heap := s.heap.push { cls := .type "dict", data := .dict #[] } } : Shared).heap = hOf B (dObj [] 0) [] lf := by
    show s.heap.push _ = _
    rw [hh]; unfold Heap.push hOf; simp [dObj]
  have e2 : s.heap.objs.size = B.length := by rw [hh]; simp
  unfold subDict
  refine gos_le (k := 1 + ((1 + (14 * qs.length + 0)) + 0)) ?_ (by omega)
  refine gos_bind gos_alloc ?_
  rw [e2]
  have := gos_fill (p := p) (w := w) (n₀ := n₀) (ann := ann) (C := B) (T := []) (lf := lf) hC it (s := { s with heap := s.heap.push { cls := .type "dict", data := .dict #[] } }) (es := []) (n := 0) (lo := lo) e1 (by simp; omega) h0 (fun e he => nomatch he) hr
  simp only [List.nil_append, Nat.zero_add] at this
  refine gos_bind (s' := { s with heap := hOf B (dObj (entL s.toks qs) qs.length) [] lf, toks := s.toks + 3 * qs.length }) (a := PUnit.unit) (gos_holding ?_) gos_pure
  rw [if_neg (by rw [it.length]; omega)]
  exact gos_bind gos_rule (gos_bind this gos_pure)
end
end Mine
end
section -- HDict4
open PySem PySem.W PyProof.Rows
set_option maxRecDepth 100000
namespace Mine
noncomputable def RisingE (lo : Int) : List DictEntry → Prop
  | [] => True
  | e :: r => lo < e.hash ∧ (∃ t, e.key = .int e.hash t) ∧ RisingE e.hash r
theorem risingE_of {lo : Int} : ∀ {qs : List (Int × Str)} {τ : Nat}, Rising lo qs → RisingE lo (entL τ qs)
  | [], _, _ => trivial
  | _ :: _, _, ⟨h1, _, h3⟩ => ⟨h1, ⟨_, rfl⟩, risingE_of h3⟩
theorem sub_dict : isSubtype (.type "dict") (.type "dict") = Sem.pure true := by kernel_rfl
theorem iter_dict : typeLookup (.type "dict") "__iter__" = Sem.pure (some (.builtin "dict.__iter__")) := by kernel_rfl
section
variable {p : Program} {w : World} {n₀ : Nat} {ann : Option Value} {s s' : Shared}
theorem hOf_getT (C : List Obj) (x : Obj) (T : List Obj) (es : List DictEntry) (n : Nat) (lf : Life) : (hOf C x (T ++ [dObj es n]) lf).get? (C.length + 1 + T.length) = some (dObj es n) := by
  rw [hOf_move, show C.length + 1 + T.length = (C ++ x :: T).length by simp; omega]
  exact hOf_get ..
theorem gos_forRange' {f : Nat → PUnit → Sem (ForInStep PUnit)} {k : Nat} (S : Nat → Shared) : ∀ (m j : Nat), (∀ i, j ≤ i → i < j + m → Gos treeTable p w n₀ ann k (f i PUnit.unit) (S i) (.yield PUnit.unit) (S (i + 1))) →
    Gos treeTable p w n₀ ann (k * m) (forIn (List.range' j m) PUnit.unit f) (S j) PUnit.unit (S (j + m))
  | 0, j, _ => gos_pure
  | m + 1, j, h => by
    rw [List.range'_succ, List.forIn_cons]
    refine gos_le (k := k + k * m) (gos_bind (h j (Nat.le_refl _) (by omega)) ?_) (by rw [Nat.mul_succ]; omega)
    rw [show j + (m + 1) = j + 1 + m by omega]
    exact gos_forRange' S m (j + 1) fun i h1 h2 => h i (by omega) (by omega)
theorem gos_forRange {f : Nat → PUnit → Sem (ForInStep PUnit)} {k m : Nat} (S : Nat → Shared) (h : ∀ i, i < m → Gos treeTable p w n₀ ann k (f i PUnit.unit) (S i) (.yield PUnit.unit) (S (i + 1))) :
    Gos treeTable p w n₀ ann (k * m) (forIn (List.range m) PUnit.unit f) (S 0) PUnit.unit (S m) := by
  rw [List.range_eq_range']
  have := gos_forRange' (p := p) (w := w) (n₀ := n₀) (ann := ann) (f := f) (k := k) S m 0 fun i _ hi => h i (by omega)
  rw [Nat.zero_add] at this
  exact this
theorem risingE_take {lo : Int} : ∀ {ss : List DictEntry} (_ : RisingE lo ss) {j : Nat} {r : DictEntry}, ss[j]? = some r → lo < r.hash ∧ (∃ t, r.key = .int r.hash t) ∧ ∀ e ∈ ss.take j, e.hash < r.hash
  | [], _, j, r, h => by simp at h
  | e :: ss, ⟨h1, h2, h3⟩, 0, r, h => by
    simp at h; subst h; exact ⟨h1, h2, fun e he => by simp at he⟩
  | e :: ss, ⟨h1, h2, h3⟩, j + 1, r, h => by
    simp at h
    obtain ⟨a, b, c⟩ := risingE_take h3 h
    refine ⟨by omega, b, fun e' he' => ?_⟩
    rw [List.take_succ_cons] at he'
    rcases List.mem_cons.mp he' with rfl | he'
    · exact a
    · exact c e' he'
theorem gos_merge {C T : List Obj} {lf : Life} {es ss : List DictEntry} {n k : Nat} {lo : Int} (hC : n₀ ≤ C.length) (hn : sysModules < n₀) (hh : s.heap = hOf C (dObj es n) (T ++ [dObj ss k]) lf) (hs : es.length + ss.length ≤ 100000) (hne : es ≠ []) (he : ∀ e ∈ es, e.hash ≤ lo) (hr : RisingE lo ss) :
    Gos treeTable p w n₀ ann (6 * ss.length + 5) (mergeMapping C.length (.ref (C.length + 1 + T.length)) false) s () { s with heap := hOf C (dObj (es ++ ss) (n + ss.length)) (T ++ [dObj ss k]) lf } := by
  have g0 : s.heap.get? (C.length + 1 + T.length) = some (dObj ss k) := by rw [hh]; exact hOf_getT ..
  have gd : s.heap.get? C.length = some (dObj es n) := by rw [hh]; exact hOf_get ..
  have hcls : (dObj ss k).cls = .type "dict" := rfl
  unfold mergeMapping
  refine gos_le (k := 1 + (1 + (0 + (1 + (1 + (1 + (6 * ss.length + 0))))))) ?_ (by omega)
  refine gos_bind (a := true) (s' := s) ?_ ?_
  · unfold isInstance typeOf
    refine gos_le (k := (1 + 0) + 0) (gos_bind (gos_bind (gos_load g0) gos_pure) ?_) (by omega)
    rw [hcls, sub_dict]; exact gos_pure
  rw [if_pos rfl]
  refine gos_bind (a := some (.builtin "dict.__iter__")) (s' := s) ?_ ?_
  · unfold specialOf typeOf
    refine gos_le (k := (1 + 0) + 0) (gos_bind (gos_bind (gos_load g0) gos_pure) ?_) (by omega)
    rw [hcls, iter_dict]; exact gos_pure
  refine gos_bind (a := true) gos_pure ?_
  dsimp only
  have hsm : ((C.length + 1 + T.length) == sysModules) = false := by
    refine beq_eq_false_iff_ne.mpr fun h => ?_
    have h1 : C.length + 1 + T.length = 1 := h
    have h2 : 1 < n₀ := hn
    omega
  rw [hsm]
  refine gos_bind (gos_entries gd) ?_
  have hem : es.toArray.isEmpty = false := by cases es with | nil => exact absurd rfl hne | cons => rfl
  rw [hem]
  refine gos_bind (gos_entries g0) (gos_bind (gos_epoch g0) ?_)
  have e0 : s = { s with heap := hOf C (dObj (es ++ ss.take 0) (n + 0)) (T ++ [dObj ss k]) lf } := by
    simp only [List.take_zero, List.append_nil, Nat.add_zero]
    rw [← hh]
  refine gos_bind (s' := { s with heap := hOf C (dObj (es ++ ss) (n + ss.length)) (T ++ [dObj ss k]) lf }) (a := PUnit.unit) ?_ gos_pure
  have e1 : ({ s with heap := hOf C (dObj (es ++ ss) (n + ss.length)) (T ++ [dObj ss k]) lf } : Shared) = { s with heap := hOf C (dObj (es ++ ss.take ss.length) (n + ss.length)) (T ++ [dObj ss k]) lf } := by rw [List.take_length]
  rw [e1]
  have key := gos_forRange (p := p) (w := w) (n₀ := n₀) (ann := ann) (k := 6) (m := ss.length) (fun j => ({ s with heap := hOf C (dObj (es ++ ss.take j) (n + j)) (T ++ [dObj ss k]) lf } : Shared)) (f := fun i _ => do
      let __do_lift ← dictEntries (C.length + 1 + T.length)
      match __do_lift[i]? with
        | some e => do
          holding [e.key, e.val] (dictPut C.length e.hash e.key e.val)
          let __do_lift ← dictEpoch (C.length + 1 + T.length)
          if (__do_lift != k) = true then do
              unsupported "dict.changed-during-merge"
              pure (ForInStep.yield PUnit.unit)
            else pure (ForInStep.yield PUnit.unit)
        | _ => do
          unsupported "dict.changed-during-merge"
          pure (ForInStep.yield PUnit.unit)) (by
    intro i hi
    have gx : ss[i]? = some ss[i] := List.getElem?_eq_getElem hi
    have gx' : ss.toArray[i]? = some ss[i] := by simpa using gx
    obtain ⟨r1, ⟨t, r2⟩, r3⟩ := risingE_take hr gx
    generalize ss[i] = r at gx gx' r1 r2 r3
    refine gos_le (k := 1 + (4 + (1 + 0))) ?_ (by omega)
    refine gos_bind (gos_entries (es := ss) (n := k) (hOf_getT ..)) ?_
    rw [gx']
    dsimp only
    refine gos_bind (a := ()) (gos_holding (s' := { s with heap := hOf C (dObj (es ++ ss.take (i + 1)) (n + (i + 1))) (T ++ [dObj ss k]) lf }) ?_) (gos_bind (gos_epoch (es := ss) (n := k) (hOf_getT ..)) ?_)
    · have := gos_put (p := p) (w := w) (ann := ann) (t := t) (v := r.val) (i := r.hash) (s := { s with heap := hOf C (dObj (es ++ ss.take i) (n + i)) (T ++ [dObj ss k]) lf }) (es := es ++ ss.take i) (n := n + i) rfl hC (by rw [List.length_append, List.length_take]; omega) (fun e he' hc => by
        rcases List.mem_append.mp he' with h | h
        · have := he e h; omega
        · have := r3 e h; omega)
      rw [← r2] at this
      have e2 : es ++ ss.take i ++ [r] = es ++ ss.take (i + 1) := by
        rw [List.take_add_one, gx]; simp
      simp only [e2] at this
      exact this
    · have : (k != k) = false := by simp
      rw [this]
      exact gos_pure)
  rw [← e0] at key
  exact key
end
end Mine
end
section -- HDict5
open PySem PySem.W PyProof.Rows
set_option maxRecDepth 100000
namespace Mine
noncomputable def entS : Nat → List (Int × Str) → List DictEntry
  | _, [] => []
  | τ, q :: r => ⟨q.1, .int q.1 τ, .str q.2 (τ + 1)⟩ :: entS (τ + 2) r
noncomputable def subsOf : Nat → List (List (Int × Str)) → List Obj
  | _, [] => []
  | τ, q :: r => dObj (entL τ q) q.length :: subsOf (τ + 3 * q.length) r
noncomputable def valsS : Nat → List (Int × Str) → List (Value × Value)
  | _, [] => []
  | τ, q :: r => (.int q.1 τ, .str q.2 (τ + 1)) :: valsS (τ + 2) r
noncomputable abbrev DItem := Option (Sem Value) × Sem Value
noncomputable abbrev DRun := List (Sem Value × Sem Value)
noncomputable abbrev DSt := Option Addr × DRun
theorem risingS_of {lo : Int} : ∀ {qs : List (Int × Str)} {τ : Nat}, Rising lo qs → RisingE lo (entS τ qs)
  | [], _, _ => trivial
  | _ :: _, _, ⟨h1, _, h3⟩ => ⟨h1, ⟨_, rfl⟩, risingS_of h3⟩
theorem entL_append : ∀ (a b : List (Int × Str)) (τ : Nat), entL τ (a ++ b) = entL τ a ++ entL (τ + 3 * a.length) b
  | [], b, τ => by simp [entL]
  | q :: a, b, τ => by
    simp only [List.cons_append, entL, entL_append a b, List.length_cons]
    rw [show τ + 3 + 3 * a.length = τ + 3 * (a.length + 1) by omega]
theorem entS_length : ∀ (qs : List (Int × Str)) (τ : Nat), (entS τ qs).length = qs.length
  | [], _ => rfl
  | q :: r, τ => by simp [entS, entS_length r]
section
variable {p : Program} {w : World} {n₀ : Nat} {ann : Option Value} {s s' : Shared}
theorem acc_items {f : DItem → DSt → Sem (ForInStep DSt)} (hf : ∀ k v main run, run.length + 1 ≠ 17 → f (some k, v) (main, run) = pure (.yield (main, run ++ [(k, v)]))) (main : Option Addr) (rest : List DItem) :
    ∀ (l run : DRun), run.length + l.length ≤ 16 → forIn (l.map (fun kv => (some kv.1, kv.2)) ++ rest) (main, run) f = forIn rest (main, run ++ l) f
  | [], run, _ => by simp
  | (k, v) :: l, run, h => by
    rw [List.length_cons] at h
    rw [List.map_cons, List.cons_append, List.forIn_cons, hf k v main run (by omega)]
    show forIn (l.map (fun kv => (some kv.1, kv.2)) ++ rest) (main, run ++ [(k, v)]) f = _
    rw [acc_items hf main rest l (run ++ [(k, v)]) (by simp; omega)]
    simp
theorem acc_17 {f : DItem → DSt → Sem (ForInStep DSt)} {flush : DRun → Option Addr → Sem (Option Addr)} (hf : ∀ k v main run, run.length + 1 ≠ 17 → f (some k, v) (main, run) = pure (.yield (main, run ++ [(k, v)])))
    (hf' : ∀ k v main run, run.length + 1 = 17 → f (some k, v) (main, run) = flush (run ++ [(k, v)]) main >>= fun m => pure (.yield (m, []))) (main : Option Addr) (rest : List DItem) (l : DRun) (hl : l.length = 17) :
    forIn (l.map (fun kv => (some kv.1, kv.2)) ++ rest) (main, []) f = flush l main >>= fun m => forIn rest (m, []) f := by
  obtain ⟨l0, x, rfl⟩ : ∃ l0 x, l = l0 ++ [x] := ⟨l.dropLast, l.getLast (by intro h; rw [h] at hl; cases hl), (List.dropLast_concat_getLast _).symm⟩
  rw [List.length_append, List.length_singleton] at hl
  rw [List.map_append, List.append_assoc, acc_items hf main _ l0 [] (by simp; omega)]
  show forIn ((some x.1, x.2) :: rest) (main, [] ++ l0) f = _
  rw [List.forIn_cons, List.nil_append, hf' x.1 x.2 main l0 (by omega)]
  show Sem.bind (Sem.bind _ _) _ = Sem.bind _ _
  rw [Sem.bind_eq_wrap, Sem.bind_eq_wrap, Sem.wrap_wrap, Sem.bind_eq_wrap]
  rfl
theorem gos_evalPairs : ∀ {pairs : DRun} {qs : List (Int × Str)}, Items pairs qs → ∀ {s : Shared}, Gos treeTable p w n₀ ann (3 * qs.length) (evalPairs pairs) s (valsS s.toks qs) { s with toks := s.toks + 2 * qs.length }
  | _, _, .nil, s => gos_pure
  | _, _, .cons (kv := (k, v)) (q := q) (r := r) ⟨hk, pos, hv⟩ hl, s => by
    dsimp only at hk hv
    subst hk hv
    unfold evalPairs
    refine gos_le (k := 1 + (2 + (3 * r.length + 0))) ?_ (by simp only [List.length_cons]; omega)
    refine gos_bind gos_mkInt (gos_bind (gos_holding gos_text) ?_)
    have := gos_evalPairs hl (s := { s with toks := s.toks + 1 + 1 })
    have e : ({ s with toks := s.toks + 1 + 1 + 2 * r.length } : Shared) = { s with toks := s.toks + 2 * (q :: r).length } := by
      rw [show s.toks + 1 + 1 + 2 * r.length = s.toks + 2 * (q :: r).length by simp only [List.length_cons]; omega]
    rw [← e]
    exact gos_bind (gos_holding this) gos_pure
theorem gos_fillS {C T : List Obj} {lf : Life} (hC : n₀ ≤ C.length) : ∀ {qs : List (Int × Str)} {τ : Nat} {s : Shared} {es : List DictEntry} {n : Nat} {lo : Int}, s.heap = hOf C (dObj es n) T lf →
    es.length + qs.length ≤ 100000 → 0 ≤ lo → (∀ e ∈ es, e.hash ≤ lo) → Rising lo qs →
    Gos treeTable p w n₀ ann (11 * qs.length) (forIn (valsS τ qs) PUnit.unit fun x _ => do
        dictSet C.length x.1 x.2
        pure (ForInStep.yield PUnit.unit) : Sem PUnit) s PUnit.unit { s with heap := hOf C (dObj (es ++ entS τ qs) (n + qs.length)) T lf, toks := s.toks + qs.length }
  | [], τ, s, es, n, lo, hh, hs, h0, he, hr => by
    have e : ({ s with heap := hOf C (dObj (es ++ entS τ []) (n + 0)) T lf, toks := s.toks + 0 } : Shared) = s := by
      simp only [entS, List.append_nil, Nat.add_zero]
      rw [← hh]
    show Gos _ _ _ _ _ 0 _ _ _ { s with heap := hOf C (dObj (es ++ entS τ []) (n + 0)) T lf, toks := s.toks + 0 }
    rw [e]
    exact gos_pure
  | q :: r, τ, s, es, n, lo, hh, hs, h0, he, ⟨r1, r2, r3⟩ => by
    rw [List.length_cons] at hs
    unfold valsS
    rw [List.forIn_cons]
    refine gos_le (k := (11 + 0) + 11 * r.length) ?_ (by simp only [List.length_cons]; omega)
    refine gos_bind (gos_bind (gos_set hh hC (by omega) (by omega) r2 ?_) gos_pure) ?_
    · intro e he' hc
      have := he e he'
      omega
    have := gos_fillS hC (qs := r) (τ := τ + 2) (s := { s with heap := hOf C (dObj (es ++ [⟨q.1, .int q.1 τ, .str q.2 (τ + 1)⟩]) (n + 1)) T lf, toks := s.toks + 1 }) (es := es ++ [⟨q.1, .int q.1 τ, .str q.2 (τ + 1)⟩]) (n := n + 1) (lo := q.1) rfl
      (by simp only [List.length_append, List.length_cons, List.length_nil]; omega) (by omega) (by
        intro e he'
        rcases List.mem_append.mp he' with h | h
        · have := he e h; omega
        · rw [List.mem_singleton] at h; subst h; exact Int.le_refl _) r3
    have e : ({ s with heap := hOf C (dObj (es ++ [⟨q.1, .int q.1 τ, .str q.2 (τ + 1)⟩] ++ entS (τ + 2) r) (n + 1 + r.length)) T lf, toks := s.toks + 1 + r.length } : Shared) =
        { s with heap := hOf C (dObj (es ++ entS τ (q :: r)) (n + (q :: r).length)) T lf, toks := s.toks + (q :: r).length } := by
      simp only [entS, List.append_assoc, List.singleton_append, List.length_cons, Shared.mk.injEq, true_and]
      refine ⟨by rw [show n + 1 + r.length = n + (r.length + 1) by omega], by omega, trivial⟩
    rw [← e]
    exact this
theorem gos_subS {B : List Obj} {lf : Life} {pairs : DRun} {qs : List (Int × Str)} (it : Items pairs qs) (hC : n₀ ≤ B.length) (hl : qs.length ≤ 15) {lo : Int} (h0 : 0 ≤ lo) (hr : Rising lo qs) (hh : s.heap = ⟨B.toArray, lf⟩) :
    Gos treeTable p w n₀ ann (14 * qs.length + 2) (subDict pairs) s B.length { s with heap := hOf B (dObj (entS s.toks qs) qs.length) [] lf, toks := s.toks + 3 * qs.length } := by
  have e1 : ({ s with heap := s.heap.push { cls := .type "dict", data := .dict #[] }, toks := s.toks + 2 * qs.length } : Shared).heap = hOf B (dObj [] 0) [] lf := by
    show s.heap.push _ = _
    rw [hh]; unfold Heap.push hOf; simp [dObj]
  have e2 : s.heap.objs.size = B.length := by rw [hh]; simp
  unfold subDict
  refine gos_le (k := 1 + ((3 * qs.length + (11 * qs.length + 0)) + 0)) ?_ (by omega)
  refine gos_bind gos_alloc ?_
  rw [e2]
  have := gos_fillS (p := p) (w := w) (n₀ := n₀) (ann := ann) (C := B) (T := []) (lf := lf) hC (qs := qs) (τ := s.toks) (s := { s with heap := s.heap.push { cls := .type "dict", data := .dict #[] }, toks := s.toks + 2 * qs.length }) (es := []) (n := 0) (lo := lo) e1 (by simp; omega) h0 (fun e he => nomatch he) hr
  simp only [List.nil_append, Nat.zero_add] at this
  rw [show s.toks + 2 * qs.length + qs.length = s.toks + 3 * qs.length by omega] at this
  refine gos_bind (s' := { s with heap := hOf B (dObj (entS s.toks qs) qs.length) [] lf, toks := s.toks + 3 * qs.length }) (a := PUnit.unit) (gos_holding ?_) gos_pure
  rw [if_pos (by rw [it.length]; omega)]
  exact gos_bind (gos_evalPairs it) (gos_holding (gos_bind this gos_pure))
theorem rising_append {lo : Int} : ∀ {a b : List (Int × Str)}, Rising lo (a ++ b) ↔ Rising lo a ∧ Rising (lastOf lo a) b
  | [], b => by simp [Rising, lastOf]
  | q :: a, b => by simp only [List.cons_append, Rising, lastOf, rising_append (a := a) (b := b), and_assoc]
theorem lastOf_append {lo : Int} : ∀ {a b : List (Int × Str)}, lastOf lo (a ++ b) = lastOf (lastOf lo a) b
  | [], b => rfl
  | q :: a, b => lastOf_append (a := a)
theorem gos_flush {C T : List Obj} {lf : Life} {es : List DictEntry} {n : Nat} {lo : Int} {run : DRun} {qs : List (Int × Str)} (it : Items run qs) {E : List DictEntry} (hE : RisingE lo E) (hEl : E.length = qs.length)
    (hsub : ∀ s : Shared, s.heap = ⟨(C ++ dObj es n :: T).toArray, lf⟩ → s.toks = s'.toks → Gos treeTable p w n₀ ann (14 * qs.length + 2) (subDict run) s (C ++ dObj es n :: T).length { s with heap := hOf (C ++ dObj es n :: T) (dObj E qs.length) [] lf, toks := s.toks + 3 * qs.length })
    (ht : s.toks = s'.toks) (hC : n₀ ≤ C.length) (hn : sysModules < n₀) (hs : es.length + qs.length ≤ 100000) (hne : es ≠ []) (he : ∀ e ∈ es, e.hash ≤ lo) (hh : s.heap = hOf C (dObj es n) T lf) :
    Gos treeTable p w n₀ ann (20 * qs.length + 7) (do
        let sub ← holding [Value.ref C.length] (subDict run)
        (holding [Value.ref C.length, Value.ref sub] (mergeMapping C.length (Value.ref sub) false)).onRaise fun x => do
            let _ ← holding [Value.ref C.length, x] (runValue (Code.builtin "proto.let_go" { }))
            pure ()
        pure (some C.length) : Sem (Option Addr)) s (some C.length) { s with heap := hOf C (dObj (es ++ E) (n + qs.length)) (T ++ [dObj E qs.length]) lf, toks := s.toks + 3 * qs.length } := by
  have _ := it
  refine gos_le (k := (14 * qs.length + 2) + ((6 * E.length + 5) + 0)) ?_ (by omega)
  refine gos_bind (gos_holding (hsub s hh ht)) ?_
  have e : (C ++ dObj es n :: T).length = C.length + 1 + T.length := by simp; omega
  rw [e, ← hOf_move]
  have := gos_merge (p := p) (w := w) (n₀ := n₀) (ann := ann) (s := { s with heap := hOf C (dObj es n) (T ++ [dObj E qs.length]) lf, toks := s.toks + 3 * qs.length }) (ss := E) (k := qs.length) hC hn rfl (by omega) hne he hE
  rw [hEl] at this ⊢
  exact gos_bind (gos_onRaise (gos_holding this)) gos_pure
end
end Mine
end
section -- HDict6
open PySem PySem.W PyProof.Rows
set_option maxRecDepth 100000
namespace Mine
noncomputable abbrev someAll (l : DRun) : List DItem := l.map fun kv => (some kv.1, kv.2)
noncomputable def itemsOf : List (DRun × List (Int × Str)) → List DItem
  | [] => []
  | c :: r => someAll c.1 ++ itemsOf r
noncomputable def qsOf : List (DRun × List (Int × Str)) → List (Int × Str)
  | [] => []
  | c :: r => c.2 ++ qsOf r
section
variable {p : Program} {w : World} {n₀ : Nat} {ann : Option Value} {s s' : Shared}
noncomputable abbrev flushD (run : DRun) (main : Option Addr) : Sem (Option Addr) :=
  if run.isEmpty = true then pure main
  else
    match main with
    | none => do
      let __do_lift ← subDict run
      pure (some __do_lift)
    | some d => do
      let sub ← holding [Value.ref d] (subDict run)
      (holding [Value.ref d, Value.ref sub] (mergeMapping d (Value.ref sub) false)).onRaise fun x => do
          let _ ← holding [Value.ref d, x] (runValue (Code.builtin "proto.let_go" { }))
          pure ()
      pure (some d)
theorem gos_chunks {f : DItem → DSt → Sem (ForInStep DSt)} (hf : ∀ k v main run, run.length + 1 ≠ 17 → f (some k, v) (main, run) = pure (.yield (main, run ++ [(k, v)])))
    (hf' : ∀ k v main run, run.length + 1 = 17 → f (some k, v) (main, run) = flushD (run ++ [(k, v)]) main >>= fun m => pure (.yield (m, [])))
    {C : List Obj} {lf : Life} (hC : n₀ ≤ C.length) (hn : sysModules < n₀) {rest : List DItem} {k : Nat} {r : DSt} :
    ∀ (cs : List (DRun × List (Int × Str))), (∀ c ∈ cs, Items c.1 c.2 ∧ c.2.length = 17) → ∀ {s s'' : Shared} {es : List DictEntry} {n : Nat} {T : List Obj} {lo : Int}, s.heap = hOf C (dObj es n) T lf →
    es.length + 17 * cs.length ≤ 100000 → es ≠ [] → 0 ≤ lo → (∀ e ∈ es, e.hash ≤ lo) → Rising lo (qsOf cs) →
    Gos treeTable p w n₀ ann k (forIn rest (some C.length, []) f) { s with heap := hOf C (dObj (es ++ entL s.toks (qsOf cs)) (n + 17 * cs.length)) (T ++ subsOf s.toks (cs.map (·.2))) lf, toks := s.toks + 51 * cs.length } r s'' →
    Gos treeTable p w n₀ ann (347 * cs.length + k) (forIn (itemsOf cs ++ rest) (some C.length, []) f) s r s''
  | [], _, s, s'', es, n, T, lo, hh, hs, hne, h0, he, hr, h => by
    have e : ({ s with heap := hOf C (dObj (es ++ entL s.toks (qsOf [])) (n + 17 * 0)) (T ++ subsOf s.toks []) lf, toks := s.toks + 51 * 0 } : Shared) = s := by
      simp only [qsOf, entL, subsOf, List.append_nil, Nat.mul_zero, Nat.add_zero]
      rw [← hh]
    rw [List.length_nil, List.map_nil, e] at h
    rw [List.length_nil, Nat.mul_zero, Nat.zero_add]
    exact h
  | c :: cs, hcs, s, s'', es, n, T, lo, hh, hs, hne, h0, he, hr, h => by
    obtain ⟨it, hl⟩ := hcs c (.head _)
    rw [List.length_cons] at hs
    obtain ⟨hr1, hr2⟩ := rising_append.mp hr
    have hrun : c.1.length = 17 := it.length.trans hl
    unfold itemsOf
    rw [List.append_assoc, acc_17 (flush := flushD) hf hf' _ _ c.1 hrun]
    refine gos_le (k := 347 + (347 * cs.length + k)) ?_ (by simp only [List.length_cons]; omega)
    have hfl : flushD c.1 (some C.length) = (do
        let sub ← holding [Value.ref C.length] (subDict c.1)
        (holding [Value.ref C.length, Value.ref sub] (mergeMapping C.length (Value.ref sub) false)).onRaise fun x => do
            let _ ← holding [Value.ref C.length, x] (runValue (Code.builtin "proto.let_go" { }))
            pure ()
        pure (some C.length) : Sem (Option Addr)) := by
      unfold flushD
      have : c.1.isEmpty = false := by
        cases h : c.1 with
        | nil => rw [h] at hrun; cases hrun
        | cons => rfl
      rw [this]
      rfl
    have g := gos_flush (p := p) (w := w) (n₀ := n₀) (ann := ann) (s := s) (s' := s) (C := C) (T := T) (lf := lf) (es := es) (n := n) (lo := lo) it (E := entL s.toks c.2) (risingE_of hr1) (entL_length _ _) (fun s₁ h1 h2 => by
      have := gos_sub (p := p) (w := w) (n₀ := n₀) (ann := ann) (s := s₁) it (by simp; omega) (by omega) (by omega) h0 hr1 h1
      rw [h2] at this
      rw [h2]
      exact this) rfl hC hn (by omega) hne he hh
    rw [hl] at g
    rw [hfl]
    refine gos_bind g ?_
    have ih := gos_chunks hf hf' hC hn (rest := rest) (k := k) (r := r) cs (fun c' hc' => hcs c' (.tail _ hc')) (s := { s with heap := hOf C (dObj (es ++ entL s.toks c.2) (n + 17)) (T ++ [dObj (entL s.toks c.2) 17]) lf, toks := s.toks + 3 * 17 }) (s'' := s'') (es := es ++ entL s.toks c.2) (n := n + 17) (T := T ++ [dObj (entL s.toks c.2) 17]) (lo := lastOf lo c.2) rfl
      (by rw [List.length_append, entL_length]; omega) (by intro h; exact hne (List.append_eq_nil_iff.mp h).1) (Int.le_trans h0 (lastOf_ge hr1)) (by
        intro e he'
        rcases List.mem_append.mp he' with h | h
        · exact Int.le_trans (he e h) (lastOf_ge hr1)
        · exact entL_le hr1 e h) hr2
    refine ih ?_
    have e : ({ s with heap := hOf C (dObj (es ++ entL s.toks c.2 ++ entL (s.toks + 3 * 17) (qsOf cs)) (n + 17 + 17 * cs.length)) (T ++ [dObj (entL s.toks c.2) 17] ++ subsOf (s.toks + 3 * 17) (cs.map (·.2))) lf, toks := s.toks + 3 * 17 + 51 * cs.length } : Shared) =
        { s with heap := hOf C (dObj (es ++ entL s.toks (qsOf (c :: cs))) (n + 17 * (c :: cs).length)) (T ++ subsOf s.toks ((c :: cs).map (·.2))) lf, toks := s.toks + 51 * (c :: cs).length } := by
      simp only [qsOf, List.map_cons, subsOf, entL_append, hl, List.append_assoc, List.singleton_append, List.length_cons, Shared.mk.injEq, true_and]
      refine ⟨by rw [show n + 17 + 17 * cs.length = n + 17 * (cs.length + 1) by omega], by omega, trivial⟩
    rw [e]
    exact h
theorem qsOf_length : ∀ (cs : List (DRun × List (Int × Str))), (∀ c ∈ cs, c.2.length = 17) → (qsOf cs).length = 17 * cs.length
  | [], _ => rfl
  | c :: cs, h => by
    simp only [qsOf, List.length_append, h c (.head _), List.length_cons, qsOf_length cs fun c' hc' => h c' (.tail _ hc')]
    omega
theorem gos_display {B : List Obj} {lf : Life} (hB : n₀ ≤ B.length) (hn : sysModules < n₀) (c0 : DRun × List (Int × Str)) (cs : List (DRun × List (Int × Str))) (ls : DRun × List (Int × Str)) (hc0 : Items c0.1 c0.2 ∧ c0.2.length = 17) (hcs : ∀ c ∈ cs, Items c.1 c.2 ∧ c.2.length = 17)
    (hls : Items ls.1 ls.2 ∧ ls.2.length ≤ 15 ∧ 0 < ls.2.length) (hcl : cs.length ≤ 1000) (hr : Rising 0 (c0.2 ++ (qsOf cs ++ ls.2))) (hh : s.heap = ⟨B.toArray, lf⟩) :
    Gos treeTable p w n₀ ann (347 * cs.length + 600) (dictDisplay (someAll c0.1 ++ (itemsOf cs ++ someAll ls.1))) s (.ref B.length)
      { s with heap := hOf B (dObj (entL s.toks (c0.2 ++ qsOf cs) ++ entS (s.toks + 51 + 51 * cs.length) ls.2) (17 + 17 * cs.length + ls.2.length)) (subsOf (s.toks + 51) (cs.map (·.2)) ++ [dObj (entS (s.toks + 51 + 51 * cs.length) ls.2) ls.2.length]) lf, toks := s.toks + 51 + 51 * cs.length + 3 * ls.2.length } := by
  obtain ⟨it0, hl0⟩ := hc0
  obtain ⟨itl, hll, hlp⟩ := hls
  obtain ⟨hr1, hr2⟩ := rising_append.mp hr
  obtain ⟨hr2, hr3⟩ := rising_append.mp hr2
  unfold dictDisplay
  dsimp only
  generalize hff : (fun (x : DItem) (__s : DSt) => _) = f
  have hf : ∀ k v main run, run.length + 1 ≠ 17 → f (some k, v) (main, run) = pure (.yield (main, run ++ [(k, v)])) := by
    intro k v main run h
    rw [← hff]
    dsimp only
    have : ((run ++ [(k, v)]).length == 17) = false := by simp; omega
    rw [this]
    rfl
  have hf' : ∀ k v main run, run.length + 1 = 17 → f (some k, v) (main, run) = flushD (run ++ [(k, v)]) main >>= fun m => pure (.yield (m, [])) := by
    intro k v main run h
    rw [← hff]
    dsimp only
    have : ((run ++ [(k, v)]).length == 17) = true := by simp; omega
    rw [this]
    rfl
  clear hff
  have hrun : c0.1.length = 17 := it0.length.trans hl0
  rw [acc_17 (flush := flushD) hf hf' _ _ c0.1 hrun]
  refine gos_le (k := ((14 * 17 + 2 + 0) + (347 * cs.length + 0)) + ((20 * ls.2.length + 7) + 0)) ?_ (by omega)
  refine gos_bind (a := (some B.length, ls.1)) (s' := { s with heap := hOf B (dObj (entL s.toks c0.2 ++ entL (s.toks + 51) (qsOf cs)) (17 + 17 * cs.length)) ([] ++ subsOf (s.toks + 51) (cs.map (·.2))) lf, toks := s.toks + 51 + 51 * cs.length }) (gos_bind (a := some B.length) (s' := { s with heap := hOf B (dObj (entL s.toks c0.2) 17) [] lf, toks := s.toks + 51 }) ?_ ?_) ?_
  · have g := gos_sub (p := p) (w := w) (n₀ := n₀) (ann := ann) (s := s) it0 hB (by omega) (by omega) (Int.le_refl 0) hr1 hh
    rw [hl0] at g
    have : c0.1.isEmpty = false := by
      cases h : c0.1 with
      | nil => rw [h] at hrun; cases hrun
      | cons => rfl
    unfold flushD
    rw [this]
    exact gos_bind g gos_pure
  · have g := gos_chunks (p := p) (w := w) (n₀ := n₀) (ann := ann) hf hf' hB hn (rest := someAll ls.1) (k := 0) (r := (some B.length, ls.1)) cs hcs (s := { s with heap := hOf B (dObj (entL s.toks c0.2) 17) [] lf, toks := s.toks + 51 })
      (s'' := { s with heap := hOf B (dObj (entL s.toks c0.2 ++ entL (s.toks + 51) (qsOf cs)) (17 + 17 * cs.length)) ([] ++ subsOf (s.toks + 51) (cs.map (·.2))) lf, toks := s.toks + 51 + 51 * cs.length }) (es := entL s.toks c0.2) (n := 17) (T := []) (lo := lastOf 0 c0.2) rfl (by rw [entL_length]; omega)
      (by intro h; have := entL_length c0.2 s.toks; rw [h, hl0] at this; cases this) (lastOf_ge hr1) (entL_le hr1) hr2
    refine g ?_
    have := acc_items hf (some B.length) [] ls.1 [] (by rw [itl.length]; simp; omega)
    rw [List.append_nil] at this
    rw [this]
    exact gos_pure
  · have hrunl : ls.1.isEmpty = false := by
      cases h : ls.1 with
      | nil => have := itl.length; rw [h] at this; simp at this; omega
      | cons => rfl
    dsimp only
    rw [hrunl]
    have hne : entL s.toks c0.2 ++ entL (s.toks + 51) (qsOf cs) ≠ [] := by
      intro h
      have := entL_length c0.2 s.toks
      rw [(List.append_eq_nil_iff.mp h).1, hl0] at this; cases this
    have hqs : (qsOf cs).length = 17 * cs.length := qsOf_length cs fun c hc => (hcs c hc).2
    have hle : ∀ e ∈ entL s.toks c0.2 ++ entL (s.toks + 51) (qsOf cs), e.hash ≤ lastOf (lastOf 0 c0.2) (qsOf cs) := by
      intro e he
      rcases List.mem_append.mp he with h | h
      · exact Int.le_trans (entL_le hr1 e h) (lastOf_ge hr2)
      · exact entL_le hr2 e h
    have h0' : 0 ≤ lastOf (lastOf 0 c0.2) (qsOf cs) := Int.le_trans (lastOf_ge hr1) (lastOf_ge hr2)
    have g := gos_flush (p := p) (w := w) (n₀ := n₀) (ann := ann) (s := { s with heap := hOf B (dObj (entL s.toks c0.2 ++ entL (s.toks + 51) (qsOf cs)) (17 + 17 * cs.length)) ([] ++ subsOf (s.toks + 51) (cs.map (·.2))) lf, toks := s.toks + 51 + 51 * cs.length })
      (s' := { s with heap := hOf B (dObj (entL s.toks c0.2 ++ entL (s.toks + 51) (qsOf cs)) (17 + 17 * cs.length)) ([] ++ subsOf (s.toks + 51) (cs.map (·.2))) lf, toks := s.toks + 51 + 51 * cs.length }) (C := B) (lf := lf) itl (E := entS (s.toks + 51 + 51 * cs.length) ls.2) (risingS_of hr3) (entS_length _ _) (fun s₁ h1 h2 => by
      have := gos_subS (p := p) (w := w) (n₀ := n₀) (ann := ann) (s := s₁) itl (by simp; omega) hll h0' hr3 h1
      rw [h2] at this
      rw [h2]
      exact this) rfl hB hn (by rw [List.length_append, entL_length, entL_length, hqs]; omega) hne hle rfl
    rw [← (show s.toks + 3 * c0.2.length = s.toks + 51 by rw [hl0])] at g ⊢
    rw [← entL_append] at g ⊢
    exact gos_bind g gos_pure
end
end Mine
end
section -- HState
open PySem PySem.W PyProof.Rows
set_option maxRecDepth 100000
namespace Mine
noncomputable abbrev S (x : String) : Str := Str.ofString x
noncomputable abbrev K (P : Params) (x : Str) : Int := PyData.keyHash P x
noncomputable abbrev prog : Program := PySem.Challenge.pw_rl0124_01
noncomputable def bodyT : List Stmt := behindTheImports prog
noncomputable def stT (k : Nat) : Stmt := bodyT.getD k (.Pass default)
noncomputable def stM (j : Nat) : Stmt := match stT 1 with
  | .ClassDef _ _ _ b .. => b.getD j (.Pass default)
  | _ => .Pass default
noncomputable def argsOf : Stmt → Arguments
  | .FunctionDef _ a .. => a
  | _ => ⟨[], [], none, [], [], none, []⟩
noncomputable def stmtsOf : Stmt → List Stmt
  | .FunctionDef _ _ b .. => b
  | _ => []
noncomputable def scopeOf : Stmt → Scope
  | .FunctionDef _ _ _ _ _ _ s .. => s
  | _ => prog.main.scope
noncomputable def envT : Env := { scope := prog.main.scope, locals := mainNs, globals := mainNs, cells := [], code := .ref 30, frame := some 31 }
noncomputable def o0 (P : Params) : Obj := ⟨(.type "dict"), none, (.dict #[⟨(K P (S "__name__")), (.str (S "__name__") 1), (.str (S "builtins") 160)⟩, ⟨(K P (S "__doc__")), (.str (S "__doc__") 2), (.builtin "builtins.__doc__:str#opaque")⟩, ⟨(K P (S "__package__")), (.str (S "__package__") 3), (.builtin "builtins.__package__:str#opaque")⟩, ⟨(K P (S "__loader__")), (.str (S "__loader__") 4), (.builtin "builtins.__loader__:shared#opaque")⟩, ⟨(K P (S "__spec__")), (.str (S "__spec__") 5), (.builtin "builtins.__spec__#opaque")⟩, ⟨(K P (S "__build_class__")), (.str (S "__build_class__") 6), (.builtin "__build_class__")⟩, ⟨(K P (S "__import__")), (.str (S "__import__") 7), (.builtin "__import__")⟩, ⟨(K P (S "abs")), (.str (S "abs") 8), (.builtin "abs")⟩, ⟨(K P (S "all")), (.str (S "all") 9), (.builtin "all")⟩, ⟨(K P (S "any")), (.str (S "any") 10), (.builtin "any")⟩, ⟨(K P (S "ascii")), (.str (S "ascii") 11), (.builtin "ascii")⟩, ⟨(K P (S "bin")), (.str (S "bin") 12), (.builtin "bin")⟩, ⟨(K P (S "breakpoint")), (.str (S "breakpoint") 13), (.builtin "breakpoint")⟩, ⟨(K P (S "callable")), (.str (S "callable") 14), (.builtin "callable")⟩, ⟨(K P (S "chr")), (.str (S "chr") 15), (.builtin "chr")⟩, ⟨(K P (S "compile")), (.str (S "compile") 16), (.builtin "compile")⟩, ⟨(K P (S "delattr")), (.str (S "delattr") 17), (.builtin "delattr")⟩, ⟨(K P (S "dir")), (.str (S "dir") 18), (.builtin "dir")⟩, ⟨(K P (S "divmod")), (.str (S "divmod") 19), (.builtin "divmod")⟩, ⟨(K P (S "eval")), (.str (S "eval") 20), (.builtin "eval")⟩, ⟨(K P (S "exec")), (.str (S "exec") 21), (.builtin "exec")⟩, ⟨(K P (S "format")), (.str (S "format") 22), (.builtin "format")⟩, ⟨(K P (S "getattr")), (.str (S "getattr") 23), (.builtin "getattr")⟩, ⟨(K P (S "globals")), (.str (S "globals") 24), (.builtin "globals")⟩, ⟨(K P (S "hasattr")), (.str (S "hasattr") 25), (.builtin "hasattr")⟩, ⟨(K P (S "hash")), (.str (S "hash") 26), (.builtin "hash")⟩, ⟨(K P (S "hex")), (.str (S "hex") 27), (.builtin "hex")⟩, ⟨(K P (S "id")), (.str (S "id") 28), (.builtin "id")⟩, ⟨(K P (S "input")), (.str (S "input") 29), (.builtin "input")⟩, ⟨(K P (S "isinstance")), (.str (S "isinstance") 30), (.builtin "isinstance")⟩, ⟨(K P (S "issubclass")), (.str (S "issubclass") 31), (.builtin "issubclass")⟩, ⟨(K P (S "iter")), (.str (S "iter") 32), (.builtin "iter")⟩, ⟨(K P (S "aiter")), (.str (S "aiter") 33), (.builtin "aiter")⟩, ⟨(K P (S "len")), (.str (S "len") 34), (.builtin "len")⟩, ⟨(K P (S "locals")), (.str (S "locals") 35), (.builtin "locals")⟩, ⟨(K P (S "max")), (.str (S "max") 36), (.builtin "max")⟩, ⟨(K P (S "min")), (.str (S "min") 37), (.builtin "min")⟩, ⟨(K P (S "next")), (.str (S "next") 38), (.builtin "next")⟩, ⟨(K P (S "anext")), (.str (S "anext") 39), (.builtin "anext")⟩, ⟨(K P (S "oct")), (.str (S "oct") 40), (.builtin "oct")⟩, ⟨(K P (S "ord")), (.str (S "ord") 41), (.builtin "ord")⟩, ⟨(K P (S "pow")), (.str (S "pow") 42), (.builtin "pow")⟩, ⟨(K P (S "print")), (.str (S "print") 43), (.builtin "print")⟩, ⟨(K P (S "repr")), (.str (S "repr") 44), (.builtin "repr")⟩, ⟨(K P (S "round")), (.str (S "round") 45), (.builtin "round")⟩, ⟨(K P (S "setattr")), (.str (S "setattr") 46), (.builtin "setattr")⟩, ⟨(K P (S "sorted")), (.str (S "sorted") 47), (.builtin "sorted")⟩, ⟨(K P (S "sum")), (.str (S "sum") 48), (.builtin "sum")⟩, ⟨(K P (S "vars")), (.str (S "vars") 49), (.builtin "vars")⟩, ⟨(K P (S "None")), (.str (S "None") 50), .none⟩, ⟨(K P (S "Ellipsis")), (.str (S "Ellipsis") 51), .ellipsis⟩, ⟨(K P (S "NotImplemented")), (.str (S "NotImplemented") 52), .notImplemented⟩, ⟨(K P (S "False")), (.str (S "False") 53), (.bool false)⟩, ⟨(K P (S "True")), (.str (S "True") 54), (.bool true)⟩, ⟨(K P (S "bool")), (.str (S "bool") 55), (.type "bool")⟩, ⟨(K P (S "memoryview")), (.str (S "memoryview") 56), (.type "memoryview")⟩, ⟨(K P (S "bytearray")), (.str (S "bytearray") 57), (.type "bytearray")⟩, ⟨(K P (S "bytes")), (.str (S "bytes") 58), (.type "bytes")⟩, ⟨(K P (S "classmethod")), (.str (S "classmethod") 59), (.type "classmethod")⟩, ⟨(K P (S "complex")), (.str (S "complex") 60), (.type "complex")⟩, ⟨(K P (S "dict")), (.str (S "dict") 61), (.type "dict")⟩, ⟨(K P (S "enumerate")), (.str (S "enumerate") 62), (.type "enumerate")⟩, ⟨(K P (S "filter")), (.str (S "filter") 63), (.type "filter")⟩, ⟨(K P (S "float")), (.str (S "float") 64), (.type "float")⟩, ⟨(K P (S "frozenset")), (.str (S "frozenset") 65), (.type "frozenset")⟩, ⟨(K P (S "property")), (.str (S "property") 66), (.type "property")⟩, ⟨(K P (S "int")), (.str (S "int") 67), (.type "int")⟩, ⟨(K P (S "list")), (.str (S "list") 68), (.type "list")⟩, ⟨(K P (S "map")), (.str (S "map") 69), (.type "map")⟩, ⟨(K P (S "object")), (.str (S "object") 70), (.type "object")⟩, ⟨(K P (S "range")), (.str (S "range") 71), (.type "range")⟩, ⟨(K P (S "reversed")), (.str (S "reversed") 72), (.type "reversed")⟩, ⟨(K P (S "set")), (.str (S "set") 73), (.type "set")⟩, ⟨(K P (S "slice")), (.str (S "slice") 74), (.type "slice")⟩, ⟨(K P (S "staticmethod")), (.str (S "staticmethod") 75), (.type "staticmethod")⟩, ⟨(K P (S "str")), (.str (S "str") 76), (.type "str")⟩, ⟨(K P (S "super")), (.str (S "super") 77), (.type "super")⟩, ⟨(K P (S "tuple")), (.str (S "tuple") 78), (.type "tuple")⟩, ⟨(K P (S "type")), (.str (S "type") 79), (.type "type")⟩, ⟨(K P (S "zip")), (.str (S "zip") 80), (.type "zip")⟩, ⟨(K P (S "__debug__")), (.str (S "__debug__") 81), (.bool true)⟩, ⟨(K P (S "BaseException")), (.str (S "BaseException") 82), (.type "BaseException")⟩, ⟨(K P (S "BaseExceptionGroup")), (.str (S "BaseExceptionGroup") 83), (.type "BaseExceptionGroup")⟩, ⟨(K P (S "Exception")), (.str (S "Exception") 84), (.type "Exception")⟩, ⟨(K P (S "GeneratorExit")), (.str (S "GeneratorExit") 85), (.type "GeneratorExit")⟩, ⟨(K P (S "KeyboardInterrupt")), (.str (S "KeyboardInterrupt") 86), (.type "KeyboardInterrupt")⟩, ⟨(K P (S "SystemExit")), (.str (S "SystemExit") 87), (.type "SystemExit")⟩, ⟨(K P (S "ArithmeticError")), (.str (S "ArithmeticError") 88), (.type "ArithmeticError")⟩, ⟨(K P (S "AssertionError")), (.str (S "AssertionError") 89), (.type "AssertionError")⟩, ⟨(K P (S "AttributeError")), (.str (S "AttributeError") 90), (.type "AttributeError")⟩, ⟨(K P (S "BufferError")), (.str (S "BufferError") 91), (.type "BufferError")⟩, ⟨(K P (S "EOFError")), (.str (S "EOFError") 92), (.type "EOFError")⟩, ⟨(K P (S "ImportError")), (.str (S "ImportError") 93), (.type "ImportError")⟩, ⟨(K P (S "LookupError")), (.str (S "LookupError") 94), (.type "LookupError")⟩, ⟨(K P (S "MemoryError")), (.str (S "MemoryError") 95), (.type "MemoryError")⟩, ⟨(K P (S "NameError")), (.str (S "NameError") 96), (.type "NameError")⟩, ⟨(K P (S "OSError")), (.str (S "OSError") 97), (.type "OSError")⟩, ⟨(K P (S "ReferenceError")), (.str (S "ReferenceError") 98), (.type "ReferenceError")⟩, ⟨(K P (S "RuntimeError")), (.str (S "RuntimeError") 99), (.type "RuntimeError")⟩, ⟨(K P (S "StopAsyncIteration")), (.str (S "StopAsyncIteration") 100), (.type "StopAsyncIteration")⟩, ⟨(K P (S "StopIteration")), (.str (S "StopIteration") 101), (.type "StopIteration")⟩, ⟨(K P (S "SyntaxError")), (.str (S "SyntaxError") 102), (.type "SyntaxError")⟩, ⟨(K P (S "SystemError")), (.str (S "SystemError") 103), (.type "SystemError")⟩, ⟨(K P (S "TypeError")), (.str (S "TypeError") 104), (.type "TypeError")⟩, ⟨(K P (S "ValueError")), (.str (S "ValueError") 105), (.type "ValueError")⟩, ⟨(K P (S "Warning")), (.str (S "Warning") 106), (.type "Warning")⟩, ⟨(K P (S "FloatingPointError")), (.str (S "FloatingPointError") 107), (.type "FloatingPointError")⟩, ⟨(K P (S "OverflowError")), (.str (S "OverflowError") 108), (.type "OverflowError")⟩, ⟨(K P (S "ZeroDivisionError")), (.str (S "ZeroDivisionError") 109), (.type "ZeroDivisionError")⟩, ⟨(K P (S "BytesWarning")), (.str (S "BytesWarning") 110), (.type "BytesWarning")⟩, ⟨(K P (S "DeprecationWarning")), (.str (S "DeprecationWarning") 111), (.type "DeprecationWarning")⟩, ⟨(K P (S "EncodingWarning")), (.str (S "EncodingWarning") 112), (.type "EncodingWarning")⟩, ⟨(K P (S "FutureWarning")), (.str (S "FutureWarning") 113), (.type "FutureWarning")⟩, ⟨(K P (S "ImportWarning")), (.str (S "ImportWarning") 114), (.type "ImportWarning")⟩, ⟨(K P (S "PendingDeprecationWarning")), (.str (S "PendingDeprecationWarning") 115), (.type "PendingDeprecationWarning")⟩, ⟨(K P (S "ResourceWarning")), (.str (S "ResourceWarning") 116), (.type "ResourceWarning")⟩, ⟨(K P (S "RuntimeWarning")), (.str (S "RuntimeWarning") 117), (.type "RuntimeWarning")⟩, ⟨(K P (S "SyntaxWarning")), (.str (S "SyntaxWarning") 118), (.type "SyntaxWarning")⟩, ⟨(K P (S "UnicodeWarning")), (.str (S "UnicodeWarning") 119), (.type "UnicodeWarning")⟩, ⟨(K P (S "UserWarning")), (.str (S "UserWarning") 120), (.type "UserWarning")⟩, ⟨(K P (S "BlockingIOError")), (.str (S "BlockingIOError") 121), (.type "BlockingIOError")⟩, ⟨(K P (S "ChildProcessError")), (.str (S "ChildProcessError") 122), (.type "ChildProcessError")⟩, ⟨(K P (S "ConnectionError")), (.str (S "ConnectionError") 123), (.type "ConnectionError")⟩, ⟨(K P (S "FileExistsError")), (.str (S "FileExistsError") 124), (.type "FileExistsError")⟩, ⟨(K P (S "FileNotFoundError")), (.str (S "FileNotFoundError") 125), (.type "FileNotFoundError")⟩, ⟨(K P (S "InterruptedError")), (.str (S "InterruptedError") 126), (.type "InterruptedError")⟩, ⟨(K P (S "IsADirectoryError")), (.str (S "IsADirectoryError") 127), (.type "IsADirectoryError")⟩, ⟨(K P (S "NotADirectoryError")), (.str (S "NotADirectoryError") 128), (.type "NotADirectoryError")⟩, ⟨(K P (S "PermissionError")), (.str (S "PermissionError") 129), (.type "PermissionError")⟩, ⟨(K P (S "ProcessLookupError")), (.str (S "ProcessLookupError") 130), (.type "ProcessLookupError")⟩, ⟨(K P (S "TimeoutError")), (.str (S "TimeoutError") 131), (.type "TimeoutError")⟩, ⟨(K P (S "IndentationError")), (.str (S "IndentationError") 132), (.type "IndentationError")⟩, ⟨(K P (S "_IncompleteInputError")), (.str (S "_IncompleteInputError") 133), (.type "_IncompleteInputError")⟩, ⟨(K P (S "IndexError")), (.str (S "IndexError") 134), (.type "IndexError")⟩, ⟨(K P (S "KeyError")), (.str (S "KeyError") 135), (.type "KeyError")⟩, ⟨(K P (S "ModuleNotFoundError")), (.str (S "ModuleNotFoundError") 136), (.type "ModuleNotFoundError")⟩, ⟨(K P (S "NotImplementedError")), (.str (S "NotImplementedError") 137), (.type "NotImplementedError")⟩, ⟨(K P (S "PythonFinalizationError")), (.str (S "PythonFinalizationError") 138), (.type "PythonFinalizationError")⟩, ⟨(K P (S "RecursionError")), (.str (S "RecursionError") 139), (.type "RecursionError")⟩, ⟨(K P (S "UnboundLocalError")), (.str (S "UnboundLocalError") 140), (.type "UnboundLocalError")⟩, ⟨(K P (S "UnicodeError")), (.str (S "UnicodeError") 141), (.type "UnicodeError")⟩, ⟨(K P (S "BrokenPipeError")), (.str (S "BrokenPipeError") 142), (.type "BrokenPipeError")⟩, ⟨(K P (S "ConnectionAbortedError")), (.str (S "ConnectionAbortedError") 143), (.type "ConnectionAbortedError")⟩, ⟨(K P (S "ConnectionRefusedError")), (.str (S "ConnectionRefusedError") 144), (.type "ConnectionRefusedError")⟩, ⟨(K P (S "ConnectionResetError")), (.str (S "ConnectionResetError") 145), (.type "ConnectionResetError")⟩, ⟨(K P (S "TabError")), (.str (S "TabError") 146), (.type "TabError")⟩, ⟨(K P (S "UnicodeDecodeError")), (.str (S "UnicodeDecodeError") 147), (.type "UnicodeDecodeError")⟩, ⟨(K P (S "UnicodeEncodeError")), (.str (S "UnicodeEncodeError") 148), (.type "UnicodeEncodeError")⟩, ⟨(K P (S "UnicodeTranslateError")), (.str (S "UnicodeTranslateError") 149), (.type "UnicodeTranslateError")⟩, ⟨(K P (S "ExceptionGroup")), (.str (S "ExceptionGroup") 150), (.type "ExceptionGroup")⟩, ⟨(K P (S "EnvironmentError")), (.str (S "EnvironmentError") 151), (.type "OSError")⟩, ⟨(K P (S "IOError")), (.str (S "IOError") 152), (.type "OSError")⟩, ⟨(K P (S "open")), (.str (S "open") 153), (.builtin "open")⟩, ⟨(K P (S "quit")), (.str (S "quit") 154), (.builtin "builtins.quit#opaque")⟩, ⟨(K P (S "exit")), (.str (S "exit") 155), (.builtin "builtins.exit#opaque")⟩, ⟨(K P (S "copyright")), (.str (S "copyright") 156), (.builtin "builtins.copyright#opaque")⟩, ⟨(K P (S "credits")), (.str (S "credits") 157), (.builtin "builtins.credits#opaque")⟩, ⟨(K P (S "license")), (.str (S "license") 158), (.builtin "builtins.license#opaque")⟩, ⟨(K P (S "help")), (.str (S "help") 159), (.builtin "builtins.help#opaque")⟩] 159), #[]⟩
noncomputable def o1 (P : Params) : Obj := ⟨(.type "dict"), none, (.dict #[⟨(K P (S "builtins")), (.str (S "builtins") 162), (.ref 4)⟩, ⟨(K P (S "__main__")), (.str (S "__main__") 163), (.ref 5)⟩, ⟨(K P (S "_sre")), (.str (S "_sre") 244), (.ref 12)⟩] 3), #[]⟩
noncomputable def o2 (P : Params) : Obj := ⟨.none, none, (.dict #[⟨(K P (S "\x69mport.loaded._sre")), (.str (S "\x69mport.loaded._sre") 183), (.bool true)⟩, ⟨(K P (S "class._frozen_importlib.BuiltinImporter")), (.str (S "class._frozen_importlib.BuiltinImporter") 185), (.ref 14)⟩, ⟨(K P (S "watched.\x69mport")), (.str (S "watched.\x69mport") 206), (.ref 18)⟩, ⟨(K P (S "class._frozen_importlib.ModuleSpec")), (.str (S "class._frozen_importlib.ModuleSpec") 216), (.ref 22)⟩, ⟨(K P (S "sys.modules.booked-epoch")), (.str (S "sys.modules.booked-epoch") 245), (.int 3 0)⟩, ⟨(K P (S "\x69mport.later-laid._sre")), (.str (S "\x69mport.later-laid._sre") 270), (.bool true)⟩, ⟨(K P (S "watched.library")), (.str (S "watched.library") 272), (.ref 27)⟩, ⟨(K P (S "watched.library-objects")), (.str (S "watched.library-objects") 0), (.str (S "\x0c") 0)⟩, ⟨(K P (S "watched.library-deep._sre")), (.str (S "watched.library-deep._sre") 273), (.str (S "\x04\x00\x00\x0b\x04\x00\x00\x0b\x04\x00\x00\x03\x04\x00\x00\x0b\x08\x04dict\x02") 0)⟩] 9), #[]⟩
noncomputable def o3 (P : Params) : Obj := ⟨(.type "dict"), none, (.dict #[⟨(K P (S "__name__")), (.str (S "__name__") 165), (.str (S "__main__") 164)⟩, ⟨(K P (S "__doc__")), (.str (S "__doc__") 166), .none⟩, ⟨(K P (S "__package__")), (.str (S "__package__") 167), .none⟩, ⟨(K P (S "__loader__")), (.str (S "__loader__") 168), (.builtin "__main__.__loader__#opaque")⟩, ⟨(K P (S "__spec__")), (.str (S "__spec__") 169), .none⟩, ⟨(K P (S "__annotations__")), (.str (S "__annotations__") 170), (.ref 6)⟩, ⟨(K P (S "__builtins__")), (.str (S "__builtins__") 171), (.ref 4)⟩, ⟨(K P (S "__file__")), (.str (S "__file__") 173), (.str (S "/claim/cut.py") 172)⟩, ⟨(K P (S "__cached__")), (.str (S "__cached__") 174), .none⟩, ⟨(K P (S "_sre")), (.str (S "_sre") 275), (.ref 12)⟩] 10), #[]⟩
noncomputable def o4 (_ : Params) : Obj := ⟨(.type "module"), (some 0), .plain, #[]⟩
noncomputable def o5 (_ : Params) : Obj := ⟨(.type "module"), (some 3), .plain, #[]⟩
noncomputable def o6 (_ : Params) : Obj := ⟨(.type "dict"), none, (.dict #[] 0), #[]⟩
noncomputable def o7 (_ : Params) : Obj := ⟨(.type "tuple"), none, (.seq #[] 0), #[]⟩
noncomputable def o8 (_ : Params) : Obj := ⟨.none, none, (.fields #[]), #[]⟩
noncomputable def o9 (_ : Params) : Obj := ⟨(.type "code"), none, (.fields #[(.str (S "<module>") 176), (.str (S "<module>") 177), (.str (S "/claim/cut.py") 178), (.int 1 0), (.int 0 0), (.int 0 0), (.int 0 0), (.int 0 0), (.ref 7), (.bool false), (.int 175 0), (.ref 8), .none, .none, .none, .none, (.int 179 0), (.int 1 0), (.str (S "/claim/cut.py") 180)]), #[]⟩
noncomputable def o10 (_ : Params) : Obj := ⟨(.type "frame"), none, .plain, #[(some (.ref 9)), (some (.ref 3)), (some (.ref 3)), none, (some (.str (S "__main__") 164)), none, (some (.ref 0))]⟩
noncomputable def o11 (P : Params) : Obj := ⟨(.type "dict"), none, (.dict #[⟨(K P (S "__name__")), (.str (S "__name__") 247), (.str (S "_sre") 246)⟩, ⟨(K P (S "__doc__")), (.str (S "__doc__") 248), .none⟩, ⟨(K P (S "__package__")), (.str (S "__package__") 250), (.str (S "") 249)⟩, ⟨(K P (S "__loader__")), (.str (S "__loader__") 251), (.builtin "off-the-table:_sre.__loader__:shared#opaque")⟩, ⟨(K P (S "__spec__")), (.str (S "__spec__") 252), (.builtin "off-the-table:_sre.__spec__:shared#opaque")⟩, ⟨(K P (S "compile")), (.str (S "compile") 253), (.builtin "_sre.compile")⟩, ⟨(K P (S "template")), (.str (S "template") 254), (.builtin "off-the-table:_sre.template:shared#opaque")⟩, ⟨(K P (S "getcodesize")), (.str (S "getcodesize") 255), (.builtin "off-the-table:_sre.getcodesize:shared#opaque")⟩, ⟨(K P (S "ascii_iscased")), (.str (S "ascii_iscased") 256), (.builtin "off-the-table:_sre.ascii_iscased:shared#opaque")⟩, ⟨(K P (S "unicode_iscased")), (.str (S "unicode_iscased") 257), (.builtin "off-the-table:_sre.unicode_iscased:shared#opaque")⟩, ⟨(K P (S "ascii_tolower")), (.str (S "ascii_tolower") 258), (.builtin "off-the-table:_sre.ascii_tolower:shared#opaque")⟩, ⟨(K P (S "unicode_tolower")), (.str (S "unicode_tolower") 259), (.builtin "off-the-table:_sre.unicode_tolower:shared#opaque")⟩, ⟨(K P (S "MAGIC")), (.str (S "MAGIC") 261), (.int 20230612 260)⟩, ⟨(K P (S "CODESIZE")), (.str (S "CODESIZE") 263), (.int 4 262)⟩, ⟨(K P (S "MAXREPEAT")), (.str (S "MAXREPEAT") 265), (.int 4294967295 264)⟩, ⟨(K P (S "MAXGROUPS")), (.str (S "MAXGROUPS") 267), (.int 1073741823 266)⟩, ⟨(K P (S "copyright")), (.str (S "copyright") 269), (.str (S " SRE 2.2.2 Copyright (c) 1997-2002 by Secret Labs AB ") 268)⟩] 17), #[]⟩
noncomputable def o12 (_ : Params) : Obj := ⟨(.type "module"), (some 11), .plain, #[]⟩
noncomputable def o13 (P : Params) : Obj := ⟨(.type "dict"), none, (.dict #[⟨(K P (S "__module__")), (.str (S "__module__") 189), (.str (S "_frozen_importlib") 186)⟩, ⟨(K P (S "__firstlineno__")), (.str (S "__firstlineno__") 190), (.int 971 187)⟩, ⟨(K P (S "__doc__")), (.str (S "__doc__") 191), (.builtin "_frozen_importlib.BuiltinImporter.__doc__:str#opaque")⟩, ⟨(K P (S "_ORIGIN")), (.str (S "_ORIGIN") 192), (.str (S "built-in") 188)⟩, ⟨(K P (S "find_spec")), (.str (S "find_spec") 193), (.builtin "_frozen_importlib.BuiltinImporter.find_spec#opaque")⟩, ⟨(K P (S "create_module")), (.str (S "create_module") 194), (.builtin "_frozen_importlib.BuiltinImporter.create_module#opaque")⟩, ⟨(K P (S "exec_module")), (.str (S "exec_module") 195), (.builtin "_frozen_importlib.BuiltinImporter.exec_module#opaque")⟩, ⟨(K P (S "get_code")), (.str (S "get_code") 196), (.builtin "_frozen_importlib.BuiltinImporter.get_code#opaque")⟩, ⟨(K P (S "get_source")), (.str (S "get_source") 197), (.builtin "_frozen_importlib.BuiltinImporter.get_source#opaque")⟩, ⟨(K P (S "is_package")), (.str (S "is_package") 198), (.builtin "_frozen_importlib.BuiltinImporter.is_package#opaque")⟩, ⟨(K P (S "load_module")), (.str (S "load_module") 199), (.builtin "_frozen_importlib.BuiltinImporter.load_module#opaque")⟩, ⟨(K P (S "__static_attributes__")), (.str (S "__static_attributes__") 200), (.ref 15)⟩, ⟨(K P (S "__dict__")), (.str (S "__dict__") 202), (.ref 16)⟩, ⟨(K P (S "__weakref__")), (.str (S "__weakref__") 204), (.ref 17)⟩] 14), #[]⟩
noncomputable def o14 (_ : Params) : Obj := ⟨(.type "type"), none, (.cls { name := (S "BuiltinImporter"), bases := [(.type "object")], mro := [(.ref 14), (.type "object")], ns := 13, qualname := (S "BuiltinImporter"), hasDict := true, slotNames := [], subclasses := [], abstract := false, collection := none, hasDel := false }), #[]⟩
noncomputable def o15 (_ : Params) : Obj := ⟨(.type "tuple"), none, (.seq #[] 0), #[]⟩
noncomputable def o16 (_ : Params) : Obj := ⟨(.type "getset_descriptor"), none, (.fields #[(.str (S "__dict__") 201), (.ref 14), (.builtin "function.__dict__"), (.builtin "function.__dict__#set")]), #[]⟩
noncomputable def o17 (_ : Params) : Obj := ⟨(.type "getset_descriptor"), none, (.fields #[(.str (S "__weakref__") 203), (.ref 14), (.builtin "ExceptionGroup.__weakref__"), .none]), #[]⟩
noncomputable def o18 (_ : Params) : Obj := ⟨.none, none, (.seq #[(.int 13 0), (.str (S "\x06\u00bd\n__module__\x06\u00ba\x11_frozen_importlib\x06\u00be\x0f__firstlineno__\x04\u00bb\x00\u03cb\x06\u00bf\x07__doc__\t4_frozen_importlib.BuiltinImporter.__doc__:str#opaque\x06\u00c0\x07_ORIGIN\x06\u00bc\x08built-in\x06\u00c1\tfind_spec\t2_frozen_importlib.BuiltinImporter.find_spec#opaque\x06\u00c2\rcreate_module\t6_frozen_importlib.BuiltinImporter.create_module#opaque\x06\u00c3\x0bexec_module\t4_frozen_importlib.BuiltinImporter.exec_module#opaque\x06\u00c4\x08get_code\t1_frozen_importlib.BuiltinImporter.get_code#opaque\x06\u00c5\nget_source\t3_frozen_importlib.BuiltinImporter.get_source#opaque\x06\u00c6\nis_package\t3_frozen_importlib.BuiltinImporter.is_package#opaque\x06\u00c7\x0bload_module\t4_frozen_importlib.BuiltinImporter.load_module#opaque\x06\u00c8\x15__static_attributes__\x04\x00\x00\x0f\x06\u00ca\x08__dict__\x04\x00\x00\x10\x06\u00cc\x0b__weakref__\x04\x00\x00\x11") 0), (.bool true), (.bool true), (.str (S "") 205), (.int 21 0), (.str (S "\x06\u00e3\n__module__\x06\u00d9\x11_frozen_importlib\x06\u00e4\x0f__firstlineno__\x04\u00da\x00\u0232\x06\u00e5\x07__doc__\t/_frozen_importlib.ModuleSpec.__doc__:str#opaque\x06\u00e6\x08__init__\t,_frozen_importlib.ModuleSpec.__init__#opaque\x06\u00e7\x08__repr__\t,_frozen_importlib.ModuleSpec.__repr__#opaque\x06\u00e8\x06__eq__\t*_frozen_importlib.ModuleSpec.__eq__#opaque\x06\u00e9\x06cached\t*_frozen_importlib.ModuleSpec.cached#opaque\x06\u00ea\x06parent\t*_frozen_importlib.ModuleSpec.parent#opaque\x06\u00eb\x0chas_location\t0_frozen_importlib.ModuleSpec.has_location#opaque\x06\u00ec\x15__static_attributes__\x04\x00\x00\x17\x06\u00ee\x08__dict__\x04\x00\x00\x18\x06\u00f0\x0b__weakref__\x04\x00\x00\x19\x06\u00f1\x08__hash__\x00") 0), (.bool true), (.bool true), (.str (S "") 242)] 1), #[]⟩
noncomputable def o19 (_ : Params) : Obj := ⟨(.type "list"), none, (.seq #[] 0), #[]⟩
noncomputable def o20 (P : Params) : Obj := ⟨(.type "dict"), none, (.dict #[⟨(K P (S "name")), (.str (S "name") 208), (.str (S "_sre") 207)⟩, ⟨(K P (S "loader")), (.str (S "loader") 209), (.ref 14)⟩, ⟨(K P (S "origin")), (.str (S "origin") 210), (.str (S "built-in") 184)⟩, ⟨(K P (S "loader_state")), (.str (S "loader_state") 211), .none⟩, ⟨(K P (S "submodule_search_locations")), (.str (S "submodule_search_locations") 212), .none⟩, ⟨(K P (S "_uninitialized_submodules")), (.str (S "_uninitialized_submodules") 213), (.ref 19)⟩, ⟨(K P (S "_set_fileattr")), (.str (S "_set_fileattr") 214), (.bool false)⟩, ⟨(K P (S "_cached")), (.str (S "_cached") 215), .none⟩, ⟨(K P (S "_initializing")), (.str (S "_initializing") 243), (.bool false)⟩] 9), #[]⟩
noncomputable def o21 (P : Params) : Obj := ⟨(.type "dict"), none, (.dict #[⟨(K P (S "__module__")), (.str (S "__module__") 227), (.str (S "_frozen_importlib") 217)⟩, ⟨(K P (S "__firstlineno__")), (.str (S "__firstlineno__") 228), (.int 562 218)⟩, ⟨(K P (S "__doc__")), (.str (S "__doc__") 229), (.builtin "_frozen_importlib.ModuleSpec.__doc__:str#opaque")⟩, ⟨(K P (S "__init__")), (.str (S "__init__") 230), (.builtin "_frozen_importlib.ModuleSpec.__init__#opaque")⟩, ⟨(K P (S "__repr__")), (.str (S "__repr__") 231), (.builtin "_frozen_importlib.ModuleSpec.__repr__#opaque")⟩, ⟨(K P (S "__eq__")), (.str (S "__eq__") 232), (.builtin "_frozen_importlib.ModuleSpec.__eq__#opaque")⟩, ⟨(K P (S "cached")), (.str (S "cached") 233), (.builtin "_frozen_importlib.ModuleSpec.cached#opaque")⟩, ⟨(K P (S "parent")), (.str (S "parent") 234), (.builtin "_frozen_importlib.ModuleSpec.parent#opaque")⟩, ⟨(K P (S "has_location")), (.str (S "has_location") 235), (.builtin "_frozen_importlib.ModuleSpec.has_location#opaque")⟩, ⟨(K P (S "__static_attributes__")), (.str (S "__static_attributes__") 236), (.ref 23)⟩, ⟨(K P (S "__dict__")), (.str (S "__dict__") 238), (.ref 24)⟩, ⟨(K P (S "__weakref__")), (.str (S "__weakref__") 240), (.ref 25)⟩, ⟨(K P (S "__hash__")), (.str (S "__hash__") 241), .none⟩] 13), #[]⟩
noncomputable def o22 (_ : Params) : Obj := ⟨(.type "type"), none, (.cls { name := (S "ModuleSpec"), bases := [(.type "object")], mro := [(.ref 22), (.type "object")], ns := 21, qualname := (S "ModuleSpec"), hasDict := true, slotNames := [], subclasses := [], abstract := false, collection := none, hasDel := false }), #[]⟩
noncomputable def o23 (_ : Params) : Obj := ⟨(.type "tuple"), none, (.seq #[(.str (S "_cached") 219), (.str (S "_set_fileattr") 220), (.str (S "_uninitialized_submodules") 221), (.str (S "loader") 222), (.str (S "loader_state") 223), (.str (S "name") 224), (.str (S "origin") 225), (.str (S "submodule_search_locations") 226)] 0), #[]⟩
noncomputable def o24 (_ : Params) : Obj := ⟨(.type "getset_descriptor"), none, (.fields #[(.str (S "__dict__") 237), (.ref 22), (.builtin "function.__dict__"), (.builtin "function.__dict__#set")]), #[]⟩
noncomputable def o25 (_ : Params) : Obj := ⟨(.type "getset_descriptor"), none, (.fields #[(.str (S "__weakref__") 239), (.ref 22), (.builtin "ExceptionGroup.__weakref__"), .none]), #[]⟩
noncomputable def o26 (_ : Params) : Obj := ⟨(.ref 22), (some 20), .plain, #[]⟩
noncomputable def o27 (_ : Params) : Obj := ⟨.none, none, (.seq #[(.int 11 0), (.str ⟨#[6, 247, 8, 95, 95, 110, 97, 109, 101, 95, 95, 6, 246, 4, 95, 115, 114, 101, 6, 248, 7, 95, 95, 100, 111, 99, 95, 95, 0, 6, 250, 11, 95, 95, 112, 97, 99, 107, 97, 103, 101, 95, 95, 6, 249, 0, 6, 251, 10, 95, 95, 108, 111, 97, 100, 101, 114, 95, 95, 4, 0, 0, 14, 6, 252, 8, 95, 95, 115, 112, 101, 99, 95, 95, 4, 0, 0, 26, 6, 253, 7, 99, 111, 109, 112, 105, 108, 101, 9, 12, 95, 115, 114, 101, 46, 99, 111, 109, 112, 105, 108, 101, 6, 254, 8, 116, 101, 109, 112, 108, 97, 116, 101, 9, 13, 95, 115, 114, 101, 46, 116, 101, 109, 112, 108, 97, 116, 101, 6, 255, 11, 103, 101, 116, 99, 111, 100, 101, 115, 105, 122, 101, 9, 16, 95, 115, 114, 101, 46, 103, 101, 116, 99, 111, 100, 101, 115, 105, 122, 101, 6, 256, 13, 97, 115, 99, 105, 105, 95, 105, 115, 99, 97, 115, 101, 100, 9, 18, 95, 115, 114, 101, 46, 97, 115, 99, 105, 105, 95, 105, 115, 99, 97, 115, 101, 100, 6, 257, 15, 117, 110, 105, 99, 111, 100, 101, 95, 105, 115, 99, 97, 115, 101, 100, 9, 20, 95, 115, 114, 101, 46, 117, 110, 105, 99, 111, 100, 101, 95, 105, 115, 99, 97, 115, 101, 100, 6, 258, 13, 97, 115, 99, 105, 105, 95, 116, 111, 108, 111, 119, 101, 114, 9, 18, 95, 115, 114, 101, 46, 97, 115, 99, 105, 105, 95, 116, 111, 108, 111, 119, 101, 114, 6, 259, 15, 117, 110, 105, 99, 111, 100, 101, 95, 116, 111, 108, 111, 119, 101, 114, 9, 20, 95, 115, 114, 101, 46, 117, 110, 105, 99, 111, 100, 101, 95, 116, 111, 108, 111, 119, 101, 114, 6, 261, 5, 77, 65, 71, 73, 67, 4, 260, 0, 20230612, 6, 263, 8, 67, 79, 68, 69, 83, 73, 90, 69, 4, 262, 0, 4, 6, 265, 9, 77, 65, 88, 82, 69, 80, 69, 65, 84, 4, 264, 0, 4294967295, 6, 267, 9, 77, 65, 88, 71, 82, 79, 85, 80, 83, 4, 266, 0, 1073741823, 6, 269, 9, 99, 111, 112, 121, 114, 105, 103, 104, 116, 6, 268, 53, 32, 83, 82, 69, 32, 50, 46, 50, 46, 50, 32, 67, 111, 112, 121, 114, 105, 103, 104, 116, 32, 40, 99, 41, 32, 49, 57, 57, 55, 45, 50, 48, 48, 50, 32, 98, 121, 32, 83, 101, 99, 114, 101, 116, 32, 76, 97, 98, 115, 32, 65, 66, 32]⟩ 0), (.bool true), (.bool false), (.str (S "_sre") 271)] 0), #[]⟩
noncomputable def o28 (_ : Params) : Obj := ⟨(.type "tuple"), none, (.seq #[] 0), #[]⟩
noncomputable def o29 (_ : Params) : Obj := ⟨.none, none, (.fields #[]), #[]⟩
noncomputable def o30 (_ : Params) : Obj := ⟨(.type "code"), none, (.fields #[(.str (S "<module>") 277), (.str (S "<module>") 278), (.str (S "/claim/cut.py") 279), (.int 1 0), (.int 0 0), (.int 0 0), (.int 0 0), (.int 0 0), (.ref 28), (.bool false), (.int 276 0), (.ref 29), .none, .none, .none, .none, (.int 280 0), (.int 1 0), (.str (S "/claim/cut.py") 281)]), #[]⟩
noncomputable def o31 (_ : Params) : Obj := ⟨(.type "frame"), none, .plain, #[(some (.ref 30)), (some (.ref 3)), (some (.ref 3)), none, (some (.str (S "__main__") 164)), none, (some (.ref 0))]⟩
noncomputable def o3a (P : Params) : Obj := ⟨(.type "dict"), none, (.dict #[⟨(K P (S "__name__")), (.str (S "__name__") 165), (.str (S "cpy313.tabnanny") 282)⟩, ⟨(K P (S "__doc__")), (.str (S "__doc__") 166), .none⟩, ⟨(K P (S "__package__")), (.str (S "__package__") 167), .none⟩, ⟨(K P (S "__loader__")), (.str (S "__loader__") 168), (.builtin "__main__.__loader__#opaque")⟩, ⟨(K P (S "__spec__")), (.str (S "__spec__") 169), .none⟩, ⟨(K P (S "__annotations__")), (.str (S "__annotations__") 170), (.ref 6)⟩, ⟨(K P (S "__builtins__")), (.str (S "__builtins__") 171), (.ref 4)⟩, ⟨(K P (S "__file__")), (.str (S "__file__") 173), (.str (S "/claim/cut.py") 172)⟩, ⟨(K P (S "__cached__")), (.str (S "__cached__") 174), .none⟩, ⟨(K P (S "_sre")), (.str (S "_sre") 275), (.ref 12)⟩] 10), #[]⟩
noncomputable def o3b (P : Params) : Obj := ⟨(.type "dict"), none, (.dict #[⟨(K P (S "__name__")), (.str (S "__name__") 165), (.str (S "cpy313.tabnanny") 282)⟩, ⟨(K P (S "__doc__")), (.str (S "__doc__") 166), .none⟩, ⟨(K P (S "__package__")), (.str (S "__package__") 167), .none⟩, ⟨(K P (S "__loader__")), (.str (S "__loader__") 168), (.builtin "__main__.__loader__#opaque")⟩, ⟨(K P (S "__spec__")), (.str (S "__spec__") 169), .none⟩, ⟨(K P (S "__annotations__")), (.str (S "__annotations__") 170), (.ref 6)⟩, ⟨(K P (S "__builtins__")), (.str (S "__builtins__") 171), (.ref 4)⟩, ⟨(K P (S "__file__")), (.str (S "__file__") 173), (.str (S "/claim/cut.py") 172)⟩, ⟨(K P (S "__cached__")), (.str (S "__cached__") 174), .none⟩, ⟨(K P (S "_sre")), (.str (S "_sre") 275), (.ref 12)⟩, ⟨(K P (S "Whitespace")), (.str (S "Whitespace") 389), (.ref 93)⟩] 11), #[]⟩
noncomputable def o29a (_ : Params) : Obj := ⟨.none, none, (.fields #[(.int 3 0), (.int 0 0), (.ref 37)]), #[]⟩
noncomputable def o32 (_ : Params) : Obj := ⟨(.type "tuple"), none, (.seq #[] 0), #[]⟩
noncomputable def o33 (_ : Params) : Obj := ⟨(.type "builtin_function_or_method"), none, (.fields #[(.builtin "type.__prepare__"), (.type "type")]), #[]⟩
noncomputable def o34 (P : Params) : Obj := ⟨(.type "dict"), none, (.dict #[⟨(K P (S "__module__")), (.str (S "__module__") 291), (.str (S "cpy313.tabnanny") 282)⟩, ⟨(K P (S "__qualname__")), (.str (S "__qualname__") 293), (.str (S "Whitespace") 292)⟩, ⟨(K P (S "__firstlineno__")), (.str (S "__firstlineno__") 295), (.int 3 294)⟩, ⟨(K P (S "S")), (.str (S "S") 299), (.str (S " ") 297)⟩, ⟨(K P (S "T")), (.str (S "T") 300), (.str (S "\t") 298)⟩, ⟨(K P (S "__init__")), (.str (S "__init__") 315), (.ref 48)⟩, ⟨(K P (S "longest_run_of_spaces")), (.str (S "longest_run_of_spaces") 324), (.ref 55)⟩, ⟨(K P (S "indent_level")), (.str (S "indent_level") 336), (.ref 62)⟩, ⟨(K P (S "equal")), (.str (S "equal") 344), (.ref 69)⟩, ⟨(K P (S "not_equal_witness")), (.str (S "not_equal_witness") 355), (.ref 76)⟩, ⟨(K P (S "less")), (.str (S "less") 365), (.ref 83)⟩, ⟨(K P (S "not_less_witness")), (.str (S "not_less_witness") 376), (.ref 90)⟩, ⟨(K P (S "__static_attributes__")), (.str (S "__static_attributes__") 382), (.ref 91)⟩] 13), #[]⟩
noncomputable def o35 (_ : Params) : Obj := ⟨(.type "tuple"), none, (.seq #[] 0), #[]⟩
noncomputable def o36 (_ : Params) : Obj := ⟨.none, none, (.fields #[(.int 6 0), (.int 4 0), (.ref 47), (.int 29 0), (.int 4 0), (.ref 54), (.int 33 0), (.int 4 0), (.ref 61), (.int 40 0), (.int 4 0), (.ref 68), (.int 43 0), (.int 4 0), (.ref 75), (.int 51 0), (.int 4 0), (.ref 82), (.int 62 0), (.int 4 0), (.ref 89)]), #[]⟩
noncomputable def o37 (_ : Params) : Obj := ⟨(.type "code"), none, (.fields #[(.str (S "Whitespace") 286), (.str (S "Whitespace") 287), (.str (S "/claim/cut.py") 288), (.int 3 0), (.int 0 0), (.int 0 0), (.int 0 0), (.int 0 0), (.ref 35), (.bool false), (.int 276 0), (.ref 36), .none, .none, .none, .none, (.int 289 0), (.int 3 0), (.str (S "/claim/cut.py") 290)]), #[]⟩
noncomputable def o38 (_ : Params) : Obj := ⟨(.type "frame"), none, .plain, #[(some (.ref 37)), (some (.ref 3)), (some (.ref 34)), none, (some (.str (S "cpy313.tabnanny") 282)), none, (some (.ref 0))]⟩
noncomputable def o39 (_ : Params) : Obj := ⟨(.type "str_ascii_iterator"), none, (.fields #[.none, (.int 2 0)]), #[]⟩
noncomputable def o40 (_ : Params) : Obj := ⟨(.type "tuple"), none, (.seq #[] 0), #[]⟩
noncomputable def o41 (_ : Params) : Obj := ⟨(.type "StopIteration"), none, (.fields #[(.ref 40), .none, .none, .none, (.bool false), .none]), #[]⟩
noncomputable def o42 (_ : Params) : Obj := ⟨(.type "tuple"), none, (.seq #[] 0), #[]⟩
noncomputable def o43 (_ : Params) : Obj := ⟨.none, none, (.fields #[]), #[]⟩
noncomputable def o44 (_ : Params) : Obj := ⟨(.type "tuple"), none, (.seq #[(.str (S "self") 304), (.str (S "ws") 305), (.str (S "S") 306), (.str (S "T") 307), (.str (S "count") 308), (.str (S "b") 309), (.str (S "n") 310), (.str (S "nt") 311), (.str (S "ch") 312)] 0), #[]⟩
noncomputable def o45 (_ : Params) : Obj := ⟨(.type "tuple"), none, (.seq #[] 0), #[]⟩
noncomputable def o46 (_ : Params) : Obj := ⟨.none, none, (.func { name := (S "__init__"), qualname := (S "Whitespace.__init__"), params := argsOf (stM 1), body := .stmts (stmtsOf (stM 1)), scope := scopeOf (stM 1), globals := 0, closure := [], defaults := .none, kwdefaults := .none, doc := .none, pyModule := .none, annotations := none, code := .none, closureTuple := .none, builtins := 0 }), #[]⟩
noncomputable def o47 (_ : Params) : Obj := ⟨(.type "code"), none, (.fields #[(.str (S "__init__") 301), (.str (S "Whitespace.__init__") 302), (.str (S "/claim/cut.py") 303), (.int 6 0), (.int 2 0), (.int 0 0), (.int 0 0), (.int 3 0), (.ref 42), (.bool true), (.int 276 0), (.ref 43), .none, (.ref 44), (.ref 45), (.ref 46), (.int 313 0), (.int 6 0), (.str (S "/claim/cut.py") 314)]), #[]⟩
noncomputable def o48 (_ : Params) : Obj := ⟨(.type "function"), none, (.func { name := (S "__init__"), qualname := (S "Whitespace.__init__"), params := argsOf (stM 1), body := .stmts (stmtsOf (stM 1)), scope := scopeOf (stM 1), globals := 3, closure := [], defaults := .none, kwdefaults := .none, doc := .none, pyModule := (.str (S "cpy313.tabnanny") 282), annotations := none, code := (.ref 47), closureTuple := .none, builtins := 0 }), #[]⟩
noncomputable def o49 (_ : Params) : Obj := ⟨(.type "tuple"), none, (.seq #[] 0), #[]⟩
noncomputable def o50 (_ : Params) : Obj := ⟨.none, none, (.fields #[]), #[]⟩
noncomputable def o51 (_ : Params) : Obj := ⟨(.type "tuple"), none, (.seq #[(.str (S "self") 319), (.str (S "count") 320), (.str (S "trailing") 321)] 0), #[]⟩
noncomputable def o52 (_ : Params) : Obj := ⟨(.type "tuple"), none, (.seq #[] 0), #[]⟩
noncomputable def o53 (_ : Params) : Obj := ⟨.none, none, (.func { name := (S "longest_run_of_spaces"), qualname := (S "Whitespace.longest_run_of_spaces"), params := argsOf (stM 2), body := .stmts (stmtsOf (stM 2)), scope := scopeOf (stM 2), globals := 0, closure := [], defaults := .none, kwdefaults := .none, doc := .none, pyModule := .none, annotations := none, code := .none, closureTuple := .none, builtins := 0 }), #[]⟩
noncomputable def o54 (_ : Params) : Obj := ⟨(.type "code"), none, (.fields #[(.str (S "longest_run_of_spaces") 316), (.str (S "Whitespace.longest_run_of_spaces") 317), (.str (S "/claim/cut.py") 318), (.int 29 0), (.int 1 0), (.int 0 0), (.int 0 0), (.int 3 0), (.ref 49), (.bool true), (.int 276 0), (.ref 50), .none, (.ref 51), (.ref 52), (.ref 53), (.int 322 0), (.int 29 0), (.str (S "/claim/cut.py") 323)]), #[]⟩
noncomputable def o55 (_ : Params) : Obj := ⟨(.type "function"), none, (.func { name := (S "longest_run_of_spaces"), qualname := (S "Whitespace.longest_run_of_spaces"), params := argsOf (stM 2), body := .stmts (stmtsOf (stM 2)), scope := scopeOf (stM 2), globals := 3, closure := [], defaults := .none, kwdefaults := .none, doc := .none, pyModule := (.str (S "cpy313.tabnanny") 282), annotations := none, code := (.ref 54), closureTuple := .none, builtins := 0 }), #[]⟩
noncomputable def o56 (_ : Params) : Obj := ⟨(.type "tuple"), none, (.seq #[] 0), #[]⟩
noncomputable def o57 (_ : Params) : Obj := ⟨.none, none, (.fields #[]), #[]⟩
noncomputable def o58 (_ : Params) : Obj := ⟨(.type "tuple"), none, (.seq #[(.str (S "self") 328), (.str (S "tabsize") 329), (.str (S "count") 330), (.str (S "trailing") 331), (.str (S "il") 332), (.str (S "i") 333)] 0), #[]⟩
noncomputable def o59 (_ : Params) : Obj := ⟨(.type "tuple"), none, (.seq #[] 0), #[]⟩
noncomputable def o60 (_ : Params) : Obj := ⟨.none, none, (.func { name := (S "indent_level"), qualname := (S "Whitespace.indent_level"), params := argsOf (stM 3), body := .stmts (stmtsOf (stM 3)), scope := scopeOf (stM 3), globals := 0, closure := [], defaults := .none, kwdefaults := .none, doc := .none, pyModule := .none, annotations := none, code := .none, closureTuple := .none, builtins := 0 }), #[]⟩
noncomputable def o61 (_ : Params) : Obj := ⟨(.type "code"), none, (.fields #[(.str (S "indent_level") 325), (.str (S "Whitespace.indent_level") 326), (.str (S "/claim/cut.py") 327), (.int 33 0), (.int 2 0), (.int 0 0), (.int 0 0), (.int 3 0), (.ref 56), (.bool true), (.int 276 0), (.ref 57), .none, (.ref 58), (.ref 59), (.ref 60), (.int 334 0), (.int 33 0), (.str (S "/claim/cut.py") 335)]), #[]⟩
noncomputable def o62 (_ : Params) : Obj := ⟨(.type "function"), none, (.func { name := (S "indent_level"), qualname := (S "Whitespace.indent_level"), params := argsOf (stM 3), body := .stmts (stmtsOf (stM 3)), scope := scopeOf (stM 3), globals := 3, closure := [], defaults := .none, kwdefaults := .none, doc := .none, pyModule := (.str (S "cpy313.tabnanny") 282), annotations := none, code := (.ref 61), closureTuple := .none, builtins := 0 }), #[]⟩
noncomputable def o63 (_ : Params) : Obj := ⟨(.type "tuple"), none, (.seq #[] 0), #[]⟩
noncomputable def o64 (_ : Params) : Obj := ⟨.none, none, (.fields #[]), #[]⟩
noncomputable def o65 (_ : Params) : Obj := ⟨(.type "tuple"), none, (.seq #[(.str (S "self") 340), (.str (S "other") 341)] 0), #[]⟩
noncomputable def o66 (_ : Params) : Obj := ⟨(.type "tuple"), none, (.seq #[] 0), #[]⟩
noncomputable def o67 (_ : Params) : Obj := ⟨.none, none, (.func { name := (S "equal"), qualname := (S "Whitespace.equal"), params := argsOf (stM 4), body := .stmts (stmtsOf (stM 4)), scope := scopeOf (stM 4), globals := 0, closure := [], defaults := .none, kwdefaults := .none, doc := .none, pyModule := .none, annotations := none, code := .none, closureTuple := .none, builtins := 0 }), #[]⟩
noncomputable def o68 (_ : Params) : Obj := ⟨(.type "code"), none, (.fields #[(.str (S "equal") 337), (.str (S "Whitespace.equal") 338), (.str (S "/claim/cut.py") 339), (.int 40 0), (.int 2 0), (.int 0 0), (.int 0 0), (.int 3 0), (.ref 63), (.bool true), (.int 276 0), (.ref 64), .none, (.ref 65), (.ref 66), (.ref 67), (.int 342 0), (.int 40 0), (.str (S "/claim/cut.py") 343)]), #[]⟩
noncomputable def o69 (_ : Params) : Obj := ⟨(.type "function"), none, (.func { name := (S "equal"), qualname := (S "Whitespace.equal"), params := argsOf (stM 4), body := .stmts (stmtsOf (stM 4)), scope := scopeOf (stM 4), globals := 3, closure := [], defaults := .none, kwdefaults := .none, doc := .none, pyModule := (.str (S "cpy313.tabnanny") 282), annotations := none, code := (.ref 68), closureTuple := .none, builtins := 0 }), #[]⟩
noncomputable def o70 (_ : Params) : Obj := ⟨(.type "tuple"), none, (.seq #[] 0), #[]⟩
noncomputable def o71 (_ : Params) : Obj := ⟨.none, none, (.fields #[]), #[]⟩
noncomputable def o72 (_ : Params) : Obj := ⟨(.type "tuple"), none, (.seq #[(.str (S "self") 348), (.str (S "other") 349), (.str (S "n") 350), (.str (S "a") 351), (.str (S "ts") 352)] 0), #[]⟩
noncomputable def o73 (_ : Params) : Obj := ⟨(.type "tuple"), none, (.seq #[] 0), #[]⟩
noncomputable def o74 (_ : Params) : Obj := ⟨.none, none, (.func { name := (S "not_equal_witness"), qualname := (S "Whitespace.not_equal_witness"), params := argsOf (stM 5), body := .stmts (stmtsOf (stM 5)), scope := scopeOf (stM 5), globals := 0, closure := [], defaults := .none, kwdefaults := .none, doc := .none, pyModule := .none, annotations := none, code := .none, closureTuple := .none, builtins := 0 }), #[]⟩
noncomputable def o75 (_ : Params) : Obj := ⟨(.type "code"), none, (.fields #[(.str (S "not_equal_witness") 345), (.str (S "Whitespace.not_equal_witness") 346), (.str (S "/claim/cut.py") 347), (.int 43 0), (.int 2 0), (.int 0 0), (.int 0 0), (.int 3 0), (.ref 70), (.bool true), (.int 276 0), (.ref 71), .none, (.ref 72), (.ref 73), (.ref 74), (.int 353 0), (.int 43 0), (.str (S "/claim/cut.py") 354)]), #[]⟩
noncomputable def o76 (_ : Params) : Obj := ⟨(.type "function"), none, (.func { name := (S "not_equal_witness"), qualname := (S "Whitespace.not_equal_witness"), params := argsOf (stM 5), body := .stmts (stmtsOf (stM 5)), scope := scopeOf (stM 5), globals := 3, closure := [], defaults := .none, kwdefaults := .none, doc := .none, pyModule := (.str (S "cpy313.tabnanny") 282), annotations := none, code := (.ref 75), closureTuple := .none, builtins := 0 }), #[]⟩
noncomputable def o77 (_ : Params) : Obj := ⟨(.type "tuple"), none, (.seq #[] 0), #[]⟩
noncomputable def o78 (_ : Params) : Obj := ⟨.none, none, (.fields #[]), #[]⟩
noncomputable def o79 (_ : Params) : Obj := ⟨(.type "tuple"), none, (.seq #[(.str (S "self") 359), (.str (S "other") 360), (.str (S "n") 361), (.str (S "ts") 362)] 0), #[]⟩
noncomputable def o80 (_ : Params) : Obj := ⟨(.type "tuple"), none, (.seq #[] 0), #[]⟩
noncomputable def o81 (_ : Params) : Obj := ⟨.none, none, (.func { name := (S "less"), qualname := (S "Whitespace.less"), params := argsOf (stM 6), body := .stmts (stmtsOf (stM 6)), scope := scopeOf (stM 6), globals := 0, closure := [], defaults := .none, kwdefaults := .none, doc := .none, pyModule := .none, annotations := none, code := .none, closureTuple := .none, builtins := 0 }), #[]⟩
noncomputable def o82 (_ : Params) : Obj := ⟨(.type "code"), none, (.fields #[(.str (S "less") 356), (.str (S "Whitespace.less") 357), (.str (S "/claim/cut.py") 358), (.int 51 0), (.int 2 0), (.int 0 0), (.int 0 0), (.int 3 0), (.ref 77), (.bool true), (.int 276 0), (.ref 78), .none, (.ref 79), (.ref 80), (.ref 81), (.int 363 0), (.int 51 0), (.str (S "/claim/cut.py") 364)]), #[]⟩
noncomputable def o83 (_ : Params) : Obj := ⟨(.type "function"), none, (.func { name := (S "less"), qualname := (S "Whitespace.less"), params := argsOf (stM 6), body := .stmts (stmtsOf (stM 6)), scope := scopeOf (stM 6), globals := 3, closure := [], defaults := .none, kwdefaults := .none, doc := .none, pyModule := (.str (S "cpy313.tabnanny") 282), annotations := none, code := (.ref 82), closureTuple := .none, builtins := 0 }), #[]⟩
noncomputable def o84 (_ : Params) : Obj := ⟨(.type "tuple"), none, (.seq #[] 0), #[]⟩
noncomputable def o85 (_ : Params) : Obj := ⟨.none, none, (.fields #[]), #[]⟩
noncomputable def o86 (_ : Params) : Obj := ⟨(.type "tuple"), none, (.seq #[(.str (S "self") 369), (.str (S "other") 370), (.str (S "n") 371), (.str (S "a") 372), (.str (S "ts") 373)] 0), #[]⟩
noncomputable def o87 (_ : Params) : Obj := ⟨(.type "tuple"), none, (.seq #[] 0), #[]⟩
noncomputable def o88 (_ : Params) : Obj := ⟨.none, none, (.func { name := (S "not_less_witness"), qualname := (S "Whitespace.not_less_witness"), params := argsOf (stM 7), body := .stmts (stmtsOf (stM 7)), scope := scopeOf (stM 7), globals := 0, closure := [], defaults := .none, kwdefaults := .none, doc := .none, pyModule := .none, annotations := none, code := .none, closureTuple := .none, builtins := 0 }), #[]⟩
noncomputable def o89 (_ : Params) : Obj := ⟨(.type "code"), none, (.fields #[(.str (S "not_less_witness") 366), (.str (S "Whitespace.not_less_witness") 367), (.str (S "/claim/cut.py") 368), (.int 62 0), (.int 2 0), (.int 0 0), (.int 0 0), (.int 3 0), (.ref 84), (.bool true), (.int 276 0), (.ref 85), .none, (.ref 86), (.ref 87), (.ref 88), (.int 374 0), (.int 62 0), (.str (S "/claim/cut.py") 375)]), #[]⟩
noncomputable def o90 (_ : Params) : Obj := ⟨(.type "function"), none, (.func { name := (S "not_less_witness"), qualname := (S "Whitespace.not_less_witness"), params := argsOf (stM 7), body := .stmts (stmtsOf (stM 7)), scope := scopeOf (stM 7), globals := 3, closure := [], defaults := .none, kwdefaults := .none, doc := .none, pyModule := (.str (S "cpy313.tabnanny") 282), annotations := none, code := (.ref 89), closureTuple := .none, builtins := 0 }), #[]⟩
noncomputable def o91 (_ : Params) : Obj := ⟨(.type "tuple"), none, (.seq #[(.str (S "is_simple") 377), (.str (S "n") 378), (.str (S "norm") 379), (.str (S "nt") 380), (.str (S "raw") 381)] 0), #[]⟩
noncomputable def o92 (P : Params) : Obj := ⟨(.type "dict"), none, (.dict #[⟨(K P (S "__module__")), (.str (S "__module__") 291), (.str (S "cpy313.tabnanny") 282)⟩, ⟨(K P (S "__firstlineno__")), (.str (S "__firstlineno__") 295), (.int 3 294)⟩, ⟨(K P (S "S")), (.str (S "S") 299), (.str (S " ") 297)⟩, ⟨(K P (S "T")), (.str (S "T") 300), (.str (S "\t") 298)⟩, ⟨(K P (S "__init__")), (.str (S "__init__") 315), (.ref 48)⟩, ⟨(K P (S "longest_run_of_spaces")), (.str (S "longest_run_of_spaces") 324), (.ref 55)⟩, ⟨(K P (S "indent_level")), (.str (S "indent_level") 336), (.ref 62)⟩, ⟨(K P (S "equal")), (.str (S "equal") 344), (.ref 69)⟩, ⟨(K P (S "not_equal_witness")), (.str (S "not_equal_witness") 355), (.ref 76)⟩, ⟨(K P (S "less")), (.str (S "less") 365), (.ref 83)⟩, ⟨(K P (S "not_less_witness")), (.str (S "not_less_witness") 376), (.ref 90)⟩, ⟨(K P (S "__static_attributes__")), (.str (S "__static_attributes__") 382), (.ref 91)⟩, ⟨(K P (S "__dict__")), (.str (S "__dict__") 384), (.ref 94)⟩, ⟨(K P (S "__weakref__")), (.str (S "__weakref__") 386), (.ref 95)⟩, ⟨(K P (S "__doc__")), (.str (S "__doc__") 387), .none⟩] 4), #[]⟩
noncomputable def o93 (_ : Params) : Obj := ⟨(.type "type"), none, (.cls { name := (S "Whitespace"), bases := [(.type "object")], mro := [(.ref 93), (.type "object")], ns := 92, qualname := (S "Whitespace"), hasDict := true, slotNames := [], subclasses := [], abstract := false, collection := none, hasDel := false }), #[none, none, (some (.str (S "Whitespace") 284)), (some (.str (S "Whitespace") 292)), (some (.builtin "object.__new__")), (some (.bool true))]⟩
noncomputable def o94 (_ : Params) : Obj := ⟨(.type "getset_descriptor"), none, (.fields #[(.str (S "__dict__") 383), (.ref 93), (.builtin "function.__dict__"), (.builtin "function.__dict__#set")]), #[]⟩
noncomputable def o95 (_ : Params) : Obj := ⟨(.type "getset_descriptor"), none, (.fields #[(.str (S "__weakref__") 385), (.ref 93), (.builtin "ExceptionGroup.__weakref__"), .none]), #[]⟩
noncomputable def o96 (_ : Params) : Obj := ⟨(.type "super"), none, (.fields #[(.ref 93), (.ref 93), (.ref 93)]), #[]⟩
noncomputable def o97 (_ : Params) : Obj := ⟨(.type "builtin_function_or_method"), none, (.fields #[(.builtin "object.__init_subclass__"), (.ref 93)]), #[]⟩
noncomputable def o3c (P : Params) : Obj := ⟨(.type "dict"), none, (.dict #[⟨(K P (S "__name__")), (.str (S "__name__") 165), (.str (S "cpy313.smtplib") 390)⟩, ⟨(K P (S "__doc__")), (.str (S "__doc__") 166), .none⟩, ⟨(K P (S "__package__")), (.str (S "__package__") 167), .none⟩, ⟨(K P (S "__loader__")), (.str (S "__loader__") 168), (.builtin "__main__.__loader__#opaque")⟩, ⟨(K P (S "__spec__")), (.str (S "__spec__") 169), .none⟩, ⟨(K P (S "__annotations__")), (.str (S "__annotations__") 170), (.ref 6)⟩, ⟨(K P (S "__builtins__")), (.str (S "__builtins__") 171), (.ref 4)⟩, ⟨(K P (S "__file__")), (.str (S "__file__") 173), (.str (S "/claim/cut.py") 172)⟩, ⟨(K P (S "__cached__")), (.str (S "__cached__") 174), .none⟩, ⟨(K P (S "_sre")), (.str (S "_sre") 275), (.ref 12)⟩, ⟨(K P (S "Whitespace")), (.str (S "Whitespace") 389), (.ref 93)⟩] 11), #[]⟩
noncomputable def o3d (P : Params) : Obj := ⟨(.type "dict"), none, (.dict #[⟨(K P (S "__name__")), (.str (S "__name__") 165), (.str (S "cpy313.smtplib") 390)⟩, ⟨(K P (S "__doc__")), (.str (S "__doc__") 166), .none⟩, ⟨(K P (S "__package__")), (.str (S "__package__") 167), .none⟩, ⟨(K P (S "__loader__")), (.str (S "__loader__") 168), (.builtin "__main__.__loader__#opaque")⟩, ⟨(K P (S "__spec__")), (.str (S "__spec__") 169), .none⟩, ⟨(K P (S "__annotations__")), (.str (S "__annotations__") 170), (.ref 6)⟩, ⟨(K P (S "__builtins__")), (.str (S "__builtins__") 171), (.ref 4)⟩, ⟨(K P (S "__file__")), (.str (S "__file__") 173), (.str (S "/claim/cut.py") 172)⟩, ⟨(K P (S "__cached__")), (.str (S "__cached__") 174), .none⟩, ⟨(K P (S "_sre")), (.str (S "_sre") 275), (.ref 12)⟩, ⟨(K P (S "Whitespace")), (.str (S "Whitespace") 389), (.ref 93)⟩, ⟨(K P (S "_twin_re_1")), (.str (S "_twin_re_1") 407), (.ref 102)⟩] 12), #[]⟩
noncomputable def o98 (_ : Params) : Obj := ⟨(.type "list"), none, (.seq #[(.int 14 395), (.int 4 396), (.int 0 397), (.int 1 398), (.int 1 399), (.int 6 400), (.int 1 401), (.int 16 402), (.int 46 403), (.int 1 404)] 0), #[]⟩
noncomputable def o99 (_ : Params) : Obj := ⟨(.type "dict"), none, (.dict #[] 0), #[]⟩
noncomputable def o100 (_ : Params) : Obj := ⟨(.type "tuple"), none, (.seq #[.none] 0), #[]⟩
noncomputable def o101 (_ : Params) : Obj := ⟨(.type "tuple"), none, (.seq #[(.int 14 0), (.int 4 0), (.int 0 0), (.int 1 0), (.int 1 0), (.int 6 0), (.int 1 0), (.int 16 0), (.int 46 0), (.int 1 0)] 0), #[]⟩
noncomputable def o102 (_ : Params) : Obj := ⟨(.type "re.Pattern"), none, (.fields #[(.str (S "(?m)^\\.") 393), (.int 40 406), (.int 0 0), .none, .none, (.ref 101), (.int 0 0)]), #[]⟩
noncomputable def o3e (P : Params) : Obj := ⟨(.type "dict"), none, (.dict #[⟨(K P (S "__name__")), (.str (S "__name__") 165), (.str (S "cpy313.smtplib") 390)⟩, ⟨(K P (S "__doc__")), (.str (S "__doc__") 166), .none⟩, ⟨(K P (S "__package__")), (.str (S "__package__") 167), .none⟩, ⟨(K P (S "__loader__")), (.str (S "__loader__") 168), (.builtin "__main__.__loader__#opaque")⟩, ⟨(K P (S "__spec__")), (.str (S "__spec__") 169), .none⟩, ⟨(K P (S "__annotations__")), (.str (S "__annotations__") 170), (.ref 6)⟩, ⟨(K P (S "__builtins__")), (.str (S "__builtins__") 171), (.ref 4)⟩, ⟨(K P (S "__file__")), (.str (S "__file__") 173), (.str (S "/claim/cut.py") 172)⟩, ⟨(K P (S "__cached__")), (.str (S "__cached__") 174), .none⟩, ⟨(K P (S "_sre")), (.str (S "_sre") 275), (.ref 12)⟩, ⟨(K P (S "Whitespace")), (.str (S "Whitespace") 389), (.ref 93)⟩, ⟨(K P (S "_twin_re_1")), (.str (S "_twin_re_1") 407), (.ref 102)⟩, ⟨(K P (S "_twin_re_2")), (.str (S "_twin_re_2") 449), (.ref 107)⟩] 13), #[]⟩
noncomputable def o103 (_ : Params) : Obj := ⟨(.type "list"), none, (.seq #[(.int 14 411), (.int 9 412), (.int 4 413), (.int 1 414), (.int 2 415), (.int 16 416), (.int 10 417), (.int 16 418), (.int 13 419), (.int 0 420), (.int 7 421), (.int 7 422), (.int 16 423), (.int 13 424), (.int 16 425), (.int 10 426), (.int 15 427), (.int 18 428), (.int 5 429), (.int 16 430), (.int 10 431), (.int 15 432), (.int 13 433), (.int 11 434), (.int 16 435), (.int 13 436), (.int 5 437), (.int 5 438), (.int 0 439), (.int 16 440), (.int 10 441), (.int 1 442), (.int 15 443), (.int 2 444), (.int 0 445), (.int 1 446)] 0), #[]⟩
noncomputable def o104 (_ : Params) : Obj := ⟨(.type "dict"), none, (.dict #[] 0), #[]⟩
noncomputable def o105 (_ : Params) : Obj := ⟨(.type "tuple"), none, (.seq #[.none] 0), #[]⟩
noncomputable def o106 (_ : Params) : Obj := ⟨(.type "tuple"), none, (.seq #[(.int 14 0), (.int 9 0), (.int 4 0), (.int 1 0), (.int 2 0), (.int 16 0), (.int 10 0), (.int 16 0), (.int 13 0), (.int 0 0), (.int 7 0), (.int 7 0), (.int 16 0), (.int 13 0), (.int 16 0), (.int 10 0), (.int 15 0), (.int 18 0), (.int 5 0), (.int 16 0), (.int 10 0), (.int 15 0), (.int 13 0), (.int 11 0), (.int 16 0), (.int 13 0), (.int 5 0), (.int 5 0), (.int 0 0), (.int 16 0), (.int 10 0), (.int 1 0), (.int 15 0), (.int 2 0), (.int 0 0), (.int 1 0)] 0), #[]⟩
noncomputable def o107 (_ : Params) : Obj := ⟨(.type "re.Pattern"), none, (.fields #[(.str (S "(?:\\r\\n|\\n|\\r(?!\\n))") 409), (.int 32 448), (.int 0 0), .none, .none, (.ref 106), (.int 0 0)]), #[]⟩
noncomputable def o3f (P : Params) : Obj := ⟨(.type "dict"), none, (.dict #[⟨(K P (S "__name__")), (.str (S "__name__") 165), (.str (S "cpy313.smtplib") 390)⟩, ⟨(K P (S "__doc__")), (.str (S "__doc__") 166), .none⟩, ⟨(K P (S "__package__")), (.str (S "__package__") 167), .none⟩, ⟨(K P (S "__loader__")), (.str (S "__loader__") 168), (.builtin "__main__.__loader__#opaque")⟩, ⟨(K P (S "__spec__")), (.str (S "__spec__") 169), .none⟩, ⟨(K P (S "__annotations__")), (.str (S "__annotations__") 170), (.ref 6)⟩, ⟨(K P (S "__builtins__")), (.str (S "__builtins__") 171), (.ref 4)⟩, ⟨(K P (S "__file__")), (.str (S "__file__") 173), (.str (S "/claim/cut.py") 172)⟩, ⟨(K P (S "__cached__")), (.str (S "__cached__") 174), .none⟩, ⟨(K P (S "_sre")), (.str (S "_sre") 275), (.ref 12)⟩, ⟨(K P (S "Whitespace")), (.str (S "Whitespace") 389), (.ref 93)⟩, ⟨(K P (S "_twin_re_1")), (.str (S "_twin_re_1") 407), (.ref 102)⟩, ⟨(K P (S "_twin_re_2")), (.str (S "_twin_re_2") 449), (.ref 107)⟩, ⟨(K P (S "CRLF")), (.str (S "CRLF") 451), (.str (S "\r\n") 450)⟩] 14), #[]⟩
noncomputable def o3g (P : Params) : Obj := ⟨(.type "dict"), none, (.dict #[⟨(K P (S "__name__")), (.str (S "__name__") 165), (.str (S "cpy313.smtplib") 390)⟩, ⟨(K P (S "__doc__")), (.str (S "__doc__") 166), .none⟩, ⟨(K P (S "__package__")), (.str (S "__package__") 167), .none⟩, ⟨(K P (S "__loader__")), (.str (S "__loader__") 168), (.builtin "__main__.__loader__#opaque")⟩, ⟨(K P (S "__spec__")), (.str (S "__spec__") 169), .none⟩, ⟨(K P (S "__annotations__")), (.str (S "__annotations__") 170), (.ref 6)⟩, ⟨(K P (S "__builtins__")), (.str (S "__builtins__") 171), (.ref 4)⟩, ⟨(K P (S "__file__")), (.str (S "__file__") 173), (.str (S "/claim/cut.py") 172)⟩, ⟨(K P (S "__cached__")), (.str (S "__cached__") 174), .none⟩, ⟨(K P (S "_sre")), (.str (S "_sre") 275), (.ref 12)⟩, ⟨(K P (S "Whitespace")), (.str (S "Whitespace") 389), (.ref 93)⟩, ⟨(K P (S "_twin_re_1")), (.str (S "_twin_re_1") 407), (.ref 102)⟩, ⟨(K P (S "_twin_re_2")), (.str (S "_twin_re_2") 449), (.ref 107)⟩, ⟨(K P (S "CRLF")), (.str (S "CRLF") 451), (.str (S "\r\n") 450)⟩, ⟨(K P (S "quotedata")), (.str (S "quotedata") 458), (.ref 114)⟩] 15), #[]⟩
noncomputable def o29b (_ : Params) : Obj := ⟨.none, none, (.fields #[(.int 3 0), (.int 0 0), (.ref 37), (.int 73 0), (.int 0 0), (.ref 113)]), #[]⟩
noncomputable def o108 (_ : Params) : Obj := ⟨(.type "tuple"), none, (.seq #[] 0), #[]⟩
noncomputable def o109 (_ : Params) : Obj := ⟨.none, none, (.fields #[]), #[]⟩
noncomputable def o110 (_ : Params) : Obj := ⟨(.type "tuple"), none, (.seq #[(.str (S "data") 455)] 0), #[]⟩
noncomputable def o111 (_ : Params) : Obj := ⟨(.type "tuple"), none, (.seq #[] 0), #[]⟩
noncomputable def o112 (_ : Params) : Obj := ⟨.none, none, (.func { name := (S "quotedata"), qualname := (S "quotedata"), params := argsOf (stT 6), body := .stmts (stmtsOf (stT 6)), scope := scopeOf (stT 6), globals := 0, closure := [], defaults := .none, kwdefaults := .none, doc := .none, pyModule := .none, annotations := none, code := .none, closureTuple := .none, builtins := 0 }), #[]⟩
noncomputable def o113 (_ : Params) : Obj := ⟨(.type "code"), none, (.fields #[(.str (S "quotedata") 452), (.str (S "quotedata") 453), (.str (S "/claim/cut.py") 454), (.int 73 0), (.int 1 0), (.int 0 0), (.int 0 0), (.int 3 0), (.ref 108), (.bool true), (.int 276 0), (.ref 109), .none, (.ref 110), (.ref 111), (.ref 112), (.int 456 0), (.int 73 0), (.str (S "/claim/cut.py") 457)]), #[]⟩
noncomputable def o114 (_ : Params) : Obj := ⟨(.type "function"), none, (.func { name := (S "quotedata"), qualname := (S "quotedata"), params := argsOf (stT 6), body := .stmts (stmtsOf (stT 6)), scope := scopeOf (stT 6), globals := 3, closure := [], defaults := .none, kwdefaults := .none, doc := .none, pyModule := (.str (S "cpy313.smtplib") 390), annotations := none, code := (.ref 113), closureTuple := .none, builtins := 0 }), #[]⟩
noncomputable def o3h (P : Params) : Obj := ⟨(.type "dict"), none, (.dict #[⟨(K P (S "__name__")), (.str (S "__name__") 165), (.str (S "cpy313.stringprep") 459)⟩, ⟨(K P (S "__doc__")), (.str (S "__doc__") 166), .none⟩, ⟨(K P (S "__package__")), (.str (S "__package__") 167), .none⟩, ⟨(K P (S "__loader__")), (.str (S "__loader__") 168), (.builtin "__main__.__loader__#opaque")⟩, ⟨(K P (S "__spec__")), (.str (S "__spec__") 169), .none⟩, ⟨(K P (S "__annotations__")), (.str (S "__annotations__") 170), (.ref 6)⟩, ⟨(K P (S "__builtins__")), (.str (S "__builtins__") 171), (.ref 4)⟩, ⟨(K P (S "__file__")), (.str (S "__file__") 173), (.str (S "/claim/cut.py") 172)⟩, ⟨(K P (S "__cached__")), (.str (S "__cached__") 174), .none⟩, ⟨(K P (S "_sre")), (.str (S "_sre") 275), (.ref 12)⟩, ⟨(K P (S "Whitespace")), (.str (S "Whitespace") 389), (.ref 93)⟩, ⟨(K P (S "_twin_re_1")), (.str (S "_twin_re_1") 407), (.ref 102)⟩, ⟨(K P (S "_twin_re_2")), (.str (S "_twin_re_2") 449), (.ref 107)⟩, ⟨(K P (S "CRLF")), (.str (S "CRLF") 451), (.str (S "\r\n") 450)⟩, ⟨(K P (S "quotedata")), (.str (S "quotedata") 458), (.ref 114)⟩] 15), #[]⟩
noncomputable def o3i (P : Params) : Obj := ⟨(.type "dict"), none, (.dict #[⟨(K P (S "__name__")), (.str (S "__name__") 165), (.str (S "cpy313.stringprep") 459)⟩, ⟨(K P (S "__doc__")), (.str (S "__doc__") 166), .none⟩, ⟨(K P (S "__package__")), (.str (S "__package__") 167), .none⟩, ⟨(K P (S "__loader__")), (.str (S "__loader__") 168), (.builtin "__main__.__loader__#opaque")⟩, ⟨(K P (S "__spec__")), (.str (S "__spec__") 169), .none⟩, ⟨(K P (S "__annotations__")), (.str (S "__annotations__") 170), (.ref 6)⟩, ⟨(K P (S "__builtins__")), (.str (S "__builtins__") 171), (.ref 4)⟩, ⟨(K P (S "__file__")), (.str (S "__file__") 173), (.str (S "/claim/cut.py") 172)⟩, ⟨(K P (S "__cached__")), (.str (S "__cached__") 174), .none⟩, ⟨(K P (S "_sre")), (.str (S "_sre") 275), (.ref 12)⟩, ⟨(K P (S "Whitespace")), (.str (S "Whitespace") 389), (.ref 93)⟩, ⟨(K P (S "_twin_re_1")), (.str (S "_twin_re_1") 407), (.ref 102)⟩, ⟨(K P (S "_twin_re_2")), (.str (S "_twin_re_2") 449), (.ref 107)⟩, ⟨(K P (S "CRLF")), (.str (S "CRLF") 451), (.str (S "\r\n") 450)⟩, ⟨(K P (S "quotedata")), (.str (S "quotedata") 458), (.ref 114)⟩, ⟨(K P (S "b1_set")), (.str (S "b1_set") 520), (.ref 122)⟩] 16), #[]⟩
noncomputable def o115 (_ : Params) : Obj := ⟨(.type "list"), none, (.seq #[(.int 173 461), (.int 847 462), (.int 6150 463), (.int 6155 464), (.int 6156 465), (.int 6157 466), (.int 8203 467), (.int 8204 468), (.int 8205 469), (.int 8288 470), (.int 65279 471)] 0), #[]⟩
noncomputable def o116 (_ : Params) : Obj := ⟨(.type "range"), none, (.fields #[(.int 65024 472), (.int 65040 473), (.int 1 474)]), #[]⟩
noncomputable def o117 (_ : Params) : Obj := ⟨(.type "list"), none, (.seq #[(.int 65024 477), (.int 65025 478), (.int 65026 479), (.int 65027 480), (.int 65028 481), (.int 65029 482), (.int 65030 483), (.int 65031 484), (.int 65032 485), (.int 65033 486), (.int 65034 487), (.int 65035 488), (.int 65036 489), (.int 65037 490), (.int 65038 491), (.int 65039 492)] 18), #[]⟩
noncomputable def o118 (_ : Params) : Obj := ⟨(.type "range_iterator"), none, (.fields #[(.int 65040 0), (.int 0 0), (.int 1 0)]), #[]⟩
noncomputable def o119 (_ : Params) : Obj := ⟨(.type "tuple"), none, (.seq #[] 0), #[]⟩
noncomputable def o120 (_ : Params) : Obj := ⟨(.type "StopIteration"), none, (.fields #[(.ref 119), .none, .none, .none, (.bool false), .none]), #[]⟩
noncomputable def o121 (_ : Params) : Obj := ⟨(.type "list"), none, (.seq #[(.int 173 461), (.int 847 462), (.int 6150 463), (.int 6155 464), (.int 6156 465), (.int 6157 466), (.int 8203 467), (.int 8204 468), (.int 8205 469), (.int 8288 470), (.int 65279 471), (.int 65024 477), (.int 65025 478), (.int 65026 479), (.int 65027 480), (.int 65028 481), (.int 65029 482), (.int 65030 483), (.int 65031 484), (.int 65032 485), (.int 65033 486), (.int 65034 487), (.int 65035 488), (.int 65036 489), (.int 65037 490), (.int 65038 491), (.int 65039 492)] 0), #[]⟩
noncomputable def o122 (P : Params) : Obj := ⟨(.type "set"), none, (.set #[(65024, (.int 65024 477)), (65025, (.int 65025 478)), (65026, (.int 65026 479)), (65027, (.int 65027 480)), (65028, (.int 65028 481)), (65029, (.int 65029 482)), (6150, (.int 6150 463)), (65030, (.int 65030 483)), (65031, (.int 65031 484)), (65032, (.int 65032 485)), (65033, (.int 65033 486)), (6155, (.int 6155 464)), (6156, (.int 6156 465)), (6157, (.int 6157 466)), (8203, (.int 8203 467)), (8204, (.int 8204 468)), (8205, (.int 8205 469)), (65034, (.int 65034 487)), (65035, (.int 65035 488)), (65036, (.int 65036 489)), (65037, (.int 65037 490)), (65038, (.int 65038 491)), (65039, (.int 65039 492)), (173, (.int 173 461)), (847, (.int 847 462)), (8288, (.int 8288 470)), (65279, (.int 65279 471))] 29 ⟨127, #[0, 1, 2, 3, 4, 5, 6, 7, 8, 9, 10, 11, 12, 13, 14, 15, 16, 17, 18, 19, 20, 21, 22, 45, 79, 96, 127], #[], 0, !P.followText "set-order", 2, true⟩), #[]⟩
noncomputable def o123 (_ : Params) : Obj := ⟨(.type "list_iterator"), none, (.fields #[.none, (.int 27 0)]), #[]⟩
noncomputable def o124 (_ : Params) : Obj := ⟨(.type "tuple"), none, (.seq #[] 0), #[]⟩
noncomputable def o125 (_ : Params) : Obj := ⟨(.type "StopIteration"), none, (.fields #[(.ref 124), .none, .none, .none, (.bool false), .none]), #[]⟩
noncomputable def o3j (P : Params) : Obj := ⟨(.type "dict"), none, (.dict #[⟨(K P (S "__name__")), (.str (S "__name__") 165), (.str (S "cpy313.stringprep") 459)⟩, ⟨(K P (S "__doc__")), (.str (S "__doc__") 166), .none⟩, ⟨(K P (S "__package__")), (.str (S "__package__") 167), .none⟩, ⟨(K P (S "__loader__")), (.str (S "__loader__") 168), (.builtin "__main__.__loader__#opaque")⟩, ⟨(K P (S "__spec__")), (.str (S "__spec__") 169), .none⟩, ⟨(K P (S "__annotations__")), (.str (S "__annotations__") 170), (.ref 6)⟩, ⟨(K P (S "__builtins__")), (.str (S "__builtins__") 171), (.ref 4)⟩, ⟨(K P (S "__file__")), (.str (S "__file__") 173), (.str (S "/claim/cut.py") 172)⟩, ⟨(K P (S "__cached__")), (.str (S "__cached__") 174), .none⟩, ⟨(K P (S "_sre")), (.str (S "_sre") 275), (.ref 12)⟩, ⟨(K P (S "Whitespace")), (.str (S "Whitespace") 389), (.ref 93)⟩, ⟨(K P (S "_twin_re_1")), (.str (S "_twin_re_1") 407), (.ref 102)⟩, ⟨(K P (S "_twin_re_2")), (.str (S "_twin_re_2") 449), (.ref 107)⟩, ⟨(K P (S "CRLF")), (.str (S "CRLF") 451), (.str (S "\r\n") 450)⟩, ⟨(K P (S "quotedata")), (.str (S "quotedata") 458), (.ref 114)⟩, ⟨(K P (S "b1_set")), (.str (S "b1_set") 520), (.ref 122)⟩, ⟨(K P (S "in_table_b1")), (.str (S "in_table_b1") 527), (.ref 132)⟩] 17), #[]⟩
noncomputable def o29c (_ : Params) : Obj := ⟨.none, none, (.fields #[(.int 3 0), (.int 0 0), (.ref 37), (.int 73 0), (.int 0 0), (.ref 113), (.int 77 0), (.int 0 0), (.ref 131)]), #[]⟩
noncomputable def o126 (_ : Params) : Obj := ⟨(.type "tuple"), none, (.seq #[] 0), #[]⟩
noncomputable def o127 (_ : Params) : Obj := ⟨.none, none, (.fields #[]), #[]⟩
noncomputable def o128 (_ : Params) : Obj := ⟨(.type "tuple"), none, (.seq #[(.str (S "code") 524)] 0), #[]⟩
noncomputable def o129 (_ : Params) : Obj := ⟨(.type "tuple"), none, (.seq #[] 0), #[]⟩
noncomputable def o130 (_ : Params) : Obj := ⟨.none, none, (.func { name := (S "in_table_b1"), qualname := (S "in_table_b1"), params := argsOf (stT 9), body := .stmts (stmtsOf (stT 9)), scope := scopeOf (stT 9), globals := 0, closure := [], defaults := .none, kwdefaults := .none, doc := .none, pyModule := .none, annotations := none, code := .none, closureTuple := .none, builtins := 0 }), #[]⟩
noncomputable def o131 (_ : Params) : Obj := ⟨(.type "code"), none, (.fields #[(.str (S "in_table_b1") 521), (.str (S "in_table_b1") 522), (.str (S "/claim/cut.py") 523), (.int 77 0), (.int 1 0), (.int 0 0), (.int 0 0), (.int 3 0), (.ref 126), (.bool true), (.int 276 0), (.ref 127), .none, (.ref 128), (.ref 129), (.ref 130), (.int 525 0), (.int 77 0), (.str (S "/claim/cut.py") 526)]), #[]⟩
noncomputable def o132 (_ : Params) : Obj := ⟨(.type "function"), none, (.func { name := (S "in_table_b1"), qualname := (S "in_table_b1"), params := argsOf (stT 9), body := .stmts (stmtsOf (stT 9)), scope := scopeOf (stT 9), globals := 3, closure := [], defaults := .none, kwdefaults := .none, doc := .none, pyModule := (.str (S "cpy313.stringprep") 459), annotations := none, code := (.ref 131), closureTuple := .none, builtins := 0 }), #[]⟩
noncomputable def o3k (P : Params) : Obj := ⟨(.type "dict"), none, (.dict #[⟨(K P (S "__name__")), (.str (S "__name__") 165), (.str (S "cpy313.stringprep") 459)⟩, ⟨(K P (S "__doc__")), (.str (S "__doc__") 166), .none⟩, ⟨(K P (S "__package__")), (.str (S "__package__") 167), .none⟩, ⟨(K P (S "__loader__")), (.str (S "__loader__") 168), (.builtin "__main__.__loader__#opaque")⟩, ⟨(K P (S "__spec__")), (.str (S "__spec__") 169), .none⟩, ⟨(K P (S "__annotations__")), (.str (S "__annotations__") 170), (.ref 6)⟩, ⟨(K P (S "__builtins__")), (.str (S "__builtins__") 171), (.ref 4)⟩, ⟨(K P (S "__file__")), (.str (S "__file__") 173), (.str (S "/claim/cut.py") 172)⟩, ⟨(K P (S "__cached__")), (.str (S "__cached__") 174), .none⟩, ⟨(K P (S "_sre")), (.str (S "_sre") 275), (.ref 12)⟩, ⟨(K P (S "Whitespace")), (.str (S "Whitespace") 389), (.ref 93)⟩, ⟨(K P (S "_twin_re_1")), (.str (S "_twin_re_1") 407), (.ref 102)⟩, ⟨(K P (S "_twin_re_2")), (.str (S "_twin_re_2") 449), (.ref 107)⟩, ⟨(K P (S "CRLF")), (.str (S "CRLF") 451), (.str (S "\r\n") 450)⟩, ⟨(K P (S "quotedata")), (.str (S "quotedata") 458), (.ref 114)⟩, ⟨(K P (S "b1_set")), (.str (S "b1_set") 520), (.ref 122)⟩, ⟨(K P (S "in_table_b1")), (.str (S "in_table_b1") 527), (.ref 132)⟩, ⟨(K P (S "b3_exceptions")), (.str (S "b3_exceptions") 2478), (.ref 133)⟩] 18), #[]⟩
noncomputable def o3l (P : Params) : Obj := ⟨(.type "dict"), none, (.dict #[⟨(K P (S "__name__")), (.str (S "__name__") 165), (.str (S "cpy313.stringprep") 459)⟩, ⟨(K P (S "__doc__")), (.str (S "__doc__") 166), .none⟩, ⟨(K P (S "__package__")), (.str (S "__package__") 167), .none⟩, ⟨(K P (S "__loader__")), (.str (S "__loader__") 168), (.builtin "__main__.__loader__#opaque")⟩, ⟨(K P (S "__spec__")), (.str (S "__spec__") 169), .none⟩, ⟨(K P (S "__annotations__")), (.str (S "__annotations__") 170), (.ref 6)⟩, ⟨(K P (S "__builtins__")), (.str (S "__builtins__") 171), (.ref 4)⟩, ⟨(K P (S "__file__")), (.str (S "__file__") 173), (.str (S "/claim/cut.py") 172)⟩, ⟨(K P (S "__cached__")), (.str (S "__cached__") 174), .none⟩, ⟨(K P (S "_sre")), (.str (S "_sre") 275), (.ref 12)⟩, ⟨(K P (S "Whitespace")), (.str (S "Whitespace") 389), (.ref 93)⟩, ⟨(K P (S "_twin_re_1")), (.str (S "_twin_re_1") 407), (.ref 102)⟩, ⟨(K P (S "_twin_re_2")), (.str (S "_twin_re_2") 449), (.ref 107)⟩, ⟨(K P (S "CRLF")), (.str (S "CRLF") 451), (.str (S "\r\n") 450)⟩, ⟨(K P (S "quotedata")), (.str (S "quotedata") 458), (.ref 114)⟩, ⟨(K P (S "b1_set")), (.str (S "b1_set") 520), (.ref 122)⟩, ⟨(K P (S "in_table_b1")), (.str (S "in_table_b1") 527), (.ref 132)⟩, ⟨(K P (S "b3_exceptions")), (.str (S "b3_exceptions") 2478), (.ref 133)⟩, ⟨(K P (S "map_table_b3")), (.str (S "map_table_b3") 2486), (.ref 178)⟩] 19), #[]⟩
noncomputable def o29d (_ : Params) : Obj := ⟨.none, none, (.fields #[(.int 3 0), (.int 0 0), (.ref 37), (.int 73 0), (.int 0 0), (.ref 113), (.int 77 0), (.int 0 0), (.ref 131), (.int 80 0), (.int 0 0), (.ref 177)]), #[]⟩
noncomputable def o172 (_ : Params) : Obj := ⟨(.type "tuple"), none, (.seq #[] 0), #[]⟩
noncomputable def o173 (_ : Params) : Obj := ⟨.none, none, (.fields #[]), #[]⟩
noncomputable def o174 (_ : Params) : Obj := ⟨(.type "tuple"), none, (.seq #[(.str (S "code") 2482), (.str (S "r") 2483)] 0), #[]⟩
noncomputable def o175 (_ : Params) : Obj := ⟨(.type "tuple"), none, (.seq #[] 0), #[]⟩
noncomputable def o176 (_ : Params) : Obj := ⟨.none, none, (.func { name := (S "map_table_b3"), qualname := (S "map_table_b3"), params := argsOf (stT 11), body := .stmts (stmtsOf (stT 11)), scope := scopeOf (stT 11), globals := 0, closure := [], defaults := .none, kwdefaults := .none, doc := .none, pyModule := .none, annotations := none, code := .none, closureTuple := .none, builtins := 0 }), #[]⟩
noncomputable def o177 (_ : Params) : Obj := ⟨(.type "code"), none, (.fields #[(.str (S "map_table_b3") 2479), (.str (S "map_table_b3") 2480), (.str (S "/claim/cut.py") 2481), (.int 80 0), (.int 1 0), (.int 0 0), (.int 0 0), (.int 3 0), (.ref 172), (.bool true), (.int 276 0), (.ref 173), .none, (.ref 174), (.ref 175), (.ref 176), (.int 2484 0), (.int 80 0), (.str (S "/claim/cut.py") 2485)]), #[]⟩
noncomputable def o178 (_ : Params) : Obj := ⟨(.type "function"), none, (.func { name := (S "map_table_b3"), qualname := (S "map_table_b3"), params := argsOf (stT 11), body := .stmts (stmtsOf (stT 11)), scope := scopeOf (stT 11), globals := 3, closure := [], defaults := .none, kwdefaults := .none, doc := .none, pyModule := (.str (S "cpy313.stringprep") 459), annotations := none, code := (.ref 177), closureTuple := .none, builtins := 0 }), #[]⟩
noncomputable def o3m (P : Params) : Obj := ⟨(.type "dict"), none, (.dict #[⟨(K P (S "__name__")), (.str (S "__name__") 165), (.str (S "law_rl0124_01") 2487)⟩, ⟨(K P (S "__doc__")), (.str (S "__doc__") 166), .none⟩, ⟨(K P (S "__package__")), (.str (S "__package__") 167), .none⟩, ⟨(K P (S "__loader__")), (.str (S "__loader__") 168), (.builtin "__main__.__loader__#opaque")⟩, ⟨(K P (S "__spec__")), (.str (S "__spec__") 169), .none⟩, ⟨(K P (S "__annotations__")), (.str (S "__annotations__") 170), (.ref 6)⟩, ⟨(K P (S "__builtins__")), (.str (S "__builtins__") 171), (.ref 4)⟩, ⟨(K P (S "__file__")), (.str (S "__file__") 173), (.str (S "/claim/cut.py") 172)⟩, ⟨(K P (S "__cached__")), (.str (S "__cached__") 174), .none⟩, ⟨(K P (S "_sre")), (.str (S "_sre") 275), (.ref 12)⟩, ⟨(K P (S "Whitespace")), (.str (S "Whitespace") 389), (.ref 93)⟩, ⟨(K P (S "_twin_re_1")), (.str (S "_twin_re_1") 407), (.ref 102)⟩, ⟨(K P (S "_twin_re_2")), (.str (S "_twin_re_2") 449), (.ref 107)⟩, ⟨(K P (S "CRLF")), (.str (S "CRLF") 451), (.str (S "\r\n") 450)⟩, ⟨(K P (S "quotedata")), (.str (S "quotedata") 458), (.ref 114)⟩, ⟨(K P (S "b1_set")), (.str (S "b1_set") 520), (.ref 122)⟩, ⟨(K P (S "in_table_b1")), (.str (S "in_table_b1") 527), (.ref 132)⟩, ⟨(K P (S "b3_exceptions")), (.str (S "b3_exceptions") 2478), (.ref 133)⟩, ⟨(K P (S "map_table_b3")), (.str (S "map_table_b3") 2486), (.ref 178)⟩] 19), #[]⟩
noncomputable def o3n (P : Params) : Obj := ⟨(.type "dict"), none, (.dict #[⟨(K P (S "__name__")), (.str (S "__name__") 165), (.str (S "law_rl0124_01") 2487)⟩, ⟨(K P (S "__doc__")), (.str (S "__doc__") 166), .none⟩, ⟨(K P (S "__package__")), (.str (S "__package__") 167), .none⟩, ⟨(K P (S "__loader__")), (.str (S "__loader__") 168), (.builtin "__main__.__loader__#opaque")⟩, ⟨(K P (S "__spec__")), (.str (S "__spec__") 169), .none⟩, ⟨(K P (S "__annotations__")), (.str (S "__annotations__") 170), (.ref 6)⟩, ⟨(K P (S "__builtins__")), (.str (S "__builtins__") 171), (.ref 4)⟩, ⟨(K P (S "__file__")), (.str (S "__file__") 173), (.str (S "/claim/cut.py") 172)⟩, ⟨(K P (S "__cached__")), (.str (S "__cached__") 174), .none⟩, ⟨(K P (S "_sre")), (.str (S "_sre") 275), (.ref 12)⟩, ⟨(K P (S "Whitespace")), (.str (S "Whitespace") 389), (.ref 93)⟩, ⟨(K P (S "_twin_re_1")), (.str (S "_twin_re_1") 407), (.ref 102)⟩, ⟨(K P (S "_twin_re_2")), (.str (S "_twin_re_2") 449), (.ref 107)⟩, ⟨(K P (S "CRLF")), (.str (S "CRLF") 451), (.str (S "\r\n") 450)⟩, ⟨(K P (S "quotedata")), (.str (S "quotedata") 458), (.ref 114)⟩, ⟨(K P (S "b1_set")), (.str (S "b1_set") 520), (.ref 122)⟩, ⟨(K P (S "in_table_b1")), (.str (S "in_table_b1") 527), (.ref 132)⟩, ⟨(K P (S "b3_exceptions")), (.str (S "b3_exceptions") 2478), (.ref 133)⟩, ⟨(K P (S "map_table_b3")), (.str (S "map_table_b3") 2486), (.ref 178)⟩, ⟨(K P (S "_law_cells")), (.str (S "_law_cells") 2497), (.ref 185)⟩] 20), #[]⟩
noncomputable def o29e (_ : Params) : Obj := ⟨.none, none, (.fields #[(.int 3 0), (.int 0 0), (.ref 37), (.int 73 0), (.int 0 0), (.ref 113), (.int 77 0), (.int 0 0), (.ref 131), (.int 80 0), (.int 0 0), (.ref 177), (.int 86 0), (.int 0 0), (.ref 184)]), #[]⟩
noncomputable def o179 (_ : Params) : Obj := ⟨(.type "tuple"), none, (.seq #[] 0), #[]⟩
noncomputable def o180 (_ : Params) : Obj := ⟨.none, none, (.fields #[]), #[]⟩
noncomputable def o181 (_ : Params) : Obj := ⟨(.type "tuple"), none, (.seq #[(.str (S "script") 2492), (.str (S "cells") 2493), (.str (S "place") 2494)] 0), #[]⟩
noncomputable def o182 (_ : Params) : Obj := ⟨(.type "tuple"), none, (.seq #[] 0), #[]⟩
noncomputable def o183 (_ : Params) : Obj := ⟨.none, none, (.func { name := (S "_law_cells"), qualname := (S "_law_cells"), params := argsOf (stT 13), body := .stmts (stmtsOf (stT 13)), scope := scopeOf (stT 13), globals := 0, closure := [], defaults := .none, kwdefaults := .none, doc := .none, pyModule := .none, annotations := none, code := .none, closureTuple := .none, builtins := 0 }), #[]⟩
noncomputable def o184 (_ : Params) : Obj := ⟨(.type "code"), none, (.fields #[(.str (S "_law_cells") 2489), (.str (S "_law_cells") 2490), (.str (S "/claim/cut.py") 2491), (.int 86 0), (.int 1 0), (.int 0 0), (.int 0 0), (.int 3 0), (.ref 179), (.bool true), (.int 276 0), (.ref 180), .none, (.ref 181), (.ref 182), (.ref 183), (.int 2495 0), (.int 86 0), (.str (S "/claim/cut.py") 2496)]), #[]⟩
noncomputable def o185 (_ : Params) : Obj := ⟨(.type "function"), none, (.func { name := (S "_law_cells"), qualname := (S "_law_cells"), params := argsOf (stT 13), body := .stmts (stmtsOf (stT 13)), scope := scopeOf (stT 13), globals := 3, closure := [], defaults := .none, kwdefaults := .none, doc := .none, pyModule := (.str (S "law_rl0124_01") 2487), annotations := none, code := (.ref 184), closureTuple := .none, builtins := 0 }), #[]⟩
noncomputable def o3o (P : Params) : Obj := ⟨(.type "dict"), none, (.dict #[⟨(K P (S "__name__")), (.str (S "__name__") 165), (.str (S "law_rl0124_01") 2487)⟩, ⟨(K P (S "__doc__")), (.str (S "__doc__") 166), .none⟩, ⟨(K P (S "__package__")), (.str (S "__package__") 167), .none⟩, ⟨(K P (S "__loader__")), (.str (S "__loader__") 168), (.builtin "__main__.__loader__#opaque")⟩, ⟨(K P (S "__spec__")), (.str (S "__spec__") 169), .none⟩, ⟨(K P (S "__annotations__")), (.str (S "__annotations__") 170), (.ref 6)⟩, ⟨(K P (S "__builtins__")), (.str (S "__builtins__") 171), (.ref 4)⟩, ⟨(K P (S "__file__")), (.str (S "__file__") 173), (.str (S "/claim/cut.py") 172)⟩, ⟨(K P (S "__cached__")), (.str (S "__cached__") 174), .none⟩, ⟨(K P (S "_sre")), (.str (S "_sre") 275), (.ref 12)⟩, ⟨(K P (S "Whitespace")), (.str (S "Whitespace") 389), (.ref 93)⟩, ⟨(K P (S "_twin_re_1")), (.str (S "_twin_re_1") 407), (.ref 102)⟩, ⟨(K P (S "_twin_re_2")), (.str (S "_twin_re_2") 449), (.ref 107)⟩, ⟨(K P (S "CRLF")), (.str (S "CRLF") 451), (.str (S "\r\n") 450)⟩, ⟨(K P (S "quotedata")), (.str (S "quotedata") 458), (.ref 114)⟩, ⟨(K P (S "b1_set")), (.str (S "b1_set") 520), (.ref 122)⟩, ⟨(K P (S "in_table_b1")), (.str (S "in_table_b1") 527), (.ref 132)⟩, ⟨(K P (S "b3_exceptions")), (.str (S "b3_exceptions") 2478), (.ref 133)⟩, ⟨(K P (S "map_table_b3")), (.str (S "map_table_b3") 2486), (.ref 178)⟩, ⟨(K P (S "_law_cells")), (.str (S "_law_cells") 2497), (.ref 185)⟩, ⟨(K P (S "_law_gains")), (.str (S "_law_gains") 2503), (.ref 190)⟩] 21), #[]⟩
noncomputable def o29f (_ : Params) : Obj := ⟨.none, none, (.fields #[(.int 3 0), (.int 0 0), (.ref 37), (.int 73 0), (.int 0 0), (.ref 113), (.int 77 0), (.int 0 0), (.ref 131), (.int 80 0), (.int 0 0), (.ref 177), (.int 86 0), (.int 0 0), (.ref 184), (.int 91 0), (.int 0 0), (.ref 189)]), #[]⟩
noncomputable def o186 (_ : Params) : Obj := ⟨(.type "tuple"), none, (.seq #[] 0), #[]⟩
noncomputable def o187 (_ : Params) : Obj := ⟨.none, none, (.fields #[]), #[]⟩
noncomputable def o188 (_ : Params) : Obj := ⟨.none, none, (.func { name := (S "_law_gains"), qualname := (S "_law_gains"), params := argsOf (stT 14), body := .stmts (stmtsOf (stT 14)), scope := scopeOf (stT 14), globals := 0, closure := [], defaults := .none, kwdefaults := .none, doc := .none, pyModule := .none, annotations := none, code := .none, closureTuple := .none, builtins := 0 }), #[]⟩
noncomputable def o189 (_ : Params) : Obj := ⟨(.type "code"), none, (.fields #[(.str (S "_law_gains") 2498), (.str (S "_law_gains") 2499), (.str (S "/claim/cut.py") 2500), (.int 91 0), (.int 1 0), (.int 0 0), (.int 0 0), (.int 3 0), (.ref 186), (.bool true), (.int 276 0), (.ref 187), .none, .none, .none, (.ref 188), (.int 2501 0), (.int 91 0), (.str (S "/claim/cut.py") 2502)]), #[]⟩
noncomputable def o190 (_ : Params) : Obj := ⟨(.type "function"), none, (.func { name := (S "_law_gains"), qualname := (S "_law_gains"), params := argsOf (stT 14), body := .stmts (stmtsOf (stT 14)), scope := scopeOf (stT 14), globals := 3, closure := [], defaults := .none, kwdefaults := .none, doc := .none, pyModule := (.str (S "law_rl0124_01") 2487), annotations := none, code := (.ref 189), closureTuple := .none, builtins := 0 }), #[]⟩
noncomputable def o3p (P : Params) : Obj := ⟨(.type "dict"), none, (.dict #[⟨(K P (S "__name__")), (.str (S "__name__") 165), (.str (S "law_rl0124_01") 2487)⟩, ⟨(K P (S "__doc__")), (.str (S "__doc__") 166), .none⟩, ⟨(K P (S "__package__")), (.str (S "__package__") 167), .none⟩, ⟨(K P (S "__loader__")), (.str (S "__loader__") 168), (.builtin "__main__.__loader__#opaque")⟩, ⟨(K P (S "__spec__")), (.str (S "__spec__") 169), .none⟩, ⟨(K P (S "__annotations__")), (.str (S "__annotations__") 170), (.ref 6)⟩, ⟨(K P (S "__builtins__")), (.str (S "__builtins__") 171), (.ref 4)⟩, ⟨(K P (S "__file__")), (.str (S "__file__") 173), (.str (S "/claim/cut.py") 172)⟩, ⟨(K P (S "__cached__")), (.str (S "__cached__") 174), .none⟩, ⟨(K P (S "_sre")), (.str (S "_sre") 275), (.ref 12)⟩, ⟨(K P (S "Whitespace")), (.str (S "Whitespace") 389), (.ref 93)⟩, ⟨(K P (S "_twin_re_1")), (.str (S "_twin_re_1") 407), (.ref 102)⟩, ⟨(K P (S "_twin_re_2")), (.str (S "_twin_re_2") 449), (.ref 107)⟩, ⟨(K P (S "CRLF")), (.str (S "CRLF") 451), (.str (S "\r\n") 450)⟩, ⟨(K P (S "quotedata")), (.str (S "quotedata") 458), (.ref 114)⟩, ⟨(K P (S "b1_set")), (.str (S "b1_set") 520), (.ref 122)⟩, ⟨(K P (S "in_table_b1")), (.str (S "in_table_b1") 527), (.ref 132)⟩, ⟨(K P (S "b3_exceptions")), (.str (S "b3_exceptions") 2478), (.ref 133)⟩, ⟨(K P (S "map_table_b3")), (.str (S "map_table_b3") 2486), (.ref 178)⟩, ⟨(K P (S "_law_cells")), (.str (S "_law_cells") 2497), (.ref 185)⟩, ⟨(K P (S "_law_gains")), (.str (S "_law_gains") 2503), (.ref 190)⟩, ⟨(K P (S "_law_lead")), (.str (S "_law_lead") 2509), (.ref 195)⟩] 22), #[]⟩
noncomputable def o29g (_ : Params) : Obj := ⟨.none, none, (.fields #[(.int 3 0), (.int 0 0), (.ref 37), (.int 73 0), (.int 0 0), (.ref 113), (.int 77 0), (.int 0 0), (.ref 131), (.int 80 0), (.int 0 0), (.ref 177), (.int 86 0), (.int 0 0), (.ref 184), (.int 91 0), (.int 0 0), (.ref 189), (.int 96 0), (.int 0 0), (.ref 194)]), #[]⟩
noncomputable def o191 (_ : Params) : Obj := ⟨(.type "tuple"), none, (.seq #[] 0), #[]⟩
noncomputable def o192 (_ : Params) : Obj := ⟨.none, none, (.fields #[]), #[]⟩
noncomputable def o193 (_ : Params) : Obj := ⟨.none, none, (.func { name := (S "_law_lead"), qualname := (S "_law_lead"), params := argsOf (stT 15), body := .stmts (stmtsOf (stT 15)), scope := scopeOf (stT 15), globals := 0, closure := [], defaults := .none, kwdefaults := .none, doc := .none, pyModule := .none, annotations := none, code := .none, closureTuple := .none, builtins := 0 }), #[]⟩
noncomputable def o194 (_ : Params) : Obj := ⟨(.type "code"), none, (.fields #[(.str (S "_law_lead") 2504), (.str (S "_law_lead") 2505), (.str (S "/claim/cut.py") 2506), (.int 96 0), (.int 4 0), (.int 0 0), (.int 0 0), (.int 3 0), (.ref 191), (.bool true), (.int 276 0), (.ref 192), .none, .none, .none, (.ref 193), (.int 2507 0), (.int 96 0), (.str (S "/claim/cut.py") 2508)]), #[]⟩
noncomputable def o195 (_ : Params) : Obj := ⟨(.type "function"), none, (.func { name := (S "_law_lead"), qualname := (S "_law_lead"), params := argsOf (stT 15), body := .stmts (stmtsOf (stT 15)), scope := scopeOf (stT 15), globals := 3, closure := [], defaults := .none, kwdefaults := .none, doc := .none, pyModule := (.str (S "law_rl0124_01") 2487), annotations := none, code := (.ref 194), closureTuple := .none, builtins := 0 }), #[]⟩
noncomputable def o3q (P : Params) : Obj := ⟨(.type "dict"), none, (.dict #[⟨(K P (S "__name__")), (.str (S "__name__") 165), (.str (S "law_rl0124_01") 2487)⟩, ⟨(K P (S "__doc__")), (.str (S "__doc__") 166), .none⟩, ⟨(K P (S "__package__")), (.str (S "__package__") 167), .none⟩, ⟨(K P (S "__loader__")), (.str (S "__loader__") 168), (.builtin "__main__.__loader__#opaque")⟩, ⟨(K P (S "__spec__")), (.str (S "__spec__") 169), .none⟩, ⟨(K P (S "__annotations__")), (.str (S "__annotations__") 170), (.ref 6)⟩, ⟨(K P (S "__builtins__")), (.str (S "__builtins__") 171), (.ref 4)⟩, ⟨(K P (S "__file__")), (.str (S "__file__") 173), (.str (S "/claim/cut.py") 172)⟩, ⟨(K P (S "__cached__")), (.str (S "__cached__") 174), .none⟩, ⟨(K P (S "_sre")), (.str (S "_sre") 275), (.ref 12)⟩, ⟨(K P (S "Whitespace")), (.str (S "Whitespace") 389), (.ref 93)⟩, ⟨(K P (S "_twin_re_1")), (.str (S "_twin_re_1") 407), (.ref 102)⟩, ⟨(K P (S "_twin_re_2")), (.str (S "_twin_re_2") 449), (.ref 107)⟩, ⟨(K P (S "CRLF")), (.str (S "CRLF") 451), (.str (S "\r\n") 450)⟩, ⟨(K P (S "quotedata")), (.str (S "quotedata") 458), (.ref 114)⟩, ⟨(K P (S "b1_set")), (.str (S "b1_set") 520), (.ref 122)⟩, ⟨(K P (S "in_table_b1")), (.str (S "in_table_b1") 527), (.ref 132)⟩, ⟨(K P (S "b3_exceptions")), (.str (S "b3_exceptions") 2478), (.ref 133)⟩, ⟨(K P (S "map_table_b3")), (.str (S "map_table_b3") 2486), (.ref 178)⟩, ⟨(K P (S "_law_cells")), (.str (S "_law_cells") 2497), (.ref 185)⟩, ⟨(K P (S "_law_gains")), (.str (S "_law_gains") 2503), (.ref 190)⟩, ⟨(K P (S "_law_lead")), (.str (S "_law_lead") 2509), (.ref 195)⟩, ⟨(K P (S "law")), (.str (S "law") 2515), (.ref 200)⟩] 23), #[]⟩
noncomputable def o29h (_ : Params) : Obj := ⟨.none, none, (.fields #[(.int 3 0), (.int 0 0), (.ref 37), (.int 73 0), (.int 0 0), (.ref 113), (.int 77 0), (.int 0 0), (.ref 131), (.int 80 0), (.int 0 0), (.ref 177), (.int 86 0), (.int 0 0), (.ref 184), (.int 91 0), (.int 0 0), (.ref 189), (.int 96 0), (.int 0 0), (.ref 194), (.int 106 0), (.int 0 0), (.ref 199)]), #[]⟩
noncomputable def o196 (_ : Params) : Obj := ⟨(.type "tuple"), none, (.seq #[] 0), #[]⟩
noncomputable def o197 (_ : Params) : Obj := ⟨.none, none, (.fields #[]), #[]⟩
noncomputable def o198 (_ : Params) : Obj := ⟨.none, none, (.func { name := (S "law"), qualname := (S "law"), params := argsOf (stT 16), body := .stmts (stmtsOf (stT 16)), scope := scopeOf (stT 16), globals := 0, closure := [], defaults := .none, kwdefaults := .none, doc := .none, pyModule := .none, annotations := none, code := .none, closureTuple := .none, builtins := 0 }), #[]⟩
noncomputable def o199 (_ : Params) : Obj := ⟨(.type "code"), none, (.fields #[(.str (S "law") 2510), (.str (S "law") 2511), (.str (S "/claim/cut.py") 2512), (.int 106 0), (.int 1 0), (.int 0 0), (.int 0 0), (.int 3 0), (.ref 196), (.bool true), (.int 276 0), (.ref 197), .none, .none, .none, (.ref 198), (.int 2513 0), (.int 106 0), (.str (S "/claim/cut.py") 2514)]), #[]⟩
noncomputable def o200 (_ : Params) : Obj := ⟨(.type "function"), none, (.func { name := (S "law"), qualname := (S "law"), params := argsOf (stT 16), body := .stmts (stmtsOf (stT 16)), scope := scopeOf (stT 16), globals := 3, closure := [], defaults := .none, kwdefaults := .none, doc := .none, pyModule := (.str (S "law_rl0124_01") 2487), annotations := none, code := (.ref 199), closureTuple := .none, builtins := 0 }), #[]⟩
noncomputable def h_0 (P : Params) : List Obj := [o0 P, o1 P, o2 P, o3 P, o4 P, o5 P, o6 P, o7 P, o8 P, o9 P, o10 P, o11 P, o12 P, o13 P, o14 P, o15 P, o16 P, o17 P, o18 P, o19 P,
    o20 P, o21 P, o22 P, o23 P, o24 P, o25 P, o26 P, o27 P]
noncomputable def s_0 (w : World) (os : OsState) : Shared := ⟨⟨(h_0 w.params).toArray, {}⟩, #[], {}, 276, os⟩
noncomputable def h_a (P : Params) : List Obj := [o0 P, o1 P, o2 P, o3 P, o4 P, o5 P, o6 P, o7 P, o8 P, o9 P, o10 P, o11 P, o12 P, o13 P, o14 P, o15 P, o16 P, o17 P, o18 P, o19 P,
    o20 P, o21 P, o22 P, o23 P, o24 P, o25 P, o26 P, o27 P, o28 P, o29 P, o30 P, o31 P]
noncomputable def s_a (w : World) (os : OsState) : Shared := ⟨⟨(h_a w.params).toArray, {}⟩, #[], {}, 282, os⟩
noncomputable def h_p0 (P : Params) : List Obj := [o0 P, o1 P, o2 P, o3a P, o4 P, o5 P, o6 P, o7 P, o8 P, o9 P, o10 P, o11 P, o12 P, o13 P, o14 P, o15 P, o16 P, o17 P, o18 P, o19 P,
    o20 P, o21 P, o22 P, o23 P, o24 P, o25 P, o26 P, o27 P, o28 P, o29 P, o30 P, o31 P]
noncomputable def s_p0 (w : World) (os : OsState) : Shared := ⟨⟨(h_p0 w.params).toArray, {}⟩, #[], {}, 284, os⟩
noncomputable def h_p1 (P : Params) : List Obj := [o0 P, o1 P, o2 P, o3b P, o4 P, o5 P, o6 P, o7 P, o8 P, o9 P, o10 P, o11 P, o12 P, o13 P, o14 P, o15 P, o16 P, o17 P, o18 P, o19 P,
    o20 P, o21 P, o22 P, o23 P, o24 P, o25 P, o26 P, o27 P, o28 P, o29a P, o30 P, o31 P, o32 P, o33 P, o34 P, o35 P, o36 P, o37 P, o38 P, o39 P,
    o40 P, o41 P, o42 P, o43 P, o44 P, o45 P, o46 P, o47 P, o48 P, o49 P, o50 P, o51 P, o52 P, o53 P, o54 P, o55 P, o56 P, o57 P, o58 P, o59 P,
    o60 P, o61 P, o62 P, o63 P, o64 P, o65 P, o66 P, o67 P, o68 P, o69 P, o70 P, o71 P, o72 P, o73 P, o74 P, o75 P, o76 P, o77 P, o78 P, o79 P,
    o80 P, o81 P, o82 P, o83 P, o84 P, o85 P, o86 P, o87 P, o88 P, o89 P, o90 P, o91 P, o92 P, o93 P, o94 P, o95 P, o96 P, o97 P]
noncomputable def s_p1 (w : World) (os : OsState) : Shared := ⟨⟨(h_p1 w.params).toArray, {}⟩, #[], {}, 390, os⟩
noncomputable def h_p2 (P : Params) : List Obj := [o0 P, o1 P, o2 P, o3c P, o4 P, o5 P, o6 P, o7 P, o8 P, o9 P, o10 P, o11 P, o12 P, o13 P, o14 P, o15 P, o16 P, o17 P, o18 P, o19 P,
    o20 P, o21 P, o22 P, o23 P, o24 P, o25 P, o26 P, o27 P, o28 P, o29a P, o30 P, o31 P, o32 P, o33 P, o34 P, o35 P, o36 P, o37 P, o38 P, o39 P,
    o40 P, o41 P, o42 P, o43 P, o44 P, o45 P, o46 P, o47 P, o48 P, o49 P, o50 P, o51 P, o52 P, o53 P, o54 P, o55 P, o56 P, o57 P, o58 P, o59 P,
    o60 P, o61 P, o62 P, o63 P, o64 P, o65 P, o66 P, o67 P, o68 P, o69 P, o70 P, o71 P, o72 P, o73 P, o74 P, o75 P, o76 P, o77 P, o78 P, o79 P,
    o80 P, o81 P, o82 P, o83 P, o84 P, o85 P, o86 P, o87 P, o88 P, o89 P, o90 P, o91 P, o92 P, o93 P, o94 P, o95 P, o96 P, o97 P]
noncomputable def s_p2 (w : World) (os : OsState) : Shared := ⟨⟨(h_p2 w.params).toArray, {}⟩, #[], {}, 392, os⟩
noncomputable def h_p3 (P : Params) : List Obj := [o0 P, o1 P, o2 P, o3d P, o4 P, o5 P, o6 P, o7 P, o8 P, o9 P, o10 P, o11 P, o12 P, o13 P, o14 P, o15 P, o16 P, o17 P, o18 P, o19 P,
    o20 P, o21 P, o22 P, o23 P, o24 P, o25 P, o26 P, o27 P, o28 P, o29a P, o30 P, o31 P, o32 P, o33 P, o34 P, o35 P, o36 P, o37 P, o38 P, o39 P,
    o40 P, o41 P, o42 P, o43 P, o44 P, o45 P, o46 P, o47 P, o48 P, o49 P, o50 P, o51 P, o52 P, o53 P, o54 P, o55 P, o56 P, o57 P, o58 P, o59 P,
    o60 P, o61 P, o62 P, o63 P, o64 P, o65 P, o66 P, o67 P, o68 P, o69 P, o70 P, o71 P, o72 P, o73 P, o74 P, o75 P, o76 P, o77 P, o78 P, o79 P,
    o80 P, o81 P, o82 P, o83 P, o84 P, o85 P, o86 P, o87 P, o88 P, o89 P, o90 P, o91 P, o92 P, o93 P, o94 P, o95 P, o96 P, o97 P, o98 P, o99 P,
    o100 P, o101 P, o102 P]
noncomputable def s_p3 (w : World) (os : OsState) : Shared := ⟨⟨(h_p3 w.params).toArray, {}⟩, #[], {}, 408, os⟩
noncomputable def h_p4 (P : Params) : List Obj := [o0 P, o1 P, o2 P, o3e P, o4 P, o5 P, o6 P, o7 P, o8 P, o9 P, o10 P, o11 P, o12 P, o13 P, o14 P, o15 P, o16 P, o17 P, o18 P, o19 P,
    o20 P, o21 P, o22 P, o23 P, o24 P, o25 P, o26 P, o27 P, o28 P, o29a P, o30 P, o31 P, o32 P, o33 P, o34 P, o35 P, o36 P, o37 P, o38 P, o39 P,
    o40 P, o41 P, o42 P, o43 P, o44 P, o45 P, o46 P, o47 P, o48 P, o49 P, o50 P, o51 P, o52 P, o53 P, o54 P, o55 P, o56 P, o57 P, o58 P, o59 P,
    o60 P, o61 P, o62 P, o63 P, o64 P, o65 P, o66 P, o67 P, o68 P, o69 P, o70 P, o71 P, o72 P, o73 P, o74 P, o75 P, o76 P, o77 P, o78 P, o79 P,
    o80 P, o81 P, o82 P, o83 P, o84 P, o85 P, o86 P, o87 P, o88 P, o89 P, o90 P, o91 P, o92 P, o93 P, o94 P, o95 P, o96 P, o97 P, o98 P, o99 P,
    o100 P, o101 P, o102 P, o103 P, o104 P, o105 P, o106 P, o107 P]
noncomputable def s_p4 (w : World) (os : OsState) : Shared := ⟨⟨(h_p4 w.params).toArray, {}⟩, #[], {}, 450, os⟩
noncomputable def h_p5 (P : Params) : List Obj := [o0 P, o1 P, o2 P, o3f P, o4 P, o5 P, o6 P, o7 P, o8 P, o9 P, o10 P, o11 P, o12 P, o13 P, o14 P, o15 P, o16 P, o17 P, o18 P, o19 P,
    o20 P, o21 P, o22 P, o23 P, o24 P, o25 P, o26 P, o27 P, o28 P, o29a P, o30 P, o31 P, o32 P, o33 P, o34 P, o35 P, o36 P, o37 P, o38 P, o39 P,
    o40 P, o41 P, o42 P, o43 P, o44 P, o45 P, o46 P, o47 P, o48 P, o49 P, o50 P, o51 P, o52 P, o53 P, o54 P, o55 P, o56 P, o57 P, o58 P, o59 P,
    o60 P, o61 P, o62 P, o63 P, o64 P, o65 P, o66 P, o67 P, o68 P, o69 P, o70 P, o71 P, o72 P, o73 P, o74 P, o75 P, o76 P, o77 P, o78 P, o79 P,
    o80 P, o81 P, o82 P, o83 P, o84 P, o85 P, o86 P, o87 P, o88 P, o89 P, o90 P, o91 P, o92 P, o93 P, o94 P, o95 P, o96 P, o97 P, o98 P, o99 P,
    o100 P, o101 P, o102 P, o103 P, o104 P, o105 P, o106 P, o107 P]
noncomputable def s_p5 (w : World) (os : OsState) : Shared := ⟨⟨(h_p5 w.params).toArray, {}⟩, #[], {}, 452, os⟩
noncomputable def h_p6 (P : Params) : List Obj := [o0 P, o1 P, o2 P, o3g P, o4 P, o5 P, o6 P, o7 P, o8 P, o9 P, o10 P, o11 P, o12 P, o13 P, o14 P, o15 P, o16 P, o17 P, o18 P, o19 P,
    o20 P, o21 P, o22 P, o23 P, o24 P, o25 P, o26 P, o27 P, o28 P, o29b P, o30 P, o31 P, o32 P, o33 P, o34 P, o35 P, o36 P, o37 P, o38 P, o39 P,
    o40 P, o41 P, o42 P, o43 P, o44 P, o45 P, o46 P, o47 P, o48 P, o49 P, o50 P, o51 P, o52 P, o53 P, o54 P, o55 P, o56 P, o57 P, o58 P, o59 P,
    o60 P, o61 P, o62 P, o63 P, o64 P, o65 P, o66 P, o67 P, o68 P, o69 P, o70 P, o71 P, o72 P, o73 P, o74 P, o75 P, o76 P, o77 P, o78 P, o79 P,
    o80 P, o81 P, o82 P, o83 P, o84 P, o85 P, o86 P, o87 P, o88 P, o89 P, o90 P, o91 P, o92 P, o93 P, o94 P, o95 P, o96 P, o97 P, o98 P, o99 P,
    o100 P, o101 P, o102 P, o103 P, o104 P, o105 P, o106 P, o107 P, o108 P, o109 P, o110 P, o111 P, o112 P, o113 P, o114 P]
noncomputable def s_p6 (w : World) (os : OsState) : Shared := ⟨⟨(h_p6 w.params).toArray, {}⟩, #[], {}, 459, os⟩
noncomputable def h_p7 (P : Params) : List Obj := [o0 P, o1 P, o2 P, o3h P, o4 P, o5 P, o6 P, o7 P, o8 P, o9 P, o10 P, o11 P, o12 P, o13 P, o14 P, o15 P, o16 P, o17 P, o18 P, o19 P,
    o20 P, o21 P, o22 P, o23 P, o24 P, o25 P, o26 P, o27 P, o28 P, o29b P, o30 P, o31 P, o32 P, o33 P, o34 P, o35 P, o36 P, o37 P, o38 P, o39 P,
    o40 P, o41 P, o42 P, o43 P, o44 P, o45 P, o46 P, o47 P, o48 P, o49 P, o50 P, o51 P, o52 P, o53 P, o54 P, o55 P, o56 P, o57 P, o58 P, o59 P,
    o60 P, o61 P, o62 P, o63 P, o64 P, o65 P, o66 P, o67 P, o68 P, o69 P, o70 P, o71 P, o72 P, o73 P, o74 P, o75 P, o76 P, o77 P, o78 P, o79 P,
    o80 P, o81 P, o82 P, o83 P, o84 P, o85 P, o86 P, o87 P, o88 P, o89 P, o90 P, o91 P, o92 P, o93 P, o94 P, o95 P, o96 P, o97 P, o98 P, o99 P,
    o100 P, o101 P, o102 P, o103 P, o104 P, o105 P, o106 P, o107 P, o108 P, o109 P, o110 P, o111 P, o112 P, o113 P, o114 P]
noncomputable def s_p7 (w : World) (os : OsState) : Shared := ⟨⟨(h_p7 w.params).toArray, {}⟩, #[], {}, 461, os⟩
noncomputable def h_p8 (P : Params) : List Obj := [o0 P, o1 P, o2 P, o3i P, o4 P, o5 P, o6 P, o7 P, o8 P, o9 P, o10 P, o11 P, o12 P, o13 P, o14 P, o15 P, o16 P, o17 P, o18 P, o19 P,
    o20 P, o21 P, o22 P, o23 P, o24 P, o25 P, o26 P, o27 P, o28 P, o29b P, o30 P, o31 P, o32 P, o33 P, o34 P, o35 P, o36 P, o37 P, o38 P, o39 P,
    o40 P, o41 P, o42 P, o43 P, o44 P, o45 P, o46 P, o47 P, o48 P, o49 P, o50 P, o51 P, o52 P, o53 P, o54 P, o55 P, o56 P, o57 P, o58 P, o59 P,
    o60 P, o61 P, o62 P, o63 P, o64 P, o65 P, o66 P, o67 P, o68 P, o69 P, o70 P, o71 P, o72 P, o73 P, o74 P, o75 P, o76 P, o77 P, o78 P, o79 P,
    o80 P, o81 P, o82 P, o83 P, o84 P, o85 P, o86 P, o87 P, o88 P, o89 P, o90 P, o91 P, o92 P, o93 P, o94 P, o95 P, o96 P, o97 P, o98 P, o99 P,
    o100 P, o101 P, o102 P, o103 P, o104 P, o105 P, o106 P, o107 P, o108 P, o109 P, o110 P, o111 P, o112 P, o113 P, o114 P, o115 P, o116 P, o117 P, o118 P, o119 P,
    o120 P, o121 P, o122 P, o123 P, o124 P, o125 P]
noncomputable def s_p8 (w : World) (os : OsState) : Shared := ⟨⟨(h_p8 w.params).toArray, {}⟩, #[], {}, 521, os⟩
noncomputable def h_p9 (P : Params) : List Obj := [o0 P, o1 P, o2 P, o3j P, o4 P, o5 P, o6 P, o7 P, o8 P, o9 P, o10 P, o11 P, o12 P, o13 P, o14 P, o15 P, o16 P, o17 P, o18 P, o19 P,
    o20 P, o21 P, o22 P, o23 P, o24 P, o25 P, o26 P, o27 P, o28 P, o29c P, o30 P, o31 P, o32 P, o33 P, o34 P, o35 P, o36 P, o37 P, o38 P, o39 P,
    o40 P, o41 P, o42 P, o43 P, o44 P, o45 P, o46 P, o47 P, o48 P, o49 P, o50 P, o51 P, o52 P, o53 P, o54 P, o55 P, o56 P, o57 P, o58 P, o59 P,
    o60 P, o61 P, o62 P, o63 P, o64 P, o65 P, o66 P, o67 P, o68 P, o69 P, o70 P, o71 P, o72 P, o73 P, o74 P, o75 P, o76 P, o77 P, o78 P, o79 P,
    o80 P, o81 P, o82 P, o83 P, o84 P, o85 P, o86 P, o87 P, o88 P, o89 P, o90 P, o91 P, o92 P, o93 P, o94 P, o95 P, o96 P, o97 P, o98 P, o99 P,
    o100 P, o101 P, o102 P, o103 P, o104 P, o105 P, o106 P, o107 P, o108 P, o109 P, o110 P, o111 P, o112 P, o113 P, o114 P, o115 P, o116 P, o117 P, o118 P, o119 P,
    o120 P, o121 P, o122 P, o123 P, o124 P, o125 P, o126 P, o127 P, o128 P, o129 P, o130 P, o131 P, o132 P]
noncomputable def s_p9 (w : World) (os : OsState) : Shared := ⟨⟨(h_p9 w.params).toArray, {}⟩, #[], {}, 528, os⟩
end Mine
end
section -- HTop
open PySem PySem.W PyProof.Rows
set_option maxRecDepth 100000
namespace Mine
noncomputable abbrev annT : Option Value := some (.ref 6)
noncomputable abbrev codeT : Code := .body bodyT envT
noncomputable abbrev stackT : List Frame := [topFrame default]
/-- as Gos, at the top's own code and stack -/
noncomputable def GosT (w : World) {α : Type} (k : Nat) (m : Sem α) (s : Shared) (a : α) (s' : Shared) : Prop :=
  ∀ (K : α → Sem Fin) (H : Value → Sem Fin) (gd : Bool → Bool) (lv : List Value → List Value) (pos : Pos),
    ∃ n pos', n ≤ k ∧ topGo treeTable prog w 28 annT n s ⟨m.wrap K H gd lv, codeT, pos, stackT⟩ = some (s', ⟨K a, codeT, pos', stackT⟩)
section
variable {w : World} {α β : Type} {m : Sem α} {s s' s'' : Shared} {a : α} {k k' : Nat}
theorem gosT_of (h : Gos treeTable prog w 28 annT k m s a s') : GosT w k m s a s' := fun K H gd lv pos => h K H gd lv codeT pos (topFrame default) []
theorem gosT_bind {f : α → Sem β} {b : β} (h : GosT w k m s a s') (g : GosT w k' (f a) s' b s'') : GosT w (k + k') (m >>= f) s b s'' := fun K H gd lv pos => by
  obtain ⟨n, q, h1, h2⟩ := h (fun x => (f x).wrap K H gd lv) (fun e => H e) gd lv pos
  obtain ⟨n', q', g1, g2⟩ := g K H gd lv q
  refine ⟨n + n', q', Nat.add_le_add h1 g1, ?_⟩
  rw [Sem.bind_eq_wrap', Sem.wrap_wrap]
  exact topGo_add h2 g2
end
/-- topGo over any reading of the codes -/
noncomputable def goW (den : Code → Sem Fin) (p : Program) (w : World) (n₀ : Nat) (ann : Option Value) : Nat → Shared → Thread → Option (Shared × Thread)
  | 0, s, t => some (s, t)
  | n + 1, s, t => match through t with
    | true => none
    | false => match stepOk n₀ ann t with
      | false => none
      | true => match step den p w s t with
        | .go s' t' => goW den p w n₀ ann n s' t'
        | .halt _ _ => none
theorem goW_eq {tb : String → Option Builtin} {p : Program} {w : World} {n₀ : Nat} {ann : Option Value} : ∀ (n : Nat) (s : Shared) (t : Thread), goW (denote tb) p w n₀ ann n s t = topGo tb p w n₀ ann n s t
  | 0, _, _ => rfl
  | n + 1, s, t => by
    unfold goW topGo
    cases through t with
    | true => rfl
    | false =>
      cases stepOk n₀ ann t with
      | false => rfl
      | true =>
        cases step (denote tb) p w s t with
        | halt => rfl
        | go s' t' => exact goW_eq n s' t'
noncomputable abbrev denQ : Code → Sem Fin := PySem.W.Fast.tw11892475500146522536 PySem.W.Fast.tw14364793385576792824
theorem denQ_eq : denote treeTable = denQ := by
  unfold denQ
  rw [← PySem.W.Fast.te11892475500146522536, ← PySem.W.Fast.te14364793385576792824]
theorem topGo_of {p : Program} {w : World} {n₀ : Nat} {ann : Option Value} {n : Nat} {s : Shared} {t : Thread} {r : Option (Shared × Thread)} (h : goW denQ p w n₀ ann n s t = r) : topGo treeTable p w n₀ ann n s t = r := by
  rw [← goW_eq, denQ_eq]; exact h
end Mine
end
section -- HB3
open PySem PySem.W PyProof.Rows
set_option maxRecDepth 100000
namespace Mine
noncomputable def b3Ks : List (Option Expr) := match stT 10 with
  | .Assign _ (.Dict ks _ _) _ => ks
  | _ => []
noncomputable def b3Vs : List Expr := match stT 10 with
  | .Assign _ (.Dict _ vs _) _ => vs
  | _ => []
noncomputable def b3Pos : Pos := match stT 10 with
  | .Assign _ (.Dict _ _ q) _ => q
  | _ => default
noncomputable def kInt : Option Expr → Int
  | some (.Constant (.int i) _ _) => i
  | _ => 0
noncomputable def kOk : Option Expr → Bool
  | some (.Constant (.int _) _ _) => true
  | _ => false
noncomputable def vStr : Expr → Str
  | .Constant (.str x) _ _ => x
  | _ => Str.empty
noncomputable def vOk : Expr → Bool
  | .Constant (.str _) _ _ => true
  | _ => false
noncomputable def b3Qs : List (Int × Str) := (b3Ks.map kInt).zip (b3Vs.map vStr)
noncomputable def prs (qs : List (Int × Str)) : DRun := qs.map fun q => (mkInt q.1, do let x ← mkText q.2; standAt b3Pos; pure x)
theorem items_prs : ∀ qs : List (Int × Str), Items (prs qs) qs
  | [] => .nil
  | _ :: r => .cons ⟨rfl, b3Pos, rfl⟩ (items_prs r)
noncomputable def chunkC (j : Nat) : List (Int × Str) := (b3Qs.drop (17 * j)).take 17
noncomputable def b3Last : List (Int × Str) := b3Qs.drop 646
noncomputable def b3Cs : List (DRun × List (Int × Str)) := (List.range 37).map fun j => (prs (chunkC (j + 1)), chunkC (j + 1))
noncomputable def b3Main : List DictEntry := entL 528 (chunkC 0 ++ qsOf b3Cs) ++ entS 2466 b3Last
noncomputable def b3Objs : List Obj := dObj b3Main 650 :: (subsOf 579 (b3Cs.map (·.2)) ++ [dObj (entS 2466 b3Last) 4])
theorem evalKs (env : Env) : ∀ ks : List (Option Expr), ks.all kOk = true → evalEachOpt ks env = ks.map fun k => some (mkInt (kInt k))
  | [], _ => rfl
  | k :: ks, h => by
    rw [List.all_cons, Bool.and_eq_true] at h
    have e : evalOpt k env = some (mkInt (kInt k)) := by
      have h1 := h.1
      unfold kOk at h1
      split at h1
      · rfl
      · cases h1
    show evalOpt k env :: evalEachOpt ks env = _
    rw [e, evalKs env ks h.2]; rfl
theorem evalVs (env : Env) : ∀ vs : List Expr, vs.all vOk = true → evalEach vs env = vs.map fun v => mkText (vStr v)
  | [], _ => rfl
  | v :: vs, h => by
    rw [List.all_cons, Bool.and_eq_true] at h
    have e : eval v env = mkText (vStr v) := by
      have h1 := h.1
      unfold vOk at h1
      split at h1
      · rfl
      · cases h1
    show eval v env :: evalEach vs env = _
    rw [e, evalVs env vs h.2]; rfl
theorem zip_prs : ∀ (ks : List (Option Expr)) (vs : List Expr), (ks.map fun k => some (mkInt (kInt k))).zip ((vs.map fun v => mkText (vStr v)).map fun v => (do let x ← v; standAt b3Pos; pure x : Sem Value)) = someAll (prs ((ks.map kInt).zip (vs.map vStr)))
  | [], _ => by simp [prs, someAll]
  | _ :: _, [] => by simp [prs, someAll]
  | k :: ks, v :: vs => by
    have := zip_prs ks vs
    simp only [List.map_cons, List.zip_cons_cons, prs, someAll] at this ⊢
    rw [this]
theorem someAll_append (a b : List (Int × Str)) : someAll (prs (a ++ b)) = someAll (prs a) ++ someAll (prs b) := by simp [someAll, prs]
theorem items_of : ∀ l : List (List (Int × Str)), itemsOf (l.map fun c => (prs c, c)) = someAll (prs l.flatten) ∧ qsOf (l.map fun c => (prs c, c)) = l.flatten
  | [] => ⟨rfl, rfl⟩
  | c :: l => by
    obtain ⟨h1, h2⟩ := items_of l
    rw [List.map_cons, List.flatten_cons, someAll_append]
    exact ⟨by rw [← h1]; rfl, by rw [← h2]; rfl⟩
theorem b3_ks : b3Ks.all kOk = true := by kernel_rfl
theorem b3_vs : b3Vs.all vOk = true := by kernel_rfl
noncomputable def chunksC : List (List (Int × Str)) := (List.range 37).map fun j => chunkC (j + 1)
theorem b3Cs_eq : b3Cs = chunksC.map fun c => (prs c, c) := by unfold b3Cs chunksC; rw [List.map_map]; rfl
theorem b3_split : b3Qs = chunkC 0 ++ (chunksC.flatten ++ b3Last) := by kernel_rfl
theorem b3_lens : (chunkC 0).length = 17 ∧ b3Last.length = 4 ∧ (∀ c ∈ chunksC, c.length = 17) := by
  refine ⟨by kernel_rfl, by kernel_rfl, ?_⟩
  have : (chunksC.all fun c => c.length == 17) = true := by kernel_rfl
  intro c hc
  simpa using List.all_eq_true.mp this c hc
noncomputable def risingB (lo : Int) : List (Int × Str) → Bool
  | [] => true
  | q :: r => decide (lo < q.1) && decide (q.1 < 2 ^ 60) && risingB q.1 r
theorem rising_of : ∀ (qs : List (Int × Str)) (lo : Int), risingB lo qs = true → Rising lo qs
  | [], _, _ => trivial
  | q :: r, lo, h => by
    simp only [risingB, Bool.and_eq_true, decide_eq_true_eq] at h
    exact ⟨h.1.1, h.1.2, rising_of r _ h.2⟩
theorem b3_rising : risingB 0 b3Qs = true := by kernel_rfl
end Mine
end
section -- HState2
open PySem PySem.W PyProof.Rows
set_option maxRecDepth 100000
namespace Mine
noncomputable def h_p10 (P : Params) : List Obj := [o0 P, o1 P, o2 P, o3k P, o4 P, o5 P, o6 P, o7 P, o8 P, o9 P, o10 P, o11 P, o12 P, o13 P, o14 P, o15 P, o16 P, o17 P, o18 P, o19 P,
    o20 P, o21 P, o22 P, o23 P, o24 P, o25 P, o26 P, o27 P, o28 P, o29c P, o30 P, o31 P, o32 P, o33 P, o34 P, o35 P, o36 P, o37 P, o38 P, o39 P,
    o40 P, o41 P, o42 P, o43 P, o44 P, o45 P, o46 P, o47 P, o48 P, o49 P, o50 P, o51 P, o52 P, o53 P, o54 P, o55 P, o56 P, o57 P, o58 P, o59 P,
    o60 P, o61 P, o62 P, o63 P, o64 P, o65 P, o66 P, o67 P, o68 P, o69 P, o70 P, o71 P, o72 P, o73 P, o74 P, o75 P, o76 P, o77 P, o78 P, o79 P,
    o80 P, o81 P, o82 P, o83 P, o84 P, o85 P, o86 P, o87 P, o88 P, o89 P, o90 P, o91 P, o92 P, o93 P, o94 P, o95 P, o96 P, o97 P, o98 P, o99 P,
    o100 P, o101 P, o102 P, o103 P, o104 P, o105 P, o106 P, o107 P, o108 P, o109 P, o110 P, o111 P, o112 P, o113 P, o114 P, o115 P, o116 P, o117 P, o118 P, o119 P,
    o120 P, o121 P, o122 P, o123 P, o124 P, o125 P, o126 P, o127 P, o128 P, o129 P, o130 P, o131 P, o132 P] ++ b3Objs
noncomputable def s_p10 (w : World) (os : OsState) : Shared := ⟨⟨(h_p10 w.params).toArray, {}⟩, #[], {}, 2479, os⟩
noncomputable def h_p11 (P : Params) : List Obj := [o0 P, o1 P, o2 P, o3l P, o4 P, o5 P, o6 P, o7 P, o8 P, o9 P, o10 P, o11 P, o12 P, o13 P, o14 P, o15 P, o16 P, o17 P, o18 P, o19 P,
    o20 P, o21 P, o22 P, o23 P, o24 P, o25 P, o26 P, o27 P, o28 P, o29d P, o30 P, o31 P, o32 P, o33 P, o34 P, o35 P, o36 P, o37 P, o38 P, o39 P,
    o40 P, o41 P, o42 P, o43 P, o44 P, o45 P, o46 P, o47 P, o48 P, o49 P, o50 P, o51 P, o52 P, o53 P, o54 P, o55 P, o56 P, o57 P, o58 P, o59 P,
    o60 P, o61 P, o62 P, o63 P, o64 P, o65 P, o66 P, o67 P, o68 P, o69 P, o70 P, o71 P, o72 P, o73 P, o74 P, o75 P, o76 P, o77 P, o78 P, o79 P,
    o80 P, o81 P, o82 P, o83 P, o84 P, o85 P, o86 P, o87 P, o88 P, o89 P, o90 P, o91 P, o92 P, o93 P, o94 P, o95 P, o96 P, o97 P, o98 P, o99 P,
    o100 P, o101 P, o102 P, o103 P, o104 P, o105 P, o106 P, o107 P, o108 P, o109 P, o110 P, o111 P, o112 P, o113 P, o114 P, o115 P, o116 P, o117 P, o118 P, o119 P,
    o120 P, o121 P, o122 P, o123 P, o124 P, o125 P, o126 P, o127 P, o128 P, o129 P, o130 P, o131 P, o132 P] ++ (b3Objs ++ [o172 P, o173 P, o174 P, o175 P, o176 P, o177 P, o178 P])
noncomputable def s_p11 (w : World) (os : OsState) : Shared := ⟨⟨(h_p11 w.params).toArray, {}⟩, #[], {}, 2487, os⟩
noncomputable def h_p12 (P : Params) : List Obj := [o0 P, o1 P, o2 P, o3m P, o4 P, o5 P, o6 P, o7 P, o8 P, o9 P, o10 P, o11 P, o12 P, o13 P, o14 P, o15 P, o16 P, o17 P, o18 P, o19 P,
    o20 P, o21 P, o22 P, o23 P, o24 P, o25 P, o26 P, o27 P, o28 P, o29d P, o30 P, o31 P, o32 P, o33 P, o34 P, o35 P, o36 P, o37 P, o38 P, o39 P,
    o40 P, o41 P, o42 P, o43 P, o44 P, o45 P, o46 P, o47 P, o48 P, o49 P, o50 P, o51 P, o52 P, o53 P, o54 P, o55 P, o56 P, o57 P, o58 P, o59 P,
    o60 P, o61 P, o62 P, o63 P, o64 P, o65 P, o66 P, o67 P, o68 P, o69 P, o70 P, o71 P, o72 P, o73 P, o74 P, o75 P, o76 P, o77 P, o78 P, o79 P,
    o80 P, o81 P, o82 P, o83 P, o84 P, o85 P, o86 P, o87 P, o88 P, o89 P, o90 P, o91 P, o92 P, o93 P, o94 P, o95 P, o96 P, o97 P, o98 P, o99 P,
    o100 P, o101 P, o102 P, o103 P, o104 P, o105 P, o106 P, o107 P, o108 P, o109 P, o110 P, o111 P, o112 P, o113 P, o114 P, o115 P, o116 P, o117 P, o118 P, o119 P,
    o120 P, o121 P, o122 P, o123 P, o124 P, o125 P, o126 P, o127 P, o128 P, o129 P, o130 P, o131 P, o132 P] ++ (b3Objs ++ [o172 P, o173 P, o174 P, o175 P, o176 P, o177 P, o178 P])
noncomputable def s_p12 (w : World) (os : OsState) : Shared := ⟨⟨(h_p12 w.params).toArray, {}⟩, #[], {}, 2489, os⟩
noncomputable def h_p13 (P : Params) : List Obj := [o0 P, o1 P, o2 P, o3n P, o4 P, o5 P, o6 P, o7 P, o8 P, o9 P, o10 P, o11 P, o12 P, o13 P, o14 P, o15 P, o16 P, o17 P, o18 P, o19 P,
    o20 P, o21 P, o22 P, o23 P, o24 P, o25 P, o26 P, o27 P, o28 P, o29e P, o30 P, o31 P, o32 P, o33 P, o34 P, o35 P, o36 P, o37 P, o38 P, o39 P,
    o40 P, o41 P, o42 P, o43 P, o44 P, o45 P, o46 P, o47 P, o48 P, o49 P, o50 P, o51 P, o52 P, o53 P, o54 P, o55 P, o56 P, o57 P, o58 P, o59 P,
    o60 P, o61 P, o62 P, o63 P, o64 P, o65 P, o66 P, o67 P, o68 P, o69 P, o70 P, o71 P, o72 P, o73 P, o74 P, o75 P, o76 P, o77 P, o78 P, o79 P,
    o80 P, o81 P, o82 P, o83 P, o84 P, o85 P, o86 P, o87 P, o88 P, o89 P, o90 P, o91 P, o92 P, o93 P, o94 P, o95 P, o96 P, o97 P, o98 P, o99 P,
    o100 P, o101 P, o102 P, o103 P, o104 P, o105 P, o106 P, o107 P, o108 P, o109 P, o110 P, o111 P, o112 P, o113 P, o114 P, o115 P, o116 P, o117 P, o118 P, o119 P,
    o120 P, o121 P, o122 P, o123 P, o124 P, o125 P, o126 P, o127 P, o128 P, o129 P, o130 P, o131 P, o132 P] ++ (b3Objs ++ [o172 P, o173 P, o174 P, o175 P, o176 P, o177 P, o178 P, o179 P, o180 P, o181 P, o182 P, o183 P, o184 P, o185 P])
noncomputable def s_p13 (w : World) (os : OsState) : Shared := ⟨⟨(h_p13 w.params).toArray, {}⟩, #[], {}, 2498, os⟩
noncomputable def h_p14 (P : Params) : List Obj := [o0 P, o1 P, o2 P, o3o P, o4 P, o5 P, o6 P, o7 P, o8 P, o9 P, o10 P, o11 P, o12 P, o13 P, o14 P, o15 P, o16 P, o17 P, o18 P, o19 P,
    o20 P, o21 P, o22 P, o23 P, o24 P, o25 P, o26 P, o27 P, o28 P, o29f P, o30 P, o31 P, o32 P, o33 P, o34 P, o35 P, o36 P, o37 P, o38 P, o39 P,
    o40 P, o41 P, o42 P, o43 P, o44 P, o45 P, o46 P, o47 P, o48 P, o49 P, o50 P, o51 P, o52 P, o53 P, o54 P, o55 P, o56 P, o57 P, o58 P, o59 P,
    o60 P, o61 P, o62 P, o63 P, o64 P, o65 P, o66 P, o67 P, o68 P, o69 P, o70 P, o71 P, o72 P, o73 P, o74 P, o75 P, o76 P, o77 P, o78 P, o79 P,
    o80 P, o81 P, o82 P, o83 P, o84 P, o85 P, o86 P, o87 P, o88 P, o89 P, o90 P, o91 P, o92 P, o93 P, o94 P, o95 P, o96 P, o97 P, o98 P, o99 P,
    o100 P, o101 P, o102 P, o103 P, o104 P, o105 P, o106 P, o107 P, o108 P, o109 P, o110 P, o111 P, o112 P, o113 P, o114 P, o115 P, o116 P, o117 P, o118 P, o119 P,
    o120 P, o121 P, o122 P, o123 P, o124 P, o125 P, o126 P, o127 P, o128 P, o129 P, o130 P, o131 P, o132 P] ++ (b3Objs ++ [o172 P, o173 P, o174 P, o175 P, o176 P, o177 P, o178 P, o179 P, o180 P, o181 P, o182 P, o183 P, o184 P, o185 P, o186 P, o187 P, o188 P, o189 P, o190 P])
noncomputable def s_p14 (w : World) (os : OsState) : Shared := ⟨⟨(h_p14 w.params).toArray, {}⟩, #[], {}, 2504, os⟩
noncomputable def h_p15 (P : Params) : List Obj := [o0 P, o1 P, o2 P, o3p P, o4 P, o5 P, o6 P, o7 P, o8 P, o9 P, o10 P, o11 P, o12 P, o13 P, o14 P, o15 P, o16 P, o17 P, o18 P, o19 P,
    o20 P, o21 P, o22 P, o23 P, o24 P, o25 P, o26 P, o27 P, o28 P, o29g P, o30 P, o31 P, o32 P, o33 P, o34 P, o35 P, o36 P, o37 P, o38 P, o39 P,
    o40 P, o41 P, o42 P, o43 P, o44 P, o45 P, o46 P, o47 P, o48 P, o49 P, o50 P, o51 P, o52 P, o53 P, o54 P, o55 P, o56 P, o57 P, o58 P, o59 P,
    o60 P, o61 P, o62 P, o63 P, o64 P, o65 P, o66 P, o67 P, o68 P, o69 P, o70 P, o71 P, o72 P, o73 P, o74 P, o75 P, o76 P, o77 P, o78 P, o79 P,
    o80 P, o81 P, o82 P, o83 P, o84 P, o85 P, o86 P, o87 P, o88 P, o89 P, o90 P, o91 P, o92 P, o93 P, o94 P, o95 P, o96 P, o97 P, o98 P, o99 P,
    o100 P, o101 P, o102 P, o103 P, o104 P, o105 P, o106 P, o107 P, o108 P, o109 P, o110 P, o111 P, o112 P, o113 P, o114 P, o115 P, o116 P, o117 P, o118 P, o119 P,
    o120 P, o121 P, o122 P, o123 P, o124 P, o125 P, o126 P, o127 P, o128 P, o129 P, o130 P, o131 P, o132 P] ++ (b3Objs ++ [o172 P, o173 P, o174 P, o175 P, o176 P, o177 P, o178 P, o179 P, o180 P, o181 P, o182 P, o183 P, o184 P, o185 P, o186 P, o187 P, o188 P, o189 P, o190 P, o191 P,
    o192 P, o193 P, o194 P, o195 P])
noncomputable def s_p15 (w : World) (os : OsState) : Shared := ⟨⟨(h_p15 w.params).toArray, {}⟩, #[], {}, 2510, os⟩
noncomputable def h_p16 (P : Params) : List Obj := [o0 P, o1 P, o2 P, o3q P, o4 P, o5 P, o6 P, o7 P, o8 P, o9 P, o10 P, o11 P, o12 P, o13 P, o14 P, o15 P, o16 P, o17 P, o18 P, o19 P,
    o20 P, o21 P, o22 P, o23 P, o24 P, o25 P, o26 P, o27 P, o28 P, o29h P, o30 P, o31 P, o32 P, o33 P, o34 P, o35 P, o36 P, o37 P, o38 P, o39 P,
    o40 P, o41 P, o42 P, o43 P, o44 P, o45 P, o46 P, o47 P, o48 P, o49 P, o50 P, o51 P, o52 P, o53 P, o54 P, o55 P, o56 P, o57 P, o58 P, o59 P,
    o60 P, o61 P, o62 P, o63 P, o64 P, o65 P, o66 P, o67 P, o68 P, o69 P, o70 P, o71 P, o72 P, o73 P, o74 P, o75 P, o76 P, o77 P, o78 P, o79 P,
    o80 P, o81 P, o82 P, o83 P, o84 P, o85 P, o86 P, o87 P, o88 P, o89 P, o90 P, o91 P, o92 P, o93 P, o94 P, o95 P, o96 P, o97 P, o98 P, o99 P,
    o100 P, o101 P, o102 P, o103 P, o104 P, o105 P, o106 P, o107 P, o108 P, o109 P, o110 P, o111 P, o112 P, o113 P, o114 P, o115 P, o116 P, o117 P, o118 P, o119 P,
    o120 P, o121 P, o122 P, o123 P, o124 P, o125 P, o126 P, o127 P, o128 P, o129 P, o130 P, o131 P, o132 P] ++ (b3Objs ++ [o172 P, o173 P, o174 P, o175 P, o176 P, o177 P, o178 P, o179 P, o180 P, o181 P, o182 P, o183 P, o184 P, o185 P, o186 P, o187 P, o188 P, o189 P, o190 P, o191 P,
    o192 P, o193 P, o194 P, o195 P, o196 P, o197 P, o198 P, o199 P, o200 P])
noncomputable def s_p16 (w : World) (os : OsState) : Shared := ⟨⟨(h_p16 w.params).toArray, {}⟩, #[], {}, 2516, os⟩
end Mine
end
section -- HK
open PySem PySem.W PyProof.Rows
set_option maxRecDepth 100000
namespace Mine
/-- a def's object, its parts read off the text -/
noncomputable abbrev fnLit {st : Stmt} {n : Str} {a : Arguments} {b : List Stmt} {ds : List Expr} {re : Option Expr} {tp : List TypeParam} {sc : Scope} {ts : Option Scope} {bi : Str} {po : Pos}
    (_ : st = .FunctionDef n a b ds re tp sc ts bi po) (f : Arguments → List Stmt → Scope → Obj) : Obj := f a b sc
noncomputable def kH (P : Params) : Frag :=
  (nat_lit 2, (⟨.none, none, (.dict #[⟨(K P (S "\x69mport.loaded._sre")), (.str (S "\x69mport.loaded._sre") 183), (.bool true)⟩, ⟨(K P (S "class._frozen_importlib.BuiltinImporter")), (.str (S "class._frozen_importlib.BuiltinImporter") 185), (.ref 14)⟩, ⟨(K P (S "watched.\x69mport")), (.str (S "watched.\x69mport") 206), (.ref 18)⟩, ⟨(K P (S "class._frozen_importlib.ModuleSpec")), (.str (S "class._frozen_importlib.ModuleSpec") 216), (.ref 22)⟩, ⟨(K P (S "sys.modules.booked-epoch")), (.str (S "sys.modules.booked-epoch") 245), (.int 3 0)⟩, ⟨(K P (S "\x69mport.later-laid._sre")), (.str (S "\x69mport.later-laid._sre") 270), (.bool true)⟩, ⟨(K P (S "watched.library")), (.str (S "watched.library") 272), (.ref 27)⟩, ⟨(K P (S "watched.library-objects")), (.str (S "watched.library-objects") 0), (.str (S "\x0c") 0)⟩, ⟨(K P (S "watched.library-deep._sre")), (.str (S "watched.library-deep._sre") 273), (.str (S "\x04\x00\x00\x0b\x04\x00\x00\x0b\x04\x00\x00\x03\x04\x00\x00\x0b\x08\x04dict\x02") 0)⟩] 9), #[]⟩ : Obj)) ::
  (nat_lit 3, (⟨(.type "dict"), none, (.dict #[⟨(K P (S "__name__")), (.str (S "__name__") 165), (.str (S "law_rl0124_01") 2487)⟩, ⟨(K P (S "__doc__")), (.str (S "__doc__") 166), .none⟩, ⟨(K P (S "__package__")), (.str (S "__package__") 167), .none⟩, ⟨(K P (S "__loader__")), (.str (S "__loader__") 168), (.builtin "__main__.__loader__#opaque")⟩, ⟨(K P (S "__spec__")), (.str (S "__spec__") 169), .none⟩, ⟨(K P (S "__annotations__")), (.str (S "__annotations__") 170), (.ref 6)⟩, ⟨(K P (S "__builtins__")), (.str (S "__builtins__") 171), (.ref 4)⟩, ⟨(K P (S "__file__")), (.str (S "__file__") 173), (.str (S "/claim/cut.py") 172)⟩, ⟨(K P (S "__cached__")), (.str (S "__cached__") 174), .none⟩, ⟨(K P (S "_sre")), (.str (S "_sre") 275), (.ref 12)⟩, ⟨(K P (S "Whitespace")), (.str (S "Whitespace") 389), (.ref 93)⟩, ⟨(K P (S "_twin_re_1")), (.str (S "_twin_re_1") 407), (.ref 102)⟩, ⟨(K P (S "_twin_re_2")), (.str (S "_twin_re_2") 449), (.ref 107)⟩, ⟨(K P (S "CRLF")), (.str (S "CRLF") 451), (.str (S "\r\n") 450)⟩, ⟨(K P (S "quotedata")), (.str (S "quotedata") 458), (.ref 114)⟩, ⟨(K P (S "b1_set")), (.str (S "b1_set") 520), (.ref 122)⟩, ⟨(K P (S "in_table_b1")), (.str (S "in_table_b1") 527), (.ref 132)⟩, ⟨(K P (S "b3_exceptions")), (.str (S "b3_exceptions") 2478), (.ref 133)⟩, ⟨(K P (S "map_table_b3")), (.str (S "map_table_b3") 2486), (.ref 178)⟩, ⟨(K P (S "_law_cells")), (.str (S "_law_cells") 2497), (.ref 185)⟩, ⟨(K P (S "_law_gains")), (.str (S "_law_gains") 2503), (.ref 190)⟩, ⟨(K P (S "_law_lead")), (.str (S "_law_lead") 2509), (.ref 195)⟩, ⟨(K P (S "law")), (.str (S "law") 2515), (.ref 200)⟩] 23), #[]⟩ : Obj)) ::
  (nat_lit 6, (⟨(.type "dict"), none, (.dict #[] 0), #[]⟩ : Obj)) ::
  (nat_lit 11, (⟨(.type "dict"), none, (.dict #[⟨(K P (S "__name__")), (.str (S "__name__") 247), (.str (S "_sre") 246)⟩, ⟨(K P (S "__doc__")), (.str (S "__doc__") 248), .none⟩, ⟨(K P (S "__package__")), (.str (S "__package__") 250), (.str (S "") 249)⟩, ⟨(K P (S "__loader__")), (.str (S "__loader__") 251), (.builtin "off-the-table:_sre.__loader__:shared#opaque")⟩, ⟨(K P (S "__spec__")), (.str (S "__spec__") 252), (.builtin "off-the-table:_sre.__spec__:shared#opaque")⟩, ⟨(K P (S "compile")), (.str (S "compile") 253), (.builtin "_sre.compile")⟩, ⟨(K P (S "template")), (.str (S "template") 254), (.builtin "off-the-table:_sre.template:shared#opaque")⟩, ⟨(K P (S "getcodesize")), (.str (S "getcodesize") 255), (.builtin "off-the-table:_sre.getcodesize:shared#opaque")⟩, ⟨(K P (S "ascii_iscased")), (.str (S "ascii_iscased") 256), (.builtin "off-the-table:_sre.ascii_iscased:shared#opaque")⟩, ⟨(K P (S "unicode_iscased")), (.str (S "unicode_iscased") 257), (.builtin "off-the-table:_sre.unicode_iscased:shared#opaque")⟩, ⟨(K P (S "ascii_tolower")), (.str (S "ascii_tolower") 258), (.builtin "off-the-table:_sre.ascii_tolower:shared#opaque")⟩, ⟨(K P (S "unicode_tolower")), (.str (S "unicode_tolower") 259), (.builtin "off-the-table:_sre.unicode_tolower:shared#opaque")⟩, ⟨(K P (S "MAGIC")), (.str (S "MAGIC") 261), (.int 20230612 260)⟩, ⟨(K P (S "CODESIZE")), (.str (S "CODESIZE") 263), (.int 4 262)⟩, ⟨(K P (S "MAXREPEAT")), (.str (S "MAXREPEAT") 265), (.int 4294967295 264)⟩, ⟨(K P (S "MAXGROUPS")), (.str (S "MAXGROUPS") 267), (.int 1073741823 266)⟩, ⟨(K P (S "copyright")), (.str (S "copyright") 269), (.str (S " SRE 2.2.2 Copyright (c) 1997-2002 by Secret Labs AB ") 268)⟩] 17), #[]⟩ : Obj)) ::
  (nat_lit 12, (⟨(.type "module"), (some 11), .plain, #[]⟩ : Obj)) ::
  (nat_lit 42, (⟨(.type "tuple"), none, (.seq #[] 0), #[]⟩ : Obj)) ::
  (nat_lit 44, (⟨(.type "tuple"), none, (.seq #[(.str (S "self") 304), (.str (S "ws") 305), (.str (S "S") 306), (.str (S "T") 307), (.str (S "count") 308), (.str (S "b") 309), (.str (S "n") 310), (.str (S "nt") 311), (.str (S "ch") 312)] 0), #[]⟩ : Obj)) ::
  (nat_lit 45, (⟨(.type "tuple"), none, (.seq #[] 0), #[]⟩ : Obj)) ::
  (nat_lit 47, (⟨(.type "code"), none, (.fields #[(.str (S "__init__") 301), (.str (S "Whitespace.__init__") 302), (.str (S "/claim/cut.py") 303), (.int 6 0), (.int 2 0), (.int 0 0), (.int 0 0), (.int 3 0), (.ref 42), (.bool true), (.int 276 0), (.ref 43), .none, (.ref 44), (.ref 45), (.ref 46), (.int 313 0), (.int 6 0), (.str (S "/claim/cut.py") 314)]), #[]⟩ : Obj)) ::
  (nat_lit 48, fnLit (rfl : (stM 1) = .FunctionDef _ _ _ _ _ _ _ _ _ _) fun pa bo sc => ⟨(.type "function"), none, (.func { name := (S "__init__"), qualname := (S "Whitespace.__init__"), params := pa, body := .stmts bo, scope := sc, globals := 3, closure := [], defaults := .none, kwdefaults := .none, doc := .none, pyModule := (.str (S "cpy313.tabnanny") 282), annotations := none, code := (.ref 47), closureTuple := .none, builtins := 0 }), #[]⟩) ::
  (nat_lit 49, (⟨(.type "tuple"), none, (.seq #[] 0), #[]⟩ : Obj)) ::
  (nat_lit 51, (⟨(.type "tuple"), none, (.seq #[(.str (S "self") 319), (.str (S "count") 320), (.str (S "trailing") 321)] 0), #[]⟩ : Obj)) ::
  (nat_lit 52, (⟨(.type "tuple"), none, (.seq #[] 0), #[]⟩ : Obj)) ::
  (nat_lit 54, (⟨(.type "code"), none, (.fields #[(.str (S "longest_run_of_spaces") 316), (.str (S "Whitespace.longest_run_of_spaces") 317), (.str (S "/claim/cut.py") 318), (.int 29 0), (.int 1 0), (.int 0 0), (.int 0 0), (.int 3 0), (.ref 49), (.bool true), (.int 276 0), (.ref 50), .none, (.ref 51), (.ref 52), (.ref 53), (.int 322 0), (.int 29 0), (.str (S "/claim/cut.py") 323)]), #[]⟩ : Obj)) ::
  (nat_lit 55, fnLit (rfl : (stM 2) = .FunctionDef _ _ _ _ _ _ _ _ _ _) fun pa bo sc => ⟨(.type "function"), none, (.func { name := (S "longest_run_of_spaces"), qualname := (S "Whitespace.longest_run_of_spaces"), params := pa, body := .stmts bo, scope := sc, globals := 3, closure := [], defaults := .none, kwdefaults := .none, doc := .none, pyModule := (.str (S "cpy313.tabnanny") 282), annotations := none, code := (.ref 54), closureTuple := .none, builtins := 0 }), #[]⟩) ::
  (nat_lit 56, (⟨(.type "tuple"), none, (.seq #[] 0), #[]⟩ : Obj)) ::
  (nat_lit 58, (⟨(.type "tuple"), none, (.seq #[(.str (S "self") 328), (.str (S "tabsize") 329), (.str (S "count") 330), (.str (S "trailing") 331), (.str (S "il") 332), (.str (S "i") 333)] 0), #[]⟩ : Obj)) ::
  (nat_lit 59, (⟨(.type "tuple"), none, (.seq #[] 0), #[]⟩ : Obj)) ::
  (nat_lit 61, (⟨(.type "code"), none, (.fields #[(.str (S "indent_level") 325), (.str (S "Whitespace.indent_level") 326), (.str (S "/claim/cut.py") 327), (.int 33 0), (.int 2 0), (.int 0 0), (.int 0 0), (.int 3 0), (.ref 56), (.bool true), (.int 276 0), (.ref 57), .none, (.ref 58), (.ref 59), (.ref 60), (.int 334 0), (.int 33 0), (.str (S "/claim/cut.py") 335)]), #[]⟩ : Obj)) ::
  (nat_lit 62, fnLit (rfl : (stM 3) = .FunctionDef _ _ _ _ _ _ _ _ _ _) fun pa bo sc => ⟨(.type "function"), none, (.func { name := (S "indent_level"), qualname := (S "Whitespace.indent_level"), params := pa, body := .stmts bo, scope := sc, globals := 3, closure := [], defaults := .none, kwdefaults := .none, doc := .none, pyModule := (.str (S "cpy313.tabnanny") 282), annotations := none, code := (.ref 61), closureTuple := .none, builtins := 0 }), #[]⟩) ::
  (nat_lit 63, (⟨(.type "tuple"), none, (.seq #[] 0), #[]⟩ : Obj)) ::
  (nat_lit 65, (⟨(.type "tuple"), none, (.seq #[(.str (S "self") 340), (.str (S "other") 341)] 0), #[]⟩ : Obj)) ::
  (nat_lit 66, (⟨(.type "tuple"), none, (.seq #[] 0), #[]⟩ : Obj)) ::
  (nat_lit 68, (⟨(.type "code"), none, (.fields #[(.str (S "equal") 337), (.str (S "Whitespace.equal") 338), (.str (S "/claim/cut.py") 339), (.int 40 0), (.int 2 0), (.int 0 0), (.int 0 0), (.int 3 0), (.ref 63), (.bool true), (.int 276 0), (.ref 64), .none, (.ref 65), (.ref 66), (.ref 67), (.int 342 0), (.int 40 0), (.str (S "/claim/cut.py") 343)]), #[]⟩ : Obj)) ::
  (nat_lit 69, fnLit (rfl : (stM 4) = .FunctionDef _ _ _ _ _ _ _ _ _ _) fun pa bo sc => ⟨(.type "function"), none, (.func { name := (S "equal"), qualname := (S "Whitespace.equal"), params := pa, body := .stmts bo, scope := sc, globals := 3, closure := [], defaults := .none, kwdefaults := .none, doc := .none, pyModule := (.str (S "cpy313.tabnanny") 282), annotations := none, code := (.ref 68), closureTuple := .none, builtins := 0 }), #[]⟩) ::
  (nat_lit 70, (⟨(.type "tuple"), none, (.seq #[] 0), #[]⟩ : Obj)) ::
  (nat_lit 72, (⟨(.type "tuple"), none, (.seq #[(.str (S "self") 348), (.str (S "other") 349), (.str (S "n") 350), (.str (S "a") 351), (.str (S "ts") 352)] 0), #[]⟩ : Obj)) ::
  (nat_lit 73, (⟨(.type "tuple"), none, (.seq #[] 0), #[]⟩ : Obj)) ::
  (nat_lit 75, (⟨(.type "code"), none, (.fields #[(.str (S "not_equal_witness") 345), (.str (S "Whitespace.not_equal_witness") 346), (.str (S "/claim/cut.py") 347), (.int 43 0), (.int 2 0), (.int 0 0), (.int 0 0), (.int 3 0), (.ref 70), (.bool true), (.int 276 0), (.ref 71), .none, (.ref 72), (.ref 73), (.ref 74), (.int 353 0), (.int 43 0), (.str (S "/claim/cut.py") 354)]), #[]⟩ : Obj)) ::
  (nat_lit 76, fnLit (rfl : (stM 5) = .FunctionDef _ _ _ _ _ _ _ _ _ _) fun pa bo sc => ⟨(.type "function"), none, (.func { name := (S "not_equal_witness"), qualname := (S "Whitespace.not_equal_witness"), params := pa, body := .stmts bo, scope := sc, globals := 3, closure := [], defaults := .none, kwdefaults := .none, doc := .none, pyModule := (.str (S "cpy313.tabnanny") 282), annotations := none, code := (.ref 75), closureTuple := .none, builtins := 0 }), #[]⟩) ::
  (nat_lit 77, (⟨(.type "tuple"), none, (.seq #[] 0), #[]⟩ : Obj)) ::
  (nat_lit 79, (⟨(.type "tuple"), none, (.seq #[(.str (S "self") 359), (.str (S "other") 360), (.str (S "n") 361), (.str (S "ts") 362)] 0), #[]⟩ : Obj)) ::
  (nat_lit 80, (⟨(.type "tuple"), none, (.seq #[] 0), #[]⟩ : Obj)) ::
  (nat_lit 82, (⟨(.type "code"), none, (.fields #[(.str (S "less") 356), (.str (S "Whitespace.less") 357), (.str (S "/claim/cut.py") 358), (.int 51 0), (.int 2 0), (.int 0 0), (.int 0 0), (.int 3 0), (.ref 77), (.bool true), (.int 276 0), (.ref 78), .none, (.ref 79), (.ref 80), (.ref 81), (.int 363 0), (.int 51 0), (.str (S "/claim/cut.py") 364)]), #[]⟩ : Obj)) ::
  (nat_lit 83, fnLit (rfl : (stM 6) = .FunctionDef _ _ _ _ _ _ _ _ _ _) fun pa bo sc => ⟨(.type "function"), none, (.func { name := (S "less"), qualname := (S "Whitespace.less"), params := pa, body := .stmts bo, scope := sc, globals := 3, closure := [], defaults := .none, kwdefaults := .none, doc := .none, pyModule := (.str (S "cpy313.tabnanny") 282), annotations := none, code := (.ref 82), closureTuple := .none, builtins := 0 }), #[]⟩) ::
  (nat_lit 84, (⟨(.type "tuple"), none, (.seq #[] 0), #[]⟩ : Obj)) ::
  (nat_lit 86, (⟨(.type "tuple"), none, (.seq #[(.str (S "self") 369), (.str (S "other") 370), (.str (S "n") 371), (.str (S "a") 372), (.str (S "ts") 373)] 0), #[]⟩ : Obj)) ::
  (nat_lit 87, (⟨(.type "tuple"), none, (.seq #[] 0), #[]⟩ : Obj)) ::
  (nat_lit 89, (⟨(.type "code"), none, (.fields #[(.str (S "not_less_witness") 366), (.str (S "Whitespace.not_less_witness") 367), (.str (S "/claim/cut.py") 368), (.int 62 0), (.int 2 0), (.int 0 0), (.int 0 0), (.int 3 0), (.ref 84), (.bool true), (.int 276 0), (.ref 85), .none, (.ref 86), (.ref 87), (.ref 88), (.int 374 0), (.int 62 0), (.str (S "/claim/cut.py") 375)]), #[]⟩ : Obj)) ::
  (nat_lit 90, fnLit (rfl : (stM 7) = .FunctionDef _ _ _ _ _ _ _ _ _ _) fun pa bo sc => ⟨(.type "function"), none, (.func { name := (S "not_less_witness"), qualname := (S "Whitespace.not_less_witness"), params := pa, body := .stmts bo, scope := sc, globals := 3, closure := [], defaults := .none, kwdefaults := .none, doc := .none, pyModule := (.str (S "cpy313.tabnanny") 282), annotations := none, code := (.ref 89), closureTuple := .none, builtins := 0 }), #[]⟩) ::
  (nat_lit 91, (⟨(.type "tuple"), none, (.seq #[(.str (S "is_simple") 377), (.str (S "n") 378), (.str (S "norm") 379), (.str (S "nt") 380), (.str (S "raw") 381)] 0), #[]⟩ : Obj)) ::
  (nat_lit 92, (⟨(.type "dict"), none, (.dict #[⟨(K P (S "__module__")), (.str (S "__module__") 291), (.str (S "cpy313.tabnanny") 282)⟩, ⟨(K P (S "__firstlineno__")), (.str (S "__firstlineno__") 295), (.int 3 294)⟩, ⟨(K P (S "S")), (.str (S "S") 299), (.str (S " ") 297)⟩, ⟨(K P (S "T")), (.str (S "T") 300), (.str (S "\t") 298)⟩, ⟨(K P (S "__init__")), (.str (S "__init__") 315), (.ref 48)⟩, ⟨(K P (S "longest_run_of_spaces")), (.str (S "longest_run_of_spaces") 324), (.ref 55)⟩, ⟨(K P (S "indent_level")), (.str (S "indent_level") 336), (.ref 62)⟩, ⟨(K P (S "equal")), (.str (S "equal") 344), (.ref 69)⟩, ⟨(K P (S "not_equal_witness")), (.str (S "not_equal_witness") 355), (.ref 76)⟩, ⟨(K P (S "less")), (.str (S "less") 365), (.ref 83)⟩, ⟨(K P (S "not_less_witness")), (.str (S "not_less_witness") 376), (.ref 90)⟩, ⟨(K P (S "__static_attributes__")), (.str (S "__static_attributes__") 382), (.ref 91)⟩, ⟨(K P (S "__dict__")), (.str (S "__dict__") 384), (.ref 94)⟩, ⟨(K P (S "__weakref__")), (.str (S "__weakref__") 386), (.ref 95)⟩, ⟨(K P (S "__doc__")), (.str (S "__doc__") 387), .none⟩] 4), #[]⟩ : Obj)) ::
  (nat_lit 93, (⟨(.type "type"), none, (.cls { name := (S "Whitespace"), bases := [(.type "object")], mro := [(.ref 93), (.type "object")], ns := 92, qualname := (S "Whitespace"), hasDict := true, slotNames := [], subclasses := [], abstract := false, collection := none, hasDel := false }), #[none, none, (some (.str (S "Whitespace") 284)), (some (.str (S "Whitespace") 292)), (some (.builtin "object.__new__")), (some (.bool true))]⟩ : Obj)) ::
  (nat_lit 94, (⟨(.type "getset_descriptor"), none, (.fields #[(.str (S "__dict__") 383), (.ref 93), (.builtin "function.__dict__"), (.builtin "function.__dict__#set")]), #[]⟩ : Obj)) ::
  (nat_lit 95, (⟨(.type "getset_descriptor"), none, (.fields #[(.str (S "__weakref__") 385), (.ref 93), (.builtin "ExceptionGroup.__weakref__"), .none]), #[]⟩ : Obj)) ::
  (nat_lit 101, (⟨(.type "tuple"), none, (.seq #[(.int 14 0), (.int 4 0), (.int 0 0), (.int 1 0), (.int 1 0), (.int 6 0), (.int 1 0), (.int 16 0), (.int 46 0), (.int 1 0)] 0), #[]⟩ : Obj)) ::
  (nat_lit 102, (⟨(.type "re.Pattern"), none, (.fields #[(.str (S "(?m)^\\.") 393), (.int 40 406), (.int 0 0), .none, .none, (.ref 101), (.int 0 0)]), #[]⟩ : Obj)) ::
  (nat_lit 106, (⟨(.type "tuple"), none, (.seq #[(.int 14 0), (.int 9 0), (.int 4 0), (.int 1 0), (.int 2 0), (.int 16 0), (.int 10 0), (.int 16 0), (.int 13 0), (.int 0 0), (.int 7 0), (.int 7 0), (.int 16 0), (.int 13 0), (.int 16 0), (.int 10 0), (.int 15 0), (.int 18 0), (.int 5 0), (.int 16 0), (.int 10 0), (.int 15 0), (.int 13 0), (.int 11 0), (.int 16 0), (.int 13 0), (.int 5 0), (.int 5 0), (.int 0 0), (.int 16 0), (.int 10 0), (.int 1 0), (.int 15 0), (.int 2 0), (.int 0 0), (.int 1 0)] 0), #[]⟩ : Obj)) ::
  (nat_lit 107, (⟨(.type "re.Pattern"), none, (.fields #[(.str (S "(?:\\r\\n|\\n|\\r(?!\\n))") 409), (.int 32 448), (.int 0 0), .none, .none, (.ref 106), (.int 0 0)]), #[]⟩ : Obj)) ::
  (nat_lit 108, (⟨(.type "tuple"), none, (.seq #[] 0), #[]⟩ : Obj)) ::
  (nat_lit 110, (⟨(.type "tuple"), none, (.seq #[(.str (S "data") 455)] 0), #[]⟩ : Obj)) ::
  (nat_lit 111, (⟨(.type "tuple"), none, (.seq #[] 0), #[]⟩ : Obj)) ::
  (nat_lit 113, (⟨(.type "code"), none, (.fields #[(.str (S "quotedata") 452), (.str (S "quotedata") 453), (.str (S "/claim/cut.py") 454), (.int 73 0), (.int 1 0), (.int 0 0), (.int 0 0), (.int 3 0), (.ref 108), (.bool true), (.int 276 0), (.ref 109), .none, (.ref 110), (.ref 111), (.ref 112), (.int 456 0), (.int 73 0), (.str (S "/claim/cut.py") 457)]), #[]⟩ : Obj)) ::
  (nat_lit 114, fnLit (rfl : (stT 6) = .FunctionDef _ _ _ _ _ _ _ _ _ _) fun pa bo sc => ⟨(.type "function"), none, (.func { name := (S "quotedata"), qualname := (S "quotedata"), params := pa, body := .stmts bo, scope := sc, globals := 3, closure := [], defaults := .none, kwdefaults := .none, doc := .none, pyModule := (.str (S "cpy313.smtplib") 390), annotations := none, code := (.ref 113), closureTuple := .none, builtins := 0 }), #[]⟩) ::
  (nat_lit 122, (⟨(.type "set"), none, (.set #[(65024, (.int 65024 477)), (65025, (.int 65025 478)), (65026, (.int 65026 479)), (65027, (.int 65027 480)), (65028, (.int 65028 481)), (65029, (.int 65029 482)), (6150, (.int 6150 463)), (65030, (.int 65030 483)), (65031, (.int 65031 484)), (65032, (.int 65032 485)), (65033, (.int 65033 486)), (6155, (.int 6155 464)), (6156, (.int 6156 465)), (6157, (.int 6157 466)), (8203, (.int 8203 467)), (8204, (.int 8204 468)), (8205, (.int 8205 469)), (65034, (.int 65034 487)), (65035, (.int 65035 488)), (65036, (.int 65036 489)), (65037, (.int 65037 490)), (65038, (.int 65038 491)), (65039, (.int 65039 492)), (173, (.int 173 461)), (847, (.int 847 462)), (8288, (.int 8288 470)), (65279, (.int 65279 471))] 29 ⟨127, #[0, 1, 2, 3, 4, 5, 6, 7, 8, 9, 10, 11, 12, 13, 14, 15, 16, 17, 18, 19, 20, 21, 22, 45, 79, 96, 127], #[], 0, !P.followText "set-order", 2, true⟩), #[]⟩ : Obj)) ::
  (nat_lit 126, (⟨(.type "tuple"), none, (.seq #[] 0), #[]⟩ : Obj)) ::
  (nat_lit 128, (⟨(.type "tuple"), none, (.seq #[(.str (S "code") 524)] 0), #[]⟩ : Obj)) ::
  (nat_lit 129, (⟨(.type "tuple"), none, (.seq #[] 0), #[]⟩ : Obj)) ::
  (nat_lit 131, (⟨(.type "code"), none, (.fields #[(.str (S "in_table_b1") 521), (.str (S "in_table_b1") 522), (.str (S "/claim/cut.py") 523), (.int 77 0), (.int 1 0), (.int 0 0), (.int 0 0), (.int 3 0), (.ref 126), (.bool true), (.int 276 0), (.ref 127), .none, (.ref 128), (.ref 129), (.ref 130), (.int 525 0), (.int 77 0), (.str (S "/claim/cut.py") 526)]), #[]⟩ : Obj)) ::
  (nat_lit 132, fnLit (rfl : (stT 9) = .FunctionDef _ _ _ _ _ _ _ _ _ _) fun pa bo sc => ⟨(.type "function"), none, (.func { name := (S "in_table_b1"), qualname := (S "in_table_b1"), params := pa, body := .stmts bo, scope := sc, globals := 3, closure := [], defaults := .none, kwdefaults := .none, doc := .none, pyModule := (.str (S "cpy313.stringprep") 459), annotations := none, code := (.ref 131), closureTuple := .none, builtins := 0 }), #[]⟩) ::
  (nat_lit 133, dObj b3Main 650) ::
  (nat_lit 172, (⟨(.type "tuple"), none, (.seq #[] 0), #[]⟩ : Obj)) ::
  (nat_lit 174, (⟨(.type "tuple"), none, (.seq #[(.str (S "code") 2482), (.str (S "r") 2483)] 0), #[]⟩ : Obj)) ::
  (nat_lit 175, (⟨(.type "tuple"), none, (.seq #[] 0), #[]⟩ : Obj)) ::
  (nat_lit 177, (⟨(.type "code"), none, (.fields #[(.str (S "map_table_b3") 2479), (.str (S "map_table_b3") 2480), (.str (S "/claim/cut.py") 2481), (.int 80 0), (.int 1 0), (.int 0 0), (.int 0 0), (.int 3 0), (.ref 172), (.bool true), (.int 276 0), (.ref 173), .none, (.ref 174), (.ref 175), (.ref 176), (.int 2484 0), (.int 80 0), (.str (S "/claim/cut.py") 2485)]), #[]⟩ : Obj)) ::
  (nat_lit 178, fnLit (rfl : (stT 11) = .FunctionDef _ _ _ _ _ _ _ _ _ _) fun pa bo sc => ⟨(.type "function"), none, (.func { name := (S "map_table_b3"), qualname := (S "map_table_b3"), params := pa, body := .stmts bo, scope := sc, globals := 3, closure := [], defaults := .none, kwdefaults := .none, doc := .none, pyModule := (.str (S "cpy313.stringprep") 459), annotations := none, code := (.ref 177), closureTuple := .none, builtins := 0 }), #[]⟩) ::
  (nat_lit 179, (⟨(.type "tuple"), none, (.seq #[] 0), #[]⟩ : Obj)) ::
  (nat_lit 181, (⟨(.type "tuple"), none, (.seq #[(.str (S "script") 2492), (.str (S "cells") 2493), (.str (S "place") 2494)] 0), #[]⟩ : Obj)) ::
  (nat_lit 182, (⟨(.type "tuple"), none, (.seq #[] 0), #[]⟩ : Obj)) ::
  (nat_lit 184, (⟨(.type "code"), none, (.fields #[(.str (S "_law_cells") 2489), (.str (S "_law_cells") 2490), (.str (S "/claim/cut.py") 2491), (.int 86 0), (.int 1 0), (.int 0 0), (.int 0 0), (.int 3 0), (.ref 179), (.bool true), (.int 276 0), (.ref 180), .none, (.ref 181), (.ref 182), (.ref 183), (.int 2495 0), (.int 86 0), (.str (S "/claim/cut.py") 2496)]), #[]⟩ : Obj)) ::
  (nat_lit 185, fnLit (rfl : (stT 13) = .FunctionDef _ _ _ _ _ _ _ _ _ _) fun pa bo sc => ⟨(.type "function"), none, (.func { name := (S "_law_cells"), qualname := (S "_law_cells"), params := pa, body := .stmts bo, scope := sc, globals := 3, closure := [], defaults := .none, kwdefaults := .none, doc := .none, pyModule := (.str (S "law_rl0124_01") 2487), annotations := none, code := (.ref 184), closureTuple := .none, builtins := 0 }), #[]⟩) ::
  (nat_lit 186, (⟨(.type "tuple"), none, (.seq #[] 0), #[]⟩ : Obj)) ::
  (nat_lit 189, (⟨(.type "code"), none, (.fields #[(.str (S "_law_gains") 2498), (.str (S "_law_gains") 2499), (.str (S "/claim/cut.py") 2500), (.int 91 0), (.int 1 0), (.int 0 0), (.int 0 0), (.int 3 0), (.ref 186), (.bool true), (.int 276 0), (.ref 187), .none, .none, .none, (.ref 188), (.int 2501 0), (.int 91 0), (.str (S "/claim/cut.py") 2502)]), #[]⟩ : Obj)) ::
  (nat_lit 190, fnLit (rfl : (stT 14) = .FunctionDef _ _ _ _ _ _ _ _ _ _) fun pa bo sc => ⟨(.type "function"), none, (.func { name := (S "_law_gains"), qualname := (S "_law_gains"), params := pa, body := .stmts bo, scope := sc, globals := 3, closure := [], defaults := .none, kwdefaults := .none, doc := .none, pyModule := (.str (S "law_rl0124_01") 2487), annotations := none, code := (.ref 189), closureTuple := .none, builtins := 0 }), #[]⟩) ::
  (nat_lit 191, (⟨(.type "tuple"), none, (.seq #[] 0), #[]⟩ : Obj)) ::
  (nat_lit 194, (⟨(.type "code"), none, (.fields #[(.str (S "_law_lead") 2504), (.str (S "_law_lead") 2505), (.str (S "/claim/cut.py") 2506), (.int 96 0), (.int 4 0), (.int 0 0), (.int 0 0), (.int 3 0), (.ref 191), (.bool true), (.int 276 0), (.ref 192), .none, .none, .none, (.ref 193), (.int 2507 0), (.int 96 0), (.str (S "/claim/cut.py") 2508)]), #[]⟩ : Obj)) ::
  (nat_lit 195, fnLit (rfl : (stT 15) = .FunctionDef _ _ _ _ _ _ _ _ _ _) fun pa bo sc => ⟨(.type "function"), none, (.func { name := (S "_law_lead"), qualname := (S "_law_lead"), params := pa, body := .stmts bo, scope := sc, globals := 3, closure := [], defaults := .none, kwdefaults := .none, doc := .none, pyModule := (.str (S "law_rl0124_01") 2487), annotations := none, code := (.ref 194), closureTuple := .none, builtins := 0 }), #[]⟩) ::
  (nat_lit 196, (⟨(.type "tuple"), none, (.seq #[] 0), #[]⟩ : Obj)) ::
  (nat_lit 199, (⟨(.type "code"), none, (.fields #[(.str (S "law") 2510), (.str (S "law") 2511), (.str (S "/claim/cut.py") 2512), (.int 106 0), (.int 1 0), (.int 0 0), (.int 0 0), (.int 3 0), (.ref 196), (.bool true), (.int 276 0), (.ref 197), .none, .none, .none, (.ref 198), (.int 2513 0), (.int 106 0), (.str (S "/claim/cut.py") 2514)]), #[]⟩ : Obj)) ::
  (nat_lit 200, fnLit (rfl : (stT 16) = .FunctionDef _ _ _ _ _ _ _ _ _ _) fun pa bo sc => ⟨(.type "function"), none, (.func { name := (S "law"), qualname := (S "law"), params := pa, body := .stmts bo, scope := sc, globals := 3, closure := [], defaults := .none, kwdefaults := .none, doc := .none, pyModule := (.str (S "law_rl0124_01") 2487), annotations := none, code := (.ref 199), closureTuple := .none, builtins := 0 }), #[]⟩) :: []
noncomputable def asH : List Addr := [nat_lit 2, nat_lit 3, nat_lit 6, nat_lit 11, nat_lit 12, nat_lit 42, nat_lit 44, nat_lit 45, nat_lit 47, nat_lit 48, nat_lit 49, nat_lit 51, nat_lit 52, nat_lit 54, nat_lit 55, nat_lit 56, nat_lit 58, nat_lit 59, nat_lit 61, nat_lit 62, nat_lit 63, nat_lit 65, nat_lit 66, nat_lit 68, nat_lit 69, nat_lit 70, nat_lit 72, nat_lit 73, nat_lit 75, nat_lit 76, nat_lit 77, nat_lit 79, nat_lit 80, nat_lit 82, nat_lit 83, nat_lit 84, nat_lit 86, nat_lit 87, nat_lit 89, nat_lit 90, nat_lit 91, nat_lit 92, nat_lit 93, nat_lit 94, nat_lit 95, nat_lit 101, nat_lit 102, nat_lit 106, nat_lit 107, nat_lit 108, nat_lit 110, nat_lit 111, nat_lit 113, nat_lit 114, nat_lit 122, nat_lit 126, nat_lit 128, nat_lit 129, nat_lit 131, nat_lit 132, nat_lit 133, nat_lit 172, nat_lit 174, nat_lit 175, nat_lit 177, nat_lit 178, nat_lit 179, nat_lit 181, nat_lit 182, nat_lit 184, nat_lit 185, nat_lit 186, nat_lit 189, nat_lit 190, nat_lit 191, nat_lit 194, nat_lit 195, nat_lit 196, nat_lit 199, nat_lit 200]
end Mine
end
section -- HS10
open PySem PySem.W PyProof.Rows
set_option maxRecDepth 100000
namespace Mine
/-- behind the display -/
noncomputable def s_d (w : World) (os : OsState) : Shared := ⟨⟨(h_p9 w.params ++ b3Objs).toArray, {}⟩, #[], {}, 2478, os⟩
noncomputable def b3Dict : Expr := .Dict b3Ks b3Vs b3Pos
theorem gDict (w : World) (os : OsState) : Gos treeTable prog w 28 annT (347 * 37 + 601) (eval b3Dict envT) (s_p9 w os) (.ref 133) (s_d w os) := by
  have h := gos_display (p := prog) (w := w) (n₀ := 28) (ann := annT) (s := s_p9 w os) (B := h_p9 w.params) (lf := {}) (Nat.le_of_ble_eq_true rfl) (Nat.le_of_ble_eq_true rfl) (prs (chunkC 0), chunkC 0) b3Cs (prs b3Last, b3Last) ⟨items_prs _, b3_lens.1⟩
    (by rw [b3Cs_eq]; intro c hc; obtain ⟨x, hx, rfl⟩ := List.mem_map.mp hc; exact ⟨items_prs _, b3_lens.2.2 x hx⟩) ⟨items_prs _, by rw [b3_lens.2.1]; decide, by rw [b3_lens.2.1]; decide⟩ (by rw [b3Cs_eq, List.length_map]; unfold chunksC; rw [List.length_map, List.length_range]; decide)
    (by rw [b3Cs_eq, (items_of chunksC).2, ← b3_split]; exact rising_of _ _ b3_rising) rfl
  have hl : b3Cs.length = 37 := by rw [b3Cs_eq, List.length_map]; unfold chunksC; rw [List.length_map, List.length_range]
  have e : eval b3Dict envT = (do standAt b3Pos; dictDisplay (someAll (prs (chunkC 0)) ++ (itemsOf b3Cs ++ someAll (prs b3Last)))) := by
    rw [b3Cs_eq, (items_of chunksC).1, ← someAll_append, ← someAll_append, ← b3_split]
    show (do standAt b3Pos; dictDisplay ((evalEachOpt b3Ks envT).zip ((evalEach b3Vs envT).map fun v => do let x ← v; standAt b3Pos; pure x))) = _
    rw [evalKs _ _ b3_ks, evalVs _ _ b3_vs, zip_prs]
    rfl
  rw [e]
  rw [hl, b3_lens.2.1] at h
  refine gos_le (k := 1 + (347 * 37 + 600)) (gos_bind gos_standAt ?_) (by omega)
  exact h
end Mine
namespace Mine
noncomputable def b3Tgt : List Expr := match stT 10 with
  | .Assign ts _ _ => ts
  | _ => []
noncomputable def b3SPos : Pos := match stT 10 with
  | .Assign _ _ q => q
  | _ => default
theorem b3_st : stT 10 = .Assign b3Tgt b3Dict b3SPos := by kernel_rfl
theorem gTail (w : World) (os : OsState) : GosT w 20 (do assignStores envT (.ref 133) (← swappedStores b3Tgt b3Dict envT) ((assignEach b3Tgt envT).map (·.2)) : Sem Flow) (s_d w os) .next (s_p10 w os) := fun K H gd lv pos => ⟨7, ⟨79, 0, 79, 13⟩, by decide, topGo_of (by kernel_rfl)⟩
theorem g10 (w : World) (os : OsState) : GosT w (347 * 37 + 622) (exec (stT 10) envT) (s_p9 w os) .next (s_p10 w os) := by
  rw [b3_st]
  have e : exec (.Assign b3Tgt b3Dict b3SPos) envT = (do
      standAt b3SPos
      let v ← eval b3Dict envT
      assignStores envT v (← swappedStores b3Tgt b3Dict envT) ((assignEach b3Tgt envT).map (·.2))) := by
    have h : swapsWithSole b3Tgt b3Dict b3SPos.line envT = Sem.pure false := by kernel_rfl
    show (do
      standAt b3SPos
      if ← swapsWithSole b3Tgt b3Dict b3SPos.line envT then do
        evalThenUse b3Dict envT fun v => assignAll v ((assignEach b3Tgt envT).map (·.2))
        pure .next
      else do
        let v ← eval b3Dict envT
        assignStores envT v (← swappedStores b3Tgt b3Dict envT) ((assignEach b3Tgt envT).map (·.2)) : Sem Flow) = _
    rw [h]
    rfl
  rw [e]
  exact gosT_bind (k := 1) (k' := 347 * 37 + 601 + 20) (gosT_of gos_standAt) (gosT_bind (gosT_of (gDict w os)) (gTail w os))
end Mine
end
section -- HRun
open PySem PySem.W PyProof.Rows
set_option maxRecDepth 100000
namespace Mine
theorem g0 (w : World) (os : OsState) : GosT w 9 (exec (stT 0) envT) (s_a w os) .next (s_p0 w os) := fun K H gd lv pos => ⟨9, ⟨2, 0, 2, 8⟩, Nat.le_refl _, topGo_of (by kernel_rfl)⟩
theorem g1 (w : World) (os : OsState) : GosT w 498 (exec (stT 1) envT) (s_p0 w os) .next (s_p1 w os) := fun K H gd lv pos => ⟨498, ⟨3, 0, 68, 16⟩, Nat.le_refl _, topGo_of (by
  refine byRow2 (P := fun w => goW denQ prog w 28 annT 498 (s_p0 w os) ⟨(exec (stT 1) envT).wrap K H gd lv, codeT, pos, stackT⟩ = some (s_p1 w os, ⟨K .next, codeT, ⟨3, 0, 68, 16⟩, stackT⟩)) "special-get-raises" ?_ ?_ w <;> intro w <;> kernel_rfl)⟩
theorem g2 (w : World) (os : OsState) : GosT w 9 (exec (stT 2) envT) (s_p1 w os) .next (s_p2 w os) := fun K H gd lv pos => ⟨9, ⟨69, 0, 69, 8⟩, Nat.le_refl _, topGo_of (by kernel_rfl)⟩
theorem g3 (w : World) (os : OsState) : GosT w 59 (exec (stT 3) envT) (s_p2 w os) .next (s_p3 w os) := fun K H gd lv pos => ⟨59, ⟨70, 0, 70, 10⟩, Nat.le_refl _, topGo_of (by kernel_rfl)⟩
theorem g4 (w : World) (os : OsState) : GosT w 85 (exec (stT 4) envT) (s_p3 w os) .next (s_p4 w os) := fun K H gd lv pos => ⟨85, ⟨71, 0, 71, 10⟩, Nat.le_refl _, topGo_of (by kernel_rfl)⟩
theorem g5 (w : World) (os : OsState) : GosT w 9 (exec (stT 5) envT) (s_p4 w os) .next (s_p5 w os) := fun K H gd lv pos => ⟨9, ⟨72, 0, 72, 4⟩, Nat.le_refl _, topGo_of (by kernel_rfl)⟩
theorem g6 (w : World) (os : OsState) : GosT w 29 (exec (stT 6) envT) (s_p5 w os) .next (s_p6 w os) := fun K H gd lv pos => ⟨29, ⟨73, 0, 74, 59⟩, Nat.le_refl _, topGo_of (by kernel_rfl)⟩
theorem g7 (w : World) (os : OsState) : GosT w 9 (exec (stT 7) envT) (s_p6 w os) .next (s_p7 w os) := fun K H gd lv pos => ⟨9, ⟨75, 0, 75, 8⟩, Nat.le_refl _, topGo_of (by kernel_rfl)⟩
theorem g8_t (w : World) (os : OsState) (K : Flow → Sem Fin) (H : Value → Sem Fin) (gd : Bool → Bool) (lv : List Value → List Value) (pos : Pos) : goW denQ prog (w.withFollow "special-get-raises" true) 28 annT 998 (s_p7 (w.withFollow "special-get-raises" true) os) ⟨(exec (stT 8) envT).wrap K H gd lv, codeT, pos, stackT⟩ = some (s_p8 (w.withFollow "special-get-raises" true) os, ⟨K .next, codeT, ⟨76, 0, 76, 6⟩, stackT⟩) := by kernel_rfl
theorem g8_f (w : World) (os : OsState) (K : Flow → Sem Fin) (H : Value → Sem Fin) (gd : Bool → Bool) (lv : List Value → List Value) (pos : Pos) : goW denQ prog (w.withFollow "special-get-raises" false) 28 annT 998 (s_p7 (w.withFollow "special-get-raises" false) os) ⟨(exec (stT 8) envT).wrap K H gd lv, codeT, pos, stackT⟩ = some (s_p8 (w.withFollow "special-get-raises" false) os, ⟨K .next, codeT, ⟨76, 0, 76, 6⟩, stackT⟩) := by kernel_rfl
theorem g8 (w : World) (os : OsState) : GosT w 998 (exec (stT 8) envT) (s_p7 w os) .next (s_p8 w os) := fun K H gd lv pos => ⟨998, ⟨76, 0, 76, 6⟩, Nat.le_refl _, topGo_of (by
  refine byRow2 (P := fun w => goW denQ prog w 28 annT 998 (s_p7 w os) ⟨(exec (stT 8) envT).wrap K H gd lv, codeT, pos, stackT⟩ = some (s_p8 w os, ⟨K .next, codeT, ⟨76, 0, 76, 6⟩, stackT⟩)) "special-get-raises" ?_ ?_ w <;> intro w
  · exact g8_f w os K H gd lv pos
  · exact g8_t w os K H gd lv pos)⟩
theorem g9 (w : World) (os : OsState) : GosT w 29 (exec (stT 9) envT) (s_p8 w os) .next (s_p9 w os) := fun K H gd lv pos => ⟨29, ⟨77, 0, 78, 30⟩, Nat.le_refl _, topGo_of (by kernel_rfl)⟩
theorem g11 (w : World) (os : OsState) : GosT w 30 (exec (stT 11) envT) (s_p10 w os) .next (s_p11 w os) := fun K H gd lv pos => ⟨30, ⟨80, 0, 84, 23⟩, Nat.le_refl _, topGo_of (by kernel_rfl)⟩
theorem g12 (w : World) (os : OsState) : GosT w 9 (exec (stT 12) envT) (s_p11 w os) .next (s_p12 w os) := fun K H gd lv pos => ⟨9, ⟨85, 0, 85, 8⟩, Nat.le_refl _, topGo_of (by kernel_rfl)⟩
theorem g13 (w : World) (os : OsState) : GosT w 31 (exec (stT 13) envT) (s_p12 w os) .next (s_p13 w os) := fun K H gd lv pos => ⟨31, ⟨86, 0, 90, 16⟩, Nat.le_refl _, topGo_of (by kernel_rfl)⟩
theorem g14 (w : World) (os : OsState) : GosT w 26 (exec (stT 14) envT) (s_p13 w os) .next (s_p14 w os) := fun K H gd lv pos => ⟨26, ⟨91, 0, 95, 16⟩, Nat.le_refl _, topGo_of (by kernel_rfl)⟩
theorem g15 (w : World) (os : OsState) : GosT w 26 (exec (stT 15) envT) (s_p14 w os) .next (s_p15 w os) := fun K H gd lv pos => ⟨26, ⟨96, 0, 105, 69⟩, Nat.le_refl _, topGo_of (by kernel_rfl)⟩
theorem g16 (w : World) (os : OsState) : GosT w 26 (exec (stT 16) envT) (s_p15 w os) .next (s_p16 w os) := fun K H gd lv pos => ⟨26, ⟨106, 0, 122, 480⟩, Nat.le_refl _, topGo_of (by kernel_rfl)⟩
theorem gosT_nil {w : World} {s : Shared} : GosT w 0 (execs [] envT) s .next s := fun _ _ _ _ pos => ⟨0, pos, Nat.le_refl _, rfl⟩
theorem gosT_cons {w : World} {st : Stmt} {r : List Stmt} {s s' s'' : Shared} {k k' : Nat} (h : GosT w k (exec st envT) s .next s') (g : GosT w k' (execs r envT) s' .next s'') : GosT w (k + k') (execs (st :: r) envT) s .next s'' := by
  have e : execs (st :: r) envT = (exec st envT >>= fun f => match f with | .next => execs r envT | f => pure f) := rfl
  rw [e]
  exact gosT_bind h g
theorem body_is : bodyT = [stT 0, stT 1, stT 2, stT 3, stT 4, stT 5, stT 6, stT 7, stT 8, stT 9, stT 10, stT 11, stT 12, stT 13, stT 14, stT 15, stT 16] := by kernel_rfl
theorem gBody (w : World) (os : OsState) : GosT w 20000 (execs bodyT envT) (s_a w os) .next (s_p16 w os) := by
  rw [body_is]
  have h := gosT_cons (g0 w os) (gosT_cons (g1 w os) (gosT_cons (g2 w os) (gosT_cons (g3 w os) (gosT_cons (g4 w os) (gosT_cons (g5 w os) (gosT_cons (g6 w os) (gosT_cons (g7 w os) (gosT_cons (g8 w os) (gosT_cons (g9 w os) (gosT_cons (g10 w os) (gosT_cons (g11 w os) (gosT_cons (g12 w os) (gosT_cons (g13 w os) (gosT_cons (g14 w os) (gosT_cons (g15 w os) (gosT_cons (g16 w os) gosT_nil))))))))))))))))
  intro K H gd lv pos
  obtain ⟨n, q, h1, h2⟩ := h K H gd lv pos
  exact ⟨n, q, Nat.le_trans h1 (by decide), h2⟩
theorem gPre (w : World) (os : OsState) : topGo treeTable prog w 28 annT 12 (s_0 w os) (topStub prog) = some (s_a w os, ⟨denote treeTable codeT, codeT, default, stackT⟩) := by kernel_rfl
theorem gRun (w : World) (os : OsState) : topRun treeTable prog w 28 annT 20014 (s_0 w os) (topStub prog) = some (s_p16 w os) := by
  obtain ⟨n, q, h1, h2⟩ := gBody w os doneF (leaveH envT) id id default
  have hfin : topRun treeTable prog w 28 annT 2 (s_p16 w os) ⟨doneF .next, codeT, q, stackT⟩ = some (s_p16 w os) := rfl
  have h3 := go_top h2 hfin
  have h4 : topRun treeTable prog w 28 annT (n + 2) (s_a w os) ⟨denote treeTable codeT, codeT, default, stackT⟩ = some (s_p16 w os) := by
    rw [body_wrap]
    exact h3
  have h5 := topRun_mono (20002 - (n + 2)) _ _ _ _ h4
  rw [show n + 2 + (20002 - (n + 2)) = 20002 by omega] at h5
  exact go_top (gPre w os) h5
end Mine
end
section -- HOpen
open PySem PySem.W PyProof.Rows
set_option maxRecDepth 100000
namespace Mine
theorem open_go (w : World) : (((PySem.W.Fast.tw10274390034422433532 PySem.W.Fast.tw14364793385576792824 (opening prog) w 20100 (start (opening prog)).1 (start (opening prog)).2).bind (fenceModules? prog)).map (fun s => (s.heap, s.gens, s.drawn, s.toks))) = some (⟨(h_0 w.params).toArray, {}⟩, #[], {}, 276) := by kernel_rfl
theorem open_eq (w : World) : (fencedOpening treeTable prog w 20100).map (fun s => (s.heap, s.gens, s.drawn, s.toks)) = some (⟨(h_0 w.params).toArray, {}⟩, #[], {}, 276) := by
  unfold fencedOpening
  rw [PySem.W.Fast.te10274390034422433532, PySem.W.Fast.te14364793385576792824]
  exact open_go w
end Mine
end
section -- HLook
open PySem PySem.W PyProof.Rows
set_option maxRecDepth 100000
namespace Mine
noncomputable def viewT : Program := view prog [0, 2, 4, 5, 6, 7, 9, 10, 11, 12, 14, 15, 16, 17]
noncomputable def looseT : List Str := [S "Whitespace", S "_twin_re_1", S "_twin_re_2", S "b1_set", S "b3_exceptions"]
noncomputable abbrev hp0 (P : Params) : Heap := ⟨(h_0 P).toArray, {}⟩
noncomputable abbrev hp1 (P : Params) : Heap := ⟨(h_p16 P).toArray, {}⟩
noncomputable abbrev XtT (s : Shared) : Bool := xlAt viewT [] s && recOk [] s
theorem size_eq (w : World) : ((hp0 w.params).isNs mainGlobals && (#[] : Array GenState).size == 0, (hp0 w.params).objs.size, (hp0 w.params).nsMap mainGlobals "__annotations__") = (true, 28, some (.ref 6)) := by kernel_rfl
theorem look1 (w : World) (os : OsState) : (staticsOk (importedModules prog.main.body) (hp0 w.params) (hp1 w.params) && namesBound prog (hp1 w.params) && gensDone ⟨hp1 w.params, #[], {}, 2516, os⟩ && laidKept (hp0 w.params) (hp1 w.params)) = true := by kernel_rfl
end Mine
end
section -- HLook2
open PySem PySem.W PyProof.Rows
set_option maxRecDepth 100000
namespace Mine
noncomputable abbrev sf (w : World) (os : OsState) : Shared := ⟨hp1 w.params, #[], {}, 2516, os⟩
theorem look2a (w : World) (os : OsState) : seen ((recsOf viewT).map (·.name)) (ownsOf viewT) [] { sf w os with gens := #[] } = expectedOf viewT := by kernel_rfl
theorem look2b (w : World) (os : OsState) : (sf w os).heap.bltView = bltViewBooted := by kernel_rfl
/-- keys that grow stand apart: seen in one pass -/
noncomputable def ascFrom : Int → List (PyData × PyData) → Bool
  | _, [] => true
  | a, (.int k, _) :: D => decide (a < k) && ascFrom k D
  | _, _ => false
theorem asc_has : ∀ {D : List (PyData × PyData)} {a j : Int}, ascFrom a D = true → j ≤ a → hasIntKey j D = false
  | [], _, _, _, _ => rfl
  | (.int k, _) :: D, a, j, h, hj => by
    simp only [ascFrom, Bool.and_eq_true, decide_eq_true_eq] at h
    have h1 := asc_has h.2 (j := j) (by omega)
    simp only [hasIntKey, h1, Bool.or_false, beq_eq_false_iff_ne, ne_eq]
    omega
  | (.none, _) :: _, _, _, h, _ | (.bool _, _) :: _, _, _, h, _ | (.str _, _) :: _, _, _, h, _ | (.list _, _) :: _, _, _, h, _ | (.tuple _, _) :: _, _, _, h, _ | (.dict _, _) :: _, _, _, h, _ => by simp [ascFrom] at h
theorem asc_apart : ∀ {D : List (PyData × PyData)} {a : Int}, ascFrom a D = true → keysApartInt D = true
  | [], _, _ => rfl
  | (.int k, _) :: D, a, h => by
    simp only [ascFrom, Bool.and_eq_true, decide_eq_true_eq] at h
    simp only [keysApartInt, asc_has h.2 (Int.le_refl k), asc_apart h.2, Bool.not_false, Bool.and_self]
  | (.none, _) :: _, _, h | (.bool _, _) :: _, _, h | (.str _, _) :: _, _, h | (.list _, _) :: _, _, h | (.tuple _, _) :: _, _, h | (.dict _, _) :: _, _, h => by simp [ascFrom] at h
noncomputable def b3D : List (PyData × PyData) := (tabIntOf viewT (S "b3_exceptions")).getD []
theorem b3D_asc : ascFrom 0 b3D = true := by kernel_rfl
theorem b3D_is : tabIntOf viewT (S "b3_exceptions") = some b3D := by kernel_rfl
theorem b3D_ok (w : World) (os : OsState) : (sf w os).heap.tabIntOk (S "b3_exceptions") b3D = true := by
  have e1 : (sf w os).heap.nsMap mainGlobals (S "b3_exceptions") = some (.ref 133) := by kernel_rfl
  have e2 : (sf w os).heap.get? 133 = some (dObj b3Main 650) := by kernel_rfl
  have e3 : entriesAreInt b3Main b3D = true := by kernel_rfl
  unfold Heap.tabIntOk
  rw [e1]
  dsimp only
  rw [e2]
  dsimp only [dObj]
  rw [e3, asc_apart b3D_asc]
  rfl
theorem names_is : valNames viewT = (valNames viewT).filter (· != S "b3_exceptions") ++ [S "b3_exceptions"] := by kernel_rfl
theorem rest_ok (w : World) (os : OsState) : ((valNames viewT).filter (· != S "b3_exceptions")).all (fun x => (match tupIntsOf viewT x with | some ns => (sf w os).heap.tupIntsOk x ns | none => true) && (match tupStrsOf viewT x with | some ss => (sf w os).heap.tupStrsOk x ss | none => true) && (match tabIntOf viewT x with | some D => (sf w os).heap.tabIntOk x D | none => true)) = true := by kernel_rfl
theorem look2c4 (w : World) (os : OsState) : tablesOk viewT (sf w os).heap = true := by
  have e1 : tupIntsOf viewT (S "b3_exceptions") = none := by kernel_rfl
  have e2 : tupStrsOf viewT (S "b3_exceptions") = none := by kernel_rfl
  unfold tablesOk
  rw [names_is, List.all_append]
  refine Bool.and_eq_true_iff.mpr ⟨rest_ok w os, ?_⟩
  rw [List.all_cons, List.all_nil, e1, e2, b3D_is]
  dsimp only
  rw [b3D_ok w os]
  rfl
theorem look2c1 (w : World) (os : OsState) : (sf w os).heap.keysOk (looseW viewT looseT) ((recsOf viewT).map (·.name)) ((litsOf viewT).map (·.1)) ((clssOf viewT (looseW viewT looseT)).map (·.name)) = true := by kernel_rfl
theorem look2c2 (w : World) (os : OsState) : (sf w os).heap.accountedOkI (importedModules prog.main.body) = true := by kernel_rfl
theorem look2c3 (w : World) (os : OsState) : (sf w os).heap.isNs mainGlobals = true := by kernel_rfl
theorem look2c3b (w : World) (os : OsState) : (sf w os).heap.isNs builtinsNs = true := by kernel_rfl
theorem look2c5 (w : World) (os : OsState) : XtT (sf w os) = true := by kernel_rfl
theorem look2c6 (w : World) (os : OsState) : (if true then (sf w os).gens.size == 0 else !leftWithCleanup (sf w os).gens) = true := by rfl
theorem look2c (w : World) (os : OsState) : ((sf w os).heap.keysOk (looseW viewT looseT) ((recsOf viewT).map (·.name)) ((litsOf viewT).map (·.1)) ((clssOf viewT (looseW viewT looseT)).map (·.name)) && (sf w os).heap.accountedOkI (importedModules prog.main.body) && (sf w os).heap.isNs mainGlobals && (sf w os).heap.isNs builtinsNs && tablesOk viewT (sf w os).heap && XtT (sf w os) && (if true then (sf w os).gens.size == 0 else !leftWithCleanup (sf w os).gens)) = true := by
  rw [look2c1, look2c2, look2c3, look2c3b, look2c4, look2c5, look2c6]
  rfl
theorem look2d (w : World) (os : OsState) : tabsOk viewT (sf w os) = true := by kernel_rfl
theorem look2e (w : World) (os : OsState) : pinSeenD viewT (drecsOf viewT) (sf w os) = pinGoodD (drecsOf viewT) := by kernel_rfl
theorem look2f (w : World) (os : OsState) : plainSeenE viewT (looseW viewT looseT) (sf w os) = plainGoodE viewT (looseW viewT looseT) := by kernel_rfl
theorem look2g (w : World) (os : OsState) : plainSeenD viewT looseT (sf w os) = plainGoodD viewT looseT := by kernel_rfl
theorem look2h (w : World) (os : OsState) : wideSeen viewT (sf w os) = wideGood viewT := by kernel_rfl
theorem look2i (w : World) (os : OsState) : clsSeenW viewT looseT (sf w os) = clsGoodW viewT looseT := by kernel_rfl
theorem look2 (w : World) (os : OsState) : openSeen viewT looseT (importedModules prog.main.body) XtT true (sf w os) = openGood viewT looseT := by
  unfold openSeen openGood
  rw [look2a, look2b, look2c, look2d, look2e, look2f, look2g, look2h, look2i]
end Mine
end
section -- HHead
open PySem PySem.W PyProof.Rows
set_option maxRecDepth 100000
namespace Mine
theorem asH_eq (P : Params) : asH = (kH P).map (·.1) := by kernel_rfl
noncomputable abbrev hookH : Hook := kHook kH asH asH_eq
theorem look3 (w : World) (os : OsState) : Hook.obs hookH (sf w os) = Hook.val hookH w := by kernel_rfl
theorem leftH : LeftO prog viewT looseT XtT (Hook.obs hookH) (Hook.val hookH) 20100 :=
  LeftO.of_pieces (H₀ := hp0) (H₁ := hp1) (gs₀ := #[]) (gs₁ := #[]) (d₀ := {}) (d₁ := {}) (k₀ := 276) (k₁ := 2516) (m₀ := 28) (ann := some (.ref 6)) (M := 20014) open_eq size_eq gRun rfl fun w => by
    funext os
    rw [look1 w os, look2 w os, look3 w os]
end Mine
end
section -- W1
open PySem PySem.W PyProof.Rows
set_option maxRecDepth 100000
set_option maxHeartbeats 8000000
namespace Mine
theorem saidT : PySem.Challenge.rw_rl0124_01.wellSaid = true := by kernel_rfl
theorem hd {d : DefRec} {kwd : List (Str × Expr)} (hdef : defOf viewT PySem.Challenge.rw_rl0124_01.row.name = some (d, kwd)) (hp : prog.theDef PySem.Challenge.rw_rl0124_01.row.name = some (d.params, d.body, d.scope)) (hk : kwWritten? d.params.kwonlyargs d.params.kw_defaults = some kwd)
    (walk : WalkO viewT looseT (XL viewT []) (kHook kH asH asH_eq).says PySem.Challenge.rw_rl0124_01.row.toRowW d kwd fun f vs => PySem.call f vs) : PySem.Challenge.rw_rl0124_01.Holds := by
  w_on
  refine holds_law saidT fun said => ?_
  refine holds_open (q := Mine.viewT) (loose := Mine.looseT) (Xt := Mine.XtT) (XP := XL Mine.viewT []) (Yf := Hook.obs Mine.hookH) (Ya := Hook.val Mine.hookH) (YP := Hook.says Mine.hookH) (N := 20100) Mine.leftH (Hook.of Mine.hookH) (Hook.keeps Mine.hookH) (fun s e => xl_of s (Bool.and_eq_true_iff.mp e).1) XL.keeps hdef hp hk (fun s e => recFacts_of (Bool.and_eq_true_iff.mp e).2) (by rfl) (by assumption) (by decide +kernel) ⟨rfl, rfl, rfl, rfl, rfl, by decide +kernel⟩ ?hw walk
  · w_witness2
end Mine
end
section -- P1
open PySem PySem.W PyProof.Rows PySem.Spec PySem.Calls
set_option maxRecDepth 100000
set_option maxHeartbeats 8000000
namespace Mine
/-- a frame with one name laid -/
noncomputable def upd (m : Str → Option Value) (x : Str) (v : Value) : Str → Option Value := fun y => if y = x then some v else m y
section
variable {M : Model} {A : Around} {E : Value → Shared → Prop} {sh : Heap} {sg : _} {sd : _} {st : Nat} {so : _} {h₀ : Heap} {L a : Addr} {m : Str → Option Value} {cn : Str} {cs : Scope} {ccd : Value} {cl : List (Str × Addr)}
  {x : Str} {v : Value} {Q : Unit → Shared → Prop} {news : List (Addr × Obj)}
/-- a store whose count of tokens is anybody's; the state is written out -/
theorem storeX_U (F : Fr h₀ L sh m) (N : News h₀ L sh news) (h : ∀ h' tk, Fr h₀ L h' (upd m x v) → News h₀ L h' news → Q () ⟨h', sg, sd, tk, so⟩)
    (hk : cs.kind = .function := by rfl) (hx : (envX cn cs L a ccd cl).kindOf x = some .local := by rfl) : wpAny M A (storeName (envX cn cs L a ccd cl) x v) Q E ⟨sh, sg, sd, st, so⟩ :=
  storeX_L F N (fun h' F' N' => h h' _ F' N') hk hx
/-- the same of a number, whose mark is anybody's too -/
theorem storeX_Ui {n : Int} {t : Tok} (F : Fr h₀ L sh m) (N : News h₀ L sh news) (h : ∀ h' tk t', Fr h₀ L h' (upd m x (.int n t')) → News h₀ L h' news → Q () ⟨h', sg, sd, tk, so⟩)
    (hk : cs.kind = .function := by rfl) (hx : (envX cn cs L a ccd cl).kindOf x = some .local := by rfl) : wpAny M A (storeName (envX cn cs L a ccd cl) x (.int n t)) Q E ⟨sh, sg, sd, st, so⟩ :=
  storeX_L F N (fun h' F' N' => h h' _ _ F' N') hk hx
/-- the same of a text -/
theorem storeX_Us {n : Str} {t : Tok} (F : Fr h₀ L sh m) (N : News h₀ L sh news) (h : ∀ h' tk t', Fr h₀ L h' (upd m x (.str n t')) → News h₀ L h' news → Q () ⟨h', sg, sd, tk, so⟩)
    (hk : cs.kind = .function := by rfl) (hx : (envX cn cs L a ccd cl).kindOf x = some .local := by rfl) : wpAny M A (storeName (envX cn cs L a ccd cl) x (.str n t)) Q E ⟨sh, sg, sd, st, so⟩ :=
  storeX_L F N (fun h' F' N' => h h' _ _ F' N') hk hx
/-- a store that keeps the count of tokens -/
theorem storeX_T (F : Fr h₀ L sh m) (N : News h₀ L sh news) (h : ∀ h', Fr h₀ L h' (upd m x v) → News h₀ L h' news → Q () ⟨h', sg, sd, st + 1, so⟩)
    (hk : cs.kind = .function := by rfl) (hx : (envX cn cs L a ccd cl).kindOf x = some .local := by rfl) : wpAny M A (storeName (envX cn cs L a ccd cl) x v) Q E ⟨sh, sg, sd, st, so⟩ :=
  storeX_L F N h hk hx
theorem int_l {i : Int} {k : _} {pos : Pos} {env : Env} {Q : Value → Shared → Prop} (h : Q (.int i st) ⟨sh, sg, sd, st + 1, so⟩) : wpAny M A (eval (.Constant (.int i) k pos) env) Q E ⟨sh, sg, sd, st, so⟩ := wpAny_Constant_int h
theorem add_l {prog : Program} {w : World} {a b : Int} {t u : Tok} {Q : Value → Shared → Prop} (h : Q (.int (a + b) st) ⟨sh, sg, sd, st + 1, so⟩) : wpAny (model prog w) A (binaryOp .Add (.int a t) (.int b u)) Q E ⟨sh, sg, sd, st, so⟩ := PyProof.Rows.add_int h
theorem sub_l {prog : Program} {w : World} {a b : Int} {t u : Tok} {Q : Value → Shared → Prop} (h : Q (.int (a - b) st) ⟨sh, sg, sd, st + 1, so⟩) : wpAny (model prog w) A (binaryOp .Sub (.int a t) (.int b u)) Q E ⟨sh, sg, sd, st, so⟩ := PyProof.Rows.sub_int h
end
noncomputable abbrev looseX : List Str := looseW viewT looseT
noncomputable def EndP (s : Shared) (P : Value → Heap → Prop) (v : Value) (s' : Shared) : Prop := ∃ h' tk', s' = { s with heap := h', toks := tk' } ∧ s.heap.StaysIn h' ∧ P v h'
section
variable {prog : Program} {w : World} {A₀ A : Around} {s : Shared} {base h₀ : Heap} {outer : List Env} {L : Addr} {m : Str → Option Value} {env : Env} {K : Frag}
  {p : Program} {loose : List Str} {mean : ExcName → Option Value} {mg mb : Str → Option Value}
  {R : Result → Shared → Prop} {name qual : Str} {params : Arguments} {body : List Stmt} {scope : Scope} {dV kV doc pm cdv ct oc : Value} {an od : Option Addr} {osl : Array (Option Value)} {f : Addr} {args : Args} {binds : List (Str × Value)} {P : Value → Heap → Prop}
theorem enterP (B : Below A₀ base outer h₀) (F : Fr h₀ L s.heap m) (X₀ : K.In h₀) (T : Top p loose mean mg mb h₀) (hA : A.frames = some (env :: outer)) (hf : env.frame = some L) (hke : env.scope.kind = .function)
    (ho : K.lookup f = some ⟨oc, od, .func (fnOf name qual params body scope dV kV doc pm an cdv ct), osl⟩) (hcd : codeIn K cdv qual = true) (hroom : A.depth < recursionLimit)
    (hbind : BindsTo s (fnOf name qual params body scope dV kV doc pm an cdv ct) args binds) (hloc : ∀ y ∈ binds, scope.names.lookup y.1 = some .local)
    (h : ∀ L' h₁ tk, Fr s.heap L' h₁ (fun y => binds.reverse.lookup y) → News s.heap L' h₁ [] → Below A base (env :: outer) s.heap → K.In s.heap → Top p loose mean mg mb s.heap →
      wpAny (model prog w) (A.deeper (envOf qual scope L' f cdv)) (execs body (envOf qual scope L' f cdv))
        (fun fl s' => EndP s P (match fl with | .ret v => v | _ => .none) s') (fun _ _ => False)
        { s with heap := h₁, toks := tk })
    (hret : ∀ h' tk' v, s.heap.StaysIn h' → P v h' → R (.ok (.ret v)) { s with heap := h', toks := tk' })
    (hco : scope.isCoroutine = false) (hgen : scope.isGenerator = false) (hk : scope.kind = .function)
    (hcell : ∀ x ∈ scope.names, x.2 ≠ .cell) : codeAny (model prog w) A (.call (.ref f) args) R s := by
  have BG := pushX B F hf hke
  refine codeAny_call_def (fd := fnX name qual params body scope [] dV kV doc pm an cdv ct) (body := body) (binds := binds) hroom ((X₀.keeps F.keep) _ _ ho) rfl (T.nolimit.keeps F.keep) (codeRec_of (X₀.keeps F.keep) hcd) rfl hbind hcell hloc (fun h₁ hns hk₁ => ?_) hco hgen hk
  refine wpAny_mono (h s.heap.objs.size h₁ _ ⟨hns, hk₁, Nat.le_refl _⟩ (fun _ hp => nomatch hp) ⟨hA, BG.stays, BG.frames⟩ (X₀.keeps F.keep) (T.keeps F.keep)) (fun fl s' hl => ?_) fun _ _ y => y.elim
  obtain ⟨h', tk', rfl, st, hp⟩ := hl
  exact hret _ _ _ st hp
theorem enterPC (B : Below A₀ base outer h₀) (F : Fr h₀ L s.heap m) (X₀ : K.In h₀) (T : Top p loose mean mg mb h₀) (hA : A.frames = some (env :: outer)) (hf : env.frame = some L) (hke : env.scope.kind = .function)
    (ho : K.lookup f = some ⟨oc, od, .func (fnOf name qual params body scope dV kV doc pm an cdv ct), osl⟩) (hcd : codeIn K cdv qual = true) (hroom : A.depth < recursionLimit)
    (hbind : BindsTo s (fnOf name qual params body scope dV kV doc pm an cdv ct) args binds) (hkind : (binds.all fun y => scope.names.lookup y.1 == some .local || scope.names.lookup y.1 == some .cell) = true)
    (hnd : ((cellsFrom 0 scope.names []).map (·.1)).Nodup)
    (h : ∀ L' h₁ tk cells, Fr s.heap L' h₁ (bindL (envOfC qual scope L' f cdv).kindOf binds fun _ => none) → News s.heap L' h₁ (cells ++ []) →
      CellsAre (bindC (envOfC qual scope L' f cdv).kindOf binds fun _ => none) (cellsFrom (L' + 1) scope.names []) cells → Below A base (env :: outer) s.heap → K.In s.heap → Top p loose mean mg mb s.heap →
      wpAny (model prog w) (A.deeper (envOfC qual scope L' f cdv)) (execs body (envOfC qual scope L' f cdv))
        (fun fl s' => EndP s P (match fl with | .ret v => v | _ => .none) s') (fun _ _ => False)
        { s with heap := h₁, toks := tk })
    (hret : ∀ h' tk' v, s.heap.StaysIn h' → P v h' → R (.ok (.ret v)) { s with heap := h', toks := tk' })
    (hco : scope.isCoroutine = false) (hgen : scope.isGenerator = false) (hk : scope.kind = .function) : codeAny (model prog w) A (.call (.ref f) args) R s := by
  have BG := pushX B F hf hke
  have hlim := T.nolimit
  refine codeAny_call_function hroom ((X₀.keeps F.keep) _ _ ho) rfl hco hgen rfl (codeRec_of (X₀.keeps F.keep) hcd) (hbind _ _ _ _ ?_)
  refine wpAny_newFunctionEnv_cells hk (kindsX hkind _) fun env' he s' x => ?_
  subst he
  refine ⟨(hlim.keeps F.keep).keeps x.toInCall.keep, codeAny_func ?_⟩
  obtain ⟨h₁, tk, rfl, _⟩ := x.done
  have hk₁ := x.toInCall.keep
  obtain ⟨cells, NC, Y⟩ := Cl.news (h₀ := s.heap) (Nat.le_refl _) fun n c hm => ⟨x.cell n c (lookup_of_mem_nodup (cellsFrom_names scope.names 0 (s.heap.objs.size + 1) [] [] rfl ▸ hnd) hm), x.above n c hm⟩
  refine wpAny_mono (h s.heap.objs.size h₁ tk cells ⟨x.toInCall.ns, hk₁, Nat.le_refl _⟩ (by rw [List.append_nil]; exact NC) Y ⟨hA, BG.stays, BG.frames⟩ (X₀.keeps F.keep) (T.keeps F.keep)) (fun fl s' hl => ?_) fun _ _ y => y.elim
  obtain ⟨h', tk', rfl, st, hp⟩ := hl
  exact hret _ _ _ st hp
end
/-- a call that leaves all that was there as it was -/
noncomputable abbrev PC (w : World) (f : Addr) (dep : Nat) (Pre : Heap → Prop) (args : List Value) (P : Value → Heap → Prop) : Prop :=
  ∀ (mean : ExcName → Option Value) (mg mb : Str → Option Value) (dp un : Nat) (gd : Option (List Code)) (cn : Str) (cs : Scope) (a : Addr) (ccd : Value) (cl : List (Str × Addr)) (outer : List Env) (A₀ : Around) (base h₀ : Heap) (L : Addr) (m : Str → Option Value) (s : Shared) (R : Result → Shared → Prop),
    Below A₀ base outer h₀ → Fr h₀ L s.heap m → (kH w.params).In h₀ → Top viewT looseX mean mg mb h₀ → cs.kind = .function → dp + dep < recursionLimit → un + 8 * dep < cLine → Pre s.heap →
    (∀ h' tk' v, s.heap.StaysIn h' → P v h' → R (.ok (.ret v)) { s with heap := h', toks := tk' }) →
    codeAny (model PySem.Challenge.rw_rl0124_01.row.prog w) (ktrTop dp un gd cn cs L a ccd cl outer) (.call (.ref f) ⟨args, []⟩) R s
end Mine
end
section -- P2
open PySem PySem.W PyProof.Rows PySem.Spec PySem.Calls
set_option maxRecDepth 100000
set_option maxHeartbeats 8000000
namespace Mine
theorem stays_of {H g h' h₀ : Heap} {L L' : Addr} {m' : Str → Option Value} {objs news' : List (Addr × Obj)} (G : GSub H g (objs.map (·.1))) (N : News h₀ L H objs) (F' : Fr g L' h' m') (N' : News g L' h' news')
    (hs : ∀ p ∈ objs, p ∈ news') : H.StaysIn h' := by
  intro b o e
  by_cases hb : b ∈ objs.map (·.1)
  · obtain ⟨p, hp, rfl⟩ := List.mem_map.mp hb
    have h1 := (N p hp).1
    rw [e] at h1
    cases h1
    exact (N' p (hs p hp)).1
  · exact F'.keep b o (G b o e hb)
theorem endN {s : Shared} {g h' h₀ : Heap} {L L' : Addr} {m' : Str → Option Value} {objs news' : List (Addr × Obj)} {P : Value → Heap → Prop} {v : Value} {tk : Nat} (G : GSub s.heap g (objs.map (·.1))) (N : News h₀ L s.heap objs) (F' : Fr g L' h' m') (N' : News g L' h' news')
    (hs : ∀ p ∈ objs, p ∈ news') (hp : P v h') : EndP s P v { s with heap := h', toks := tk } := ⟨h', tk, rfl, stays_of G N F' N' hs, hp⟩
/-- new to the caller -/
theorem new_of {H g h' : Heap} {L' l : Addr} {objs news' : List (Addr × Obj)} {o : Obj} (G : GSub H g (objs.map (·.1))) (N' : News g L' h' news') (hm : (l, o) ∈ news') (ha : ∀ p ∈ objs, l ≠ p.1) : H.get? l = none ∧ h'.get? l = some o := by
  refine ⟨?_, (N' _ hm).1⟩
  cases e : H.get? l with
  | none => rfl
  | some o' =>
    have := G l o' e (fun q => by obtain ⟨p, hp, e'⟩ := List.mem_map.mp q; exact ha p hp e'.symm)
    rw [(N' _ hm).2.2] at this; cases this
section
variable {prog : Program} {w : World} {A₀ A : Around} {s : Shared} {base h₀ : Heap} {outer : List Env} {L : Addr} {m : Str → Option Value} {env : Env} {K : Frag} {objs : List (Addr × Obj)}
  {p : Program} {loose : List Str} {mean : ExcName → Option Value} {mg mb : Str → Option Value}
  {R : Result → Shared → Prop} {name qual : Str} {params : Arguments} {body : List Stmt} {scope : Scope} {dV kV doc pm cdv ct oc : Value} {an od : Option Addr} {osl : Array (Option Value)} {f : Addr} {args : Args} {binds : List (Str × Value)} {P : Value → Heap → Prop}
theorem enterN (B : Below A₀ base outer h₀) (F : Fr h₀ L s.heap m) (X₀ : K.In h₀) (N : News h₀ L s.heap objs) (T : Top p loose mean mg mb h₀) (hA : A.frames = some (env :: outer)) (hf : env.frame = some L) (hke : env.scope.kind = .function)
    (ho : K.lookup f = some ⟨oc, od, .func (fnOf name qual params body scope dV kV doc pm an cdv ct), osl⟩) (hcd : codeIn K cdv qual = true) (hroom : A.depth < recursionLimit)
    (hbind : BindsTo s (fnOf name qual params body scope dV kV doc pm an cdv ct) args binds) (hloc : ∀ y ∈ binds, scope.names.lookup y.1 = some .local)
    (h : ∀ g L' h₁ tk, Fr g L' h₁ (fun y => binds.reverse.lookup y) → News g L' h₁ objs → Below A base (env :: outer) g → K.In g → Top p loose mean mg mb g → GSub s.heap g (objs.map (·.1)) → (∀ p ∈ objs, p.1 < L') →
      wpAny (model prog w) (A.deeper (envOf qual scope L' f cdv)) (execs body (envOf qual scope L' f cdv))
        (fun fl s' => EndP s P (match fl with | .ret v => v | _ => .none) s') (fun _ _ => False)
        { s with heap := h₁, toks := tk })
    (hret : ∀ h' tk' v, s.heap.StaysIn h' → P v h' → R (.ok (.ret v)) { s with heap := h', toks := tk' })
    (hco : scope.isCoroutine = false) (hgen : scope.isGenerator = false) (hk : scope.kind = .function)
    (hcell : ∀ x ∈ scope.names, x.2 ≠ .cell) : codeAny (model prog w) A (.call (.ref f) args) R s := by
  obtain ⟨FG, BG, st, lv⟩ := groundX (R := R) B F N hA hf hke
  refine codeAny_call_def (fd := fnX name qual params body scope [] dV kV doc pm an cdv ct) (body := body) (binds := binds) hroom ((X₀.keeps F.keep) _ _ ho) rfl (T.nolimit.keeps F.keep) (codeRec_of (X₀.keeps F.keep) hcd) rfl hbind hcell hloc (fun h₁ hns hk₁ => ?_) hco hgen hk
  refine wpAny_mono (h _ s.heap.objs.size h₁ _ ⟨hns, fun b o e => hk₁ b o (of_hideAll _ e), Nat.le_of_eq (hideAll_size _ _)⟩
    (fun p hp => ⟨hk₁ _ _ (N p hp).1, Nat.ne_of_lt (Heap.lt_size (N p hp).1), hideAll_none _ (List.mem_map_of_mem hp)⟩) BG (X₀.keeps st) (T.keeps st) (fun b o e n => hideAll_get _ e n) (fun p hp => Heap.lt_size (N p hp).1)) (fun fl s' hl => ?_) fun _ _ y => y.elim
  obtain ⟨h', tk', rfl, st, hp⟩ := hl
  exact hret _ _ _ st hp
theorem enterNC (B : Below A₀ base outer h₀) (F : Fr h₀ L s.heap m) (X₀ : K.In h₀) (N : News h₀ L s.heap objs) (T : Top p loose mean mg mb h₀) (hA : A.frames = some (env :: outer)) (hf : env.frame = some L) (hke : env.scope.kind = .function)
    (ho : K.lookup f = some ⟨oc, od, .func (fnOf name qual params body scope dV kV doc pm an cdv ct), osl⟩) (hcd : codeIn K cdv qual = true) (hroom : A.depth < recursionLimit)
    (hbind : BindsTo s (fnOf name qual params body scope dV kV doc pm an cdv ct) args binds) (hkind : (binds.all fun y => scope.names.lookup y.1 == some .local || scope.names.lookup y.1 == some .cell) = true)
    (hnd : ((cellsFrom 0 scope.names []).map (·.1)).Nodup)
    (h : ∀ g L' h₁ tk cells, Fr g L' h₁ (bindL (envOfC qual scope L' f cdv).kindOf binds fun _ => none) → News g L' h₁ (cells ++ objs) →
      CellsAre (bindC (envOfC qual scope L' f cdv).kindOf binds fun _ => none) (cellsFrom (L' + 1) scope.names []) cells → Below A base (env :: outer) g → K.In g → Top p loose mean mg mb g → GSub s.heap g (objs.map (·.1)) → (∀ p ∈ objs, p.1 < L') →
      wpAny (model prog w) (A.deeper (envOfC qual scope L' f cdv)) (execs body (envOfC qual scope L' f cdv))
        (fun fl s' => EndP s P (match fl with | .ret v => v | _ => .none) s') (fun _ _ => False)
        { s with heap := h₁, toks := tk })
    (hret : ∀ h' tk' v, s.heap.StaysIn h' → P v h' → R (.ok (.ret v)) { s with heap := h', toks := tk' })
    (hco : scope.isCoroutine = false) (hgen : scope.isGenerator = false) (hk : scope.kind = .function) : codeAny (model prog w) A (.call (.ref f) args) R s := by
  obtain ⟨FG, BG, st, lv⟩ := groundX (R := R) B F N hA hf hke
  have hlim := T.nolimit
  refine codeAny_call_function hroom ((X₀.keeps F.keep) _ _ ho) rfl hco hgen rfl (codeRec_of (X₀.keeps F.keep) hcd) (hbind _ _ _ _ ?_)
  refine wpAny_newFunctionEnv_cells hk (kindsX hkind _) fun env' he s' x => ?_
  subst he
  refine ⟨(hlim.keeps F.keep).keeps x.toInCall.keep, codeAny_func ?_⟩
  obtain ⟨h₁, tk, rfl, _⟩ := x.done
  have hk₁ := x.toInCall.keep
  obtain ⟨cells, NC, Y⟩ := Cl.news (h₀ := s.heap) (Nat.le_refl _) fun n c hm => ⟨x.cell n c (lookup_of_mem_nodup (cellsFrom_names scope.names 0 (s.heap.objs.size + 1) [] [] rfl ▸ hnd) hm), x.above n c hm⟩
  refine wpAny_mono (h _ s.heap.objs.size h₁ tk cells ⟨x.toInCall.ns, fun b o e => hk₁ b o (of_hideAll _ e), Nat.le_of_eq (hideAll_size _ _)⟩ (fun p hp => ?_) Y BG (X₀.keeps st) (T.keeps st) (fun b o e n => hideAll_get _ e n) (fun p hp => Heap.lt_size (N p hp).1)) (fun fl s' hl => ?_) fun _ _ y => y.elim
  · rcases List.mem_append.mp hp with hp | hp
    · refine ⟨(NC p hp).1, (NC p hp).2.1, ?_⟩
      cases q : (hideAll s.heap (objs.map (·.1))).get? p.1 with
      | none => rfl
      | some o => have := of_hideAll _ q; rw [(NC p hp).2.2] at this; cases this
    · exact ⟨hk₁ _ _ (N p hp).1, Nat.ne_of_lt (Heap.lt_size (N p hp).1), hideAll_none _ (List.mem_map_of_mem hp)⟩
  obtain ⟨h', tk', rfl, st, hp⟩ := hl
  exact hret _ _ _ st hp
end
noncomputable def EndM (s : Shared) (adr : List Addr) (P : Value → Heap → Prop) (v : Value) (s' : Shared) : Prop := ∃ h' tk', s' = { s with heap := h', toks := tk' } ∧ GSub s.heap h' adr ∧ P v h'
theorem endM {s : Shared} {g h' : Heap} {L' : Addr} {m' : Str → Option Value} {adr : List Addr} {P : Value → Heap → Prop} {v : Value} {tk : Nat} (G : GSub s.heap g adr) (F' : Fr g L' h' m')
    (hp : P v h') : EndM s adr P v { s with heap := h', toks := tk } := ⟨h', tk, rfl, fun b o e n => F'.keep b o (G b o e n), hp⟩
section
variable {prog : Program} {w : World} {A₀ A : Around} {s : Shared} {base h₀ : Heap} {outer : List Env} {L : Addr} {m : Str → Option Value} {env : Env} {K : Frag} {objs : List (Addr × Obj)}
  {p : Program} {loose : List Str} {mean : ExcName → Option Value} {mg mb : Str → Option Value}
  {R : Result → Shared → Prop} {name qual : Str} {params : Arguments} {body : List Stmt} {scope : Scope} {dV kV doc pm cdv ct oc : Value} {an od : Option Addr} {osl : Array (Option Value)} {f : Addr} {args : Args} {binds : List (Str × Value)} {P : Value → Heap → Prop}
theorem enterM (B : Below A₀ base outer h₀) (F : Fr h₀ L s.heap m) (X₀ : K.In h₀) (N : News h₀ L s.heap objs) (T : Top p loose mean mg mb h₀) (hA : A.frames = some (env :: outer)) (hf : env.frame = some L) (hke : env.scope.kind = .function)
    (ho : K.lookup f = some ⟨oc, od, .func (fnOf name qual params body scope dV kV doc pm an cdv ct), osl⟩) (hcd : codeIn K cdv qual = true) (hroom : A.depth < recursionLimit)
    (hbind : BindsTo s (fnOf name qual params body scope dV kV doc pm an cdv ct) args binds) (hloc : ∀ y ∈ binds, scope.names.lookup y.1 = some .local)
    (h : ∀ g L' h₁ tk, Fr g L' h₁ (fun y => binds.reverse.lookup y) → News g L' h₁ objs → Below A base (env :: outer) g → K.In g → Top p loose mean mg mb g → GSub s.heap g (objs.map (·.1)) → (∀ p ∈ objs, p.1 < L') →
      wpAny (model prog w) (A.deeper (envOf qual scope L' f cdv)) (execs body (envOf qual scope L' f cdv))
        (fun fl s' => EndM s (objs.map (·.1)) P (match fl with | .ret v => v | _ => .none) s') (fun _ _ => False)
        { s with heap := h₁, toks := tk })
    (hret : ∀ h' tk' v, GSub s.heap h' (objs.map (·.1)) → P v h' → R (.ok (.ret v)) { s with heap := h', toks := tk' })
    (hco : scope.isCoroutine = false) (hgen : scope.isGenerator = false) (hk : scope.kind = .function)
    (hcell : ∀ x ∈ scope.names, x.2 ≠ .cell) : codeAny (model prog w) A (.call (.ref f) args) R s := by
  obtain ⟨FG, BG, st, lv⟩ := groundX (R := R) B F N hA hf hke
  refine codeAny_call_def (fd := fnX name qual params body scope [] dV kV doc pm an cdv ct) (body := body) (binds := binds) hroom ((X₀.keeps F.keep) _ _ ho) rfl (T.nolimit.keeps F.keep) (codeRec_of (X₀.keeps F.keep) hcd) rfl hbind hcell hloc (fun h₁ hns hk₁ => ?_) hco hgen hk
  refine wpAny_mono (h _ s.heap.objs.size h₁ _ ⟨hns, fun b o e => hk₁ b o (of_hideAll _ e), Nat.le_of_eq (hideAll_size _ _)⟩
    (fun p hp => ⟨hk₁ _ _ (N p hp).1, Nat.ne_of_lt (Heap.lt_size (N p hp).1), hideAll_none _ (List.mem_map_of_mem hp)⟩) BG (X₀.keeps st) (T.keeps st) (fun b o e n => hideAll_get _ e n) (fun p hp => Heap.lt_size (N p hp).1)) (fun fl s' hl => ?_) fun _ _ y => y.elim
  obtain ⟨h', tk', rfl, st, hp⟩ := hl
  exact hret _ _ _ st hp
end
/-- a call that leaves all that was there as it was, the objects that it reads written out -/
noncomputable abbrev PN (w : World) (f : Addr) (dep : Nat) (objs : List (Addr × Obj)) (args : List Value) (P : Heap → Value → Heap → Prop) : Prop :=
  ∀ (mean : ExcName → Option Value) (mg mb : Str → Option Value) (dp un : Nat) (gd : Option (List Code)) (cn : Str) (cs : Scope) (a : Addr) (ccd : Value) (cl : List (Str × Addr)) (outer : List Env) (A₀ : Around) (base h₀ : Heap) (L : Addr) (m : Str → Option Value) (s : Shared) (R : Result → Shared → Prop),
    Below A₀ base outer h₀ → Fr h₀ L s.heap m → (kH w.params).In h₀ → Top viewT looseX mean mg mb h₀ → cs.kind = .function → dp + dep < recursionLimit → un + 8 * dep < cLine → News h₀ L s.heap objs →
    (∀ h' tk' v, s.heap.StaysIn h' → P s.heap v h' → R (.ok (.ret v)) { s with heap := h', toks := tk' }) →
    codeAny (model PySem.Challenge.rw_rl0124_01.row.prog w) (ktrTop dp un gd cn cs L a ccd cl outer) (.call (.ref f) ⟨args, []⟩) R s
end Mine
end
section -- L1
open PySem PySem.W PyProof.Rows PySem.Spec PySem.Calls
set_option maxRecDepth 100000
set_option maxHeartbeats 8000000
namespace Mine
noncomputable def TurnL {σ : Type} (h₀ : Heap) (L : Addr) (x : Str) (M : σ → Str → Option Value) (Led : σ → List (Addr × Obj)) (P : σ → Prop) (I : Addr) (oI : Obj) (s₁ : Shared) (Q : Flow → Shared → Prop) (f : Flow) (s₂ : Shared) : Prop :=
  match f with
  | .ret v => Q (.ret v) s₂
  | .brk => Q .next s₂
  | _ => ∃ h' tk m' news' c, s₂ = { s₁ with heap := h', toks := tk } ∧ Fr h₀ L h' m' ∧ News h₀ L h' news' ∧ (∀ p ∈ (I, oI) :: Led c, p ∈ news') ∧ (∀ p ∈ Led c, p.1 ≠ I) ∧ (∀ y, y ≠ x → m' y = M c y) ∧ P c
theorem TurnL.intro {σ : Type} {h₀ : Heap} {L : Addr} {x : Str} {M : σ → Str → Option Value} {Led : σ → List (Addr × Obj)} {P : σ → Prop} {I : Addr} {oI : Obj} {s₁ : Shared} {Q : Flow → Shared → Prop} {h' : Heap} {tk : Nat} {m' : Str → Option Value} {news' : List (Addr × Obj)}
    (F : Fr h₀ L h' m') (N : News h₀ L h' news') (c : σ) (hs : ∀ p ∈ (I, oI) :: Led c, p ∈ news') (hI : ∀ p ∈ Led c, p.1 ≠ I) (hm : ∀ y, y ≠ x → m' y = M c y) (hp : P c) :
    TurnL h₀ L x M Led P I oI s₁ Q .next { s₁ with heap := h', toks := tk } := ⟨h', tk, m', news', c, rfl, F, N, hs, hI, hm, hp⟩
section
variable {prog : Program} {w : World} {A : Around} {E : Value → Shared → Prop} {s : Shared} {env : Env} {h₀ : Heap} {x : Str} {body : List Stmt} {Q : Flow → Shared → Prop} {σ : Type}
theorem loop_core {I : Addr} {n : Nat} {Pv : Nat → Value → Prop} {St : Nat → Heap → Prop} {m₀ : Str → Option Value} (M : σ → Str → Option Value) (Led : σ → List (Addr × Obj)) (P : Nat → σ → Prop) (c₀ : σ)
    (W : Walks prog w A I [I] [I] n Pv St) (hob : ∀ i h, St i h → ∃ o, h.get? I = some o) (hI0 : h₀.get? I = none) (hLI : env.locals ≠ I) (hst : St 0 s.heap)
    (F : Fr h₀ env.locals s.heap m₀) (N : News h₀ env.locals s.heap (Led c₀)) (hm : ∀ y, y ≠ x → m₀ y = M c₀ y) (hp : P 0 c₀) (hnI : ∀ p ∈ Led c₀, p.1 ≠ I)
    (turn : ∀ i v c h tk oI, i < n → Pv i v → P i c → (∀ p ∈ Led c, p.1 ≠ I) → Fr h₀ env.locals h (fun y => if y = x then some v else M c y) → News h₀ env.locals h ((I, oI) :: Led c) →
      wpAny (model prog w) A (execs body env) (TurnL h₀ env.locals x M Led (P (i + 1)) I oI { s with heap := h, toks := tk } Q) E { s with heap := h, toks := tk })
    (done : ∀ c (u : Str → Option Value) h tk, P n c → Fr h₀ env.locals h (fun y => if y = x then u y else M c y) → News h₀ env.locals h (Led c) → Q .next { s with heap := h, toks := tk }) :
    LoopAtV prog w A h₀ env x body Q E (.ref I) s := by
  let J : Nat → (Str → Option Value) → List (Addr × Obj) → Prop := fun i m₁ news₁ => ∃ c, news₁ = Led c ∧ (∀ y, y ≠ x → m₁ y = M c y) ∧ P i c
  refine ⟨I, [I], [I], n, Pv, St, m₀, Led c₀, J, rfl, W, (by simpa using hLI), (by simpa using hI0), (fun p hp => by simpa using hnI p hp), hst, F, N, ⟨c₀, rfl, hm, hp⟩, ?_, ?_⟩
  · rintro i v m₁ news₁ s₁ own ⟨hh', tk', rfl⟩ hin hP ⟨c, rfl, hmc, hpc⟩ hoff hown _ hall hst' F₁ N₁
    have e : (fun y => if y = x then some v else m₁ y) = fun y => if y = x then some v else M c y := by
      funext y
      by_cases h1 : y = x
      · simp [h1]
      · simp only [if_neg h1]; exact hmc y h1
    rw [e] at F₁
    obtain ⟨o, ho⟩ := hob _ _ hst'
    have hio : (I, o) ∈ own := hall I (List.mem_singleton.mpr rfl) hI0 o ho
    have hone := own_one hown (fun b hb => .inl (List.mem_singleton.mp hb)) ho N₁
    refine wpAny_mono (turn i v c hh' tk' o hin hP hpc (fun p hp => by simpa using hoff p hp) F₁ (news_one hio N₁)) (fun f s₂ p => ?_) fun _ _ e => e
    have fin : (∃ h' tk m' news' c', s₂ = { s with heap := h', toks := tk } ∧ Fr h₀ env.locals h' m' ∧ News h₀ env.locals h' news' ∧ (∀ p ∈ (I, o) :: Led c', p ∈ news') ∧ (∀ p ∈ Led c', p.1 ≠ I) ∧ (∀ y, y ≠ x → m' y = M c' y) ∧ P (i + 1) c') →
        LoopStepU h₀ env.locals [I] own (J (i + 1)) { s with heap := hh', toks := tk' } .next s₂ := by
      rintro ⟨h', tk, m', news', c', e, F', N', hn, hI', hm', hp'⟩
      exact ⟨rfl, h', tk, m', Led c', e, F', fun p hp => N' p (need_one hone hn p hp), (fun p hp => by simpa using hI' p hp), c', rfl, hm', hp'⟩
    cases f with
    | ret v => exact .ret p
    | brk => exact .brk p
    | next => exact .next (fin p)
    | cont => exact .cont (fin p)
  · rintro h' tk m' news' F' N' _ ⟨c, rfl, hmc, hpc⟩
    refine done c m' h' tk hpc ?_ N'
    have e : (fun y => if y = x then m' y else M c y) = m' := by
      funext y
      by_cases h1 : y = x
      · simp [h1]
      · simp only [if_neg h1]; exact (hmc y h1).symm
    rw [e]; exact F'
theorem text_loop {xt : Str} {tx : Tok} {m₀ : Str → Option Value} (M : σ → Str → Option Value) (Led : σ → List (Addr × Obj)) (P : Nat → σ → Prop) (c₀ : σ)
    (hh : A.handled = none) (F : Fr h₀ env.locals s.heap m₀) (N : News h₀ env.locals s.heap (Led c₀)) (hm : ∀ y, y ≠ x → m₀ y = M c₀ y) (hp : P 0 c₀)
    (turn : ∀ i k t c h tk I oI, xt.cps[i]? = some k → P i c → (∀ p ∈ Led c, p.1 ≠ I) → Fr h₀ env.locals h (fun y => if y = x then some (.str ⟨#[k]⟩ t) else M c y) → News h₀ env.locals h ((I, oI) :: Led c) →
      wpAny (model prog w) A (execs body env) (TurnL h₀ env.locals x M Led (P (i + 1)) I oI { s with heap := h, toks := tk } Q) E { s with heap := h, toks := tk })
    (done : ∀ c (u : Str → Option Value) h tk, P xt.cps.size c → Fr h₀ env.locals h (fun y => if y = x then u y else M c y) → News h₀ env.locals h (Led c) → Q .next { s with heap := h, toks := tk }) :
    wpAny (model prog w) A (pyIter (.str xt tx)) (fun it s₂ => LoopAtV prog w A h₀ env x body Q E it s₂) E s := by
  have hLI : env.locals ≠ s.heap.objs.size := Nat.ne_of_lt F.ns.lt
  have hnI : ∀ p ∈ Led c₀, p.1 ≠ s.heap.objs.size := fun p hp => Nat.ne_of_lt (Heap.lt_size (N p hp).1)
  have t' : ∀ i v c h tk oI, i < xt.cps.size → SignAt xt i v → P i c → (∀ p ∈ Led c, p.1 ≠ s.heap.objs.size) → Fr h₀ env.locals h (fun y => if y = x then some v else M c y) → News h₀ env.locals h ((s.heap.objs.size, oI) :: Led c) →
      wpAny (model prog w) A (execs body env) (TurnL h₀ env.locals x M Led (P (i + 1)) s.heap.objs.size oI { s with heap := h, toks := tk } Q) E { s with heap := h, toks := tk } := by
    rintro i v c h tk oI hi ⟨k, u, hk, rfl⟩ hp hI F₁ N₁
    exact turn i k u c h tk _ oI hk hp hI F₁ N₁
  cases ha : xt.cps.all (· < 128)
  · exact wpAny_pyIter_wide ha (loop_core M Led P c₀ (Walks.strWide hh _ xt tx) (fun i h st => by obtain ⟨o, ho, _⟩ := st; exact ⟨o, ho⟩) (next_is_new F) hLI ⟨_, Heap.get?_push_size _ rfl, rfl, rfl⟩ (F.push _) (fun p hp => ⟨Heap.get?_push_of_some _ (N p hp).1, (N p hp).2⟩) hm hp hnI t' done)
  · exact wpAny_pyIter_ascii ha (loop_core M Led P c₀ (Walks.strAscii hh _ xt tx) (fun i h st => by obtain ⟨o, ho, _⟩ := st; exact ⟨o, ho⟩) (next_is_new F) hLI ⟨_, Heap.get?_push_size _ rfl, rfl, rfl⟩ (F.push _) (fun p hp => ⟨Heap.get?_push_of_some _ (N p hp).1, (N p hp).2⟩) hm hp hnI t' done)
theorem range_loop {r : Addr} {a b d : Int} {t₀ u₀ v₀ : Tok} {n : Nat} {m₀ : Str → Option Value} (M : σ → Str → Option Value) (Led : σ → List (Addr × Obj)) (P : Nat → σ → Prop) (c₀ : σ)
    (hh : A.handled = none) (hr : IsRange s.heap r a b d t₀ u₀ v₀) (hsmall : Builtin.Range.small a b d = true) (hn : Builtin.Range.rangeSize a b d = (n : Int)) (F : Fr h₀ env.locals s.heap m₀) (N : News h₀ env.locals s.heap (Led c₀)) (hm : ∀ y, y ≠ x → m₀ y = M c₀ y) (hp : P 0 c₀)
    (turn : ∀ i t c h tk I oI, i < n → P i c → (∀ p ∈ Led c, p.1 ≠ I) → Fr h₀ env.locals h (fun y => if y = x then some (.int (a + (i : Int) * d) t) else M c y) → News h₀ env.locals h ((I, oI) :: Led c) →
      wpAny (model prog w) A (execs body env) (TurnL h₀ env.locals x M Led (P (i + 1)) I oI { s with heap := h, toks := tk } Q) E { s with heap := h, toks := tk })
    (done : ∀ c (u : Str → Option Value) h tk, P n c → Fr h₀ env.locals h (fun y => if y = x then u y else M c y) → News h₀ env.locals h (Led c) → Q .next { s with heap := h, toks := tk }) :
    wpAny (model prog w) A (pyIter (.ref r)) (fun it s₂ => LoopAtV prog w A h₀ env x body Q E it s₂) E s := by
  have hLI : env.locals ≠ s.heap.objs.size := Nat.ne_of_lt F.ns.lt
  have hnI : ∀ p ∈ Led c₀, p.1 ≠ s.heap.objs.size := fun p hp => Nat.ne_of_lt (Heap.lt_size (N p hp).1)
  refine wpAny_pyIter_range hr hsmall ?_
  refine loop_core M Led P c₀ (Walks.range hh s.heap.objs.size a d n) (fun i h st => ⟨_, st⟩) (next_is_new F) hLI (by show IsRangeIter _ _ _ _ _; rw [hn]; simpa using Heap.get?_push_size _ rfl) (F.push _) (fun p hp => ⟨Heap.get?_push_of_some _ (N p hp).1, (N p hp).2⟩) hm hp hnI ?_ done
  rintro i v c h tk oI hi ⟨t, rfl⟩ hp hI F₁ N₁
  exact turn i t c h tk _ oI hi hp hI F₁ N₁
end
theorem news_sub {h₀ h : Heap} {L : Addr} {news news' : List (Addr × Obj)} (N : News h₀ L h news) (hs : ∀ p ∈ news', p ∈ news) : News h₀ L h news' := fun p hp => N p (hs p hp)
end Mine
end
section -- W0
open PySem PySem.W PyProof.Rows PySem.Spec PySem.Calls
set_option maxRecDepth 100000
set_option maxHeartbeats 8000000
namespace Mine
structure WsT where
  t0 : Tok
  t1 : Tok
  t2 : Tok
  t3 : Tok
  t4 : Tok
  t5 : Tok
  t6 : Tok
  t7 : Tok
noncomputable abbrev tupO (vs : List Value) : Obj := { cls := .type "tuple", data := .seq vs.toArray 0 }
noncomputable abbrev wsD (w : World) (q : WsT) (raw : Str) (n nt : Int) (norm : Addr) (sim : Bool) : Obj :=
  dictOf [⟨PyData.keyHash w.params (Str.ofString "raw"), .str (Str.ofString "raw") q.t0, .str raw q.t1⟩, ⟨PyData.keyHash w.params (Str.ofString "n"), .str (Str.ofString "n") q.t2, .int n q.t3⟩,
    ⟨PyData.keyHash w.params (Str.ofString "nt"), .str (Str.ofString "nt") q.t4, .int nt q.t5⟩, ⟨PyData.keyHash w.params (Str.ofString "norm"), .str (Str.ofString "norm") q.t6, .ref norm⟩,
    ⟨PyData.keyHash w.params (Str.ofString "is_simple"), .str (Str.ofString "is_simple") q.t7, .bool sim⟩] 5
end Mine
namespace Mine
section
variable {prog : Program} {w : World} {A : Around} {E : Value → Shared → Prop} {s : Shared} {h₀ : Heap} {L : Addr} {news : List (Addr × Obj)}
theorem len_tupI {sh : Heap} {sg : Array GenState} {sd : Drawn} {st : Nat} {so : OsState} {t : Addr} {vs : List Value} {ns : List Int} {Q : Value → Shared → Prop} (N : News h₀ L sh news) (hm : (t, tupO vs) ∈ news) (hi : IntsAre vs ns) (hz : ns.length ≤ 10000000)
    (h : Q (.int ns.length (st + 1)) ⟨sh, sg, sd, st + 1 + 1, so⟩) : wpAny (model prog w) A (call (.builtin "len") [.ref t]) Q E ⟨sh, sg, sd, st, so⟩ := by
  have e : vs.toArray.size = ns.length := by simp [hi.length]
  refine len_tuple (News.isTup N hm) (by rw [e]; omega) (by rw [e]; exact h)
theorem item_tupI {sh : Heap} {sg : Array GenState} {sd : Drawn} {st : Nat} {so : OsState} {value slice : Expr} {t : Addr} {vs : List Value} {ns : List Int} {k : Int} {u : Tok} {Q : Value → Shared → Prop} (N : News h₀ L sh news) (hm : (t, tupO vs) ∈ news) (hi : IntsAre vs ns)
    (h0 : 0 ≤ k) (h1 : k < ns.length) (hz : k < 2 ^ 63) (h : ∀ t, Q (.int (ns.getD k.toNat 0) t) ⟨sh, sg, sd, st, so⟩)
    (hs : subscripted slice false (.ref t) (.int k u) = operate [.ref t, .int k u] (getItem (.ref t) (.int k u)) := by with_unfolding_all rfl) (hg : ∀ r, letTemporaryGo value (.ref t) r = pure () := by intro _; with_unfolding_all rfl) :
    wpAny (model prog w) A (subscriptTail value slice (.ref t) (.int k u)) Q E ⟨sh, sg, sd, st, so⟩ := item_tuple_ints (News.isTup N hm) hi h0 h1 hz h hs hg
theorem len_listI {sh : Heap} {sg : Array GenState} {sd : Drawn} {st : Nat} {so : OsState} {t : Addr} {vs : List Value} {ns : List Int} {k : Nat} {Q : Value → Shared → Prop} (N : News h₀ L sh news) (hm : (t, listOf vs.toArray k) ∈ news) (hi : IntsAre vs ns) (hz : ns.length ≤ 10000000)
    (h : Q (.int ns.length (st + 1)) ⟨sh, sg, sd, st + 1 + 1, so⟩) : wpAny (model prog w) A (call (.builtin "len") [.ref t]) Q E ⟨sh, sg, sd, st, so⟩ := by
  have e : vs.toArray.size = ns.length := by simp [hi.length]
  refine PyProof.Rows.len_list (News.isList N hm) (by rw [e]; omega) (by rw [e]; exact h)
theorem item_listI {sh : Heap} {sg : Array GenState} {sd : Drawn} {st : Nat} {so : OsState} {value slice : Expr} {t : Addr} {vs : List Value} {ns : List Int} {k : Int} {u : Tok} {n : Nat} {Q : Value → Shared → Prop} (N : News h₀ L sh news) (hm : (t, listOf vs.toArray n) ∈ news) (hi : IntsAre vs ns)
    (h0 : 0 ≤ k) (h1 : k < ns.length) (hz : k < 2 ^ 63) (h : ∀ t, Q (.int (ns.getD k.toNat 0) t) ⟨sh, sg, sd, st, so⟩)
    (hs : subscripted slice false (.ref t) (.int k u) = operate [.ref t, .int k u] (getItem (.ref t) (.int k u)) := by with_unfolding_all rfl) (hg : ∀ r, letTemporaryGo value (.ref t) r = pure () := by intro _; with_unfolding_all rfl) :
    wpAny (model prog w) A (subscriptTail value slice (.ref t) (.int k u)) Q E ⟨sh, sg, sd, st, so⟩ := item_list_ints (News.isList N hm) hi h0 h1 hz h hs hg
theorem item_cx {sh : Heap} {sg : Array GenState} {sd : Drawn} {st : Nat} {so : OsState} {value slice : Expr} {t : Addr} {vs : List Value} {ns : List Int} {k c : Int} {u : Tok} {n : Nat} {Q : Value → Shared → Prop} (N : News h₀ L sh news) (hm : (t, listOf vs.toArray n) ∈ news) (hi : IntsAre vs ns) (hc : ns.getD k.toNat 0 = c)
    (h8 : (ns.length : Int) = 8) (h0 : 0 ≤ k) (h1 : k < 8) (h : ∀ t, Q (.int c t) ⟨sh, sg, sd, st, so⟩)
    (hs : subscripted slice false (.ref t) (.int k u) = operate [.ref t, .int k u] (getItem (.ref t) (.int k u)) := by with_unfolding_all rfl) (hg : ∀ r, letTemporaryGo value (.ref t) r = pure () := by intro _; with_unfolding_all rfl) :
    wpAny (model prog w) A (subscriptTail value slice (.ref t) (.int k u)) Q E ⟨sh, sg, sd, st, so⟩ := item_listI N hm hi h0 (by omega) (by omega) (fun t => by rw [hc]; exact h t) hs hg
end
end Mine
end
section -- L2
open PySem PySem.W PyProof.Rows PySem.Spec PySem.Calls
set_option maxRecDepth 100000
set_option maxHeartbeats 8000000
namespace Mine
structure Held (P : Prop) : Prop where
  out : P
noncomputable def ovr : List (Str × Value) → (Str → Option Value) → Str → Option Value
  | [], m, y => m y
  | (x, v) :: r, m, y => if y = x then some v else ovr r m y
noncomputable def agree : List (Str × Value) → (Str → Option Value) → Prop
  | [], _ => True
  | (x, v) :: r, m => m x = some v ∧ agree r m
theorem ovr_agree {m : Str → Option Value} : ∀ {vs : List (Str × Value)}, agree vs m → ∀ y, ovr vs m y = m y
  | [], _, _ => rfl
  | (x, v) :: r, ⟨h1, h2⟩, y => by
    unfold ovr
    split
    · rename_i e; rw [e]; exact h1.symm
    · exact ovr_agree h2 y
section
variable {prog : Program} {w : World} {A : Around} {E : Value → Shared → Prop} {s : Shared} {env : Env} {h₀ : Heap} {x : Str} {body : List Stmt} {Q : Flow → Shared → Prop} {σ : Type}
/-- a loop over a range that changes names of the frame only -/
theorem range_names {r : Addr} {a b d : Int} {t₀ u₀ v₀ : Tok} {n : Nat} {m₀ : Str → Option Value} {news : List (Addr × Obj)} (V : σ → List (Str × Value)) (P : Nat → σ → Prop) (c₀ : σ)
    (hh : A.handled = none) (hr : IsRange s.heap r a b d t₀ u₀ v₀) (hsmall : Builtin.Range.small a b d = true) (hn : Builtin.Range.rangeSize a b d = (n : Int)) (F : Fr h₀ env.locals s.heap m₀) (N : News h₀ env.locals s.heap news) (hm : agree (V c₀) m₀) (hp : P 0 c₀)
    (turn : ∀ i t c h tk I oI, i < n → P i c → (∀ p ∈ news, p.1 ≠ I) → Fr h₀ env.locals h (fun y => if y = x then some (.int (a + (i : Int) * d) t) else ovr (V c) m₀ y) → News h₀ env.locals h ((I, oI) :: news) →
      wpAny (model prog w) A (execs body env) (TurnL h₀ env.locals x (fun c => ovr (V c) m₀) (fun _ => news) (P (i + 1)) I oI { s with heap := h, toks := tk } Q) E { s with heap := h, toks := tk })
    (done : ∀ c (u : Str → Option Value) h tk, P n c → Fr h₀ env.locals h (fun y => if y = x then u y else ovr (V c) m₀ y) → News h₀ env.locals h news → Q .next { s with heap := h, toks := tk }) :
    wpAny (model prog w) A (pyIter (.ref r)) (fun it s₂ => LoopAtV prog w A h₀ env x body Q E it s₂) E s :=
  range_loop (fun c => ovr (V c) m₀) (fun _ => news) P c₀ hh hr hsmall hn F N (fun y _ => (ovr_agree hm y).symm) hp turn done
/-- a loop over a range that changes names of the frame and the objects that Lv says -/
theorem range_objs {r : Addr} {a b d : Int} {t₀ u₀ v₀ : Tok} {n : Nat} {m₀ : Str → Option Value} {news : List (Addr × Obj)} (V : σ → List (Str × Value)) (Lv : σ → List (Addr × Obj)) (P : Nat → σ → Prop) (c₀ : σ)
    (hh : A.handled = none) (hr : IsRange s.heap r a b d t₀ u₀ v₀) (hsmall : Builtin.Range.small a b d = true) (hn : Builtin.Range.rangeSize a b d = (n : Int)) (F : Fr h₀ env.locals s.heap m₀) (N : News h₀ env.locals s.heap news) (hs : ∀ p ∈ Lv c₀, p ∈ news) (hm : agree (V c₀) m₀) (hp : P 0 c₀)
    (turn : ∀ i t c h tk I oI, i < n → P i c → (∀ p ∈ Lv c, p.1 ≠ I) → Fr h₀ env.locals h (fun y => if y = x then some (.int (a + (i : Int) * d) t) else ovr (V c) m₀ y) → News h₀ env.locals h ((I, oI) :: Lv c) →
      wpAny (model prog w) A (execs body env) (TurnL h₀ env.locals x (fun c => ovr (V c) m₀) Lv (P (i + 1)) I oI { s with heap := h, toks := tk } Q) E { s with heap := h, toks := tk })
    (done : ∀ c (u : Str → Option Value) h tk, P n c → Fr h₀ env.locals h (fun y => if y = x then u y else ovr (V c) m₀ y) → News h₀ env.locals h (Lv c) → Q .next { s with heap := h, toks := tk }) :
    wpAny (model prog w) A (pyIter (.ref r)) (fun it s₂ => LoopAtV prog w A h₀ env x body Q E it s₂) E s :=
  range_loop (fun c => ovr (V c) m₀) Lv P c₀ hh hr hsmall hn F (news_sub N hs) (fun y _ => (ovr_agree hm y).symm) hp turn done
theorem text_objs {xt : Str} {tx : Tok} {m₀ : Str → Option Value} {news : List (Addr × Obj)} (V : σ → List (Str × Value)) (Lv : σ → List (Addr × Obj)) (P : Nat → σ → Prop) (c₀ : σ)
    (hh : A.handled = none) (F : Fr h₀ env.locals s.heap m₀) (N : News h₀ env.locals s.heap news) (hs : ∀ p ∈ Lv c₀, p ∈ news) (hm : agree (V c₀) m₀) (hp : P 0 c₀)
    (turn : ∀ i k t c h tk I oI, xt.cps[i]? = some k → P i c → (∀ p ∈ Lv c, p.1 ≠ I) → Fr h₀ env.locals h (fun y => if y = x then some (.str ⟨#[k]⟩ t) else ovr (V c) m₀ y) → News h₀ env.locals h ((I, oI) :: Lv c) →
      wpAny (model prog w) A (execs body env) (TurnL h₀ env.locals x (fun c => ovr (V c) m₀) Lv (P (i + 1)) I oI { s with heap := h, toks := tk } Q) E { s with heap := h, toks := tk })
    (done : ∀ c (u : Str → Option Value) h tk, P xt.cps.size c → Fr h₀ env.locals h (fun y => if y = x then u y else ovr (V c) m₀ y) → News h₀ env.locals h (Lv c) → Q .next { s with heap := h, toks := tk }) :
    wpAny (model prog w) A (pyIter (.str xt tx)) (fun it s₂ => LoopAtV prog w A h₀ env x body Q E it s₂) E s :=
  text_loop (fun c => ovr (V c) m₀) Lv P c₀ hh F (news_sub N hs) (fun y _ => (ovr_agree hm y).symm) hp turn done
end
theorem fdiv_le {k t m : Int} (h0 : 0 ≤ k) (h1 : 1 ≤ t) (h2 : k ≤ m) : 0 ≤ k.fdiv t ∧ k.fdiv t ≤ m := by
  rw [Int.fdiv_eq_ediv_of_nonneg _ (by omega)]
  exact ⟨Int.ediv_nonneg h0 (by omega), Int.le_trans (Int.ediv_le_self _ h0) h2⟩
theorem mul_l {sh : Heap} {sg : Array GenState} {sd : Drawn} {st : Nat} {so : OsState} {prog : Program} {w : World} {A : Around} {E : Value → Shared → Prop} {a b : Int} {t u : Tok} {Q : Value → Shared → Prop} (h1 : -1000000000 ≤ a) (h2 : a ≤ 1000000000) (h : Q (.int (a * b) st) ⟨sh, sg, sd, st + 1, so⟩) :
    wpAny (model prog w) A (binaryOp .Mult (.int a t) (.int b u)) Q E ⟨sh, sg, sd, st, so⟩ := PyProof.Rows.mul_int h (IntMulOk.of_left (intBits_le_64 (by omega) (by omega)))
theorem mul_r {sh : Heap} {sg : Array GenState} {sd : Drawn} {st : Nat} {so : OsState} {prog : Program} {w : World} {A : Around} {E : Value → Shared → Prop} {a b : Int} {t u : Tok} {Q : Value → Shared → Prop} (h1 : -1000000000 ≤ b) (h2 : b ≤ 1000000000) (h : Q (.int (a * b) st) ⟨sh, sg, sd, st + 1, so⟩) :
    wpAny (model prog w) A (binaryOp .Mult (.int a t) (.int b u)) Q E ⟨sh, sg, sd, st, so⟩ := PyProof.Rows.mul_int h (IntMulOk.of_right (intBits_le_64 (by omega) (by omega)))
theorem mul_fd {sh : Heap} {sg : Array GenState} {sd : Drawn} {st : Nat} {so : OsState} {prog : Program} {w : World} {A : Around} {E : Value → Shared → Prop} {k d b : Int} {t u : Tok} {Q : Value → Shared → Prop} (h0 : 0 ≤ k) (h1 : 1 ≤ d) (h2 : k ≤ 1000000000) (h : Q (.int (k.fdiv d * b) st) ⟨sh, sg, sd, st + 1, so⟩) :
    wpAny (model prog w) A (binaryOp .Mult (.int (k.fdiv d) t) (.int b u)) Q E ⟨sh, sg, sd, st, so⟩ := mul_l (by have := fdiv_le h0 h1 h2; omega) (by have := fdiv_le h0 h1 h2; omega) h
/-- the list that lays a name in a list -/
noncomputable def setL : List (Str × Value) → Str → Value → List (Str × Value)
  | [], x, v => [(x, v)]
  | (y, w) :: r, x, v => if x = y then (y, v) :: r else (y, w) :: setL r x v
theorem ovr_setL {m : Str → Option Value} {x : Str} {v : Value} : ∀ (vs : List (Str × Value)) (y : Str), ovr (setL vs x v) m y = if y = x then some v else ovr vs m y
  | [], y => rfl
  | (z, w) :: r, y => by
    unfold setL
    by_cases h : x = z
    · rw [if_pos h]; subst h
      by_cases hy : y = x
      · simp only [ovr, if_pos hy]
      · simp only [ovr, if_neg hy]
    · rw [if_neg h]
      by_cases hy : y = z
      · have : ¬ y = x := fun e => h (e.symm.trans hy)
        simp only [ovr, if_pos hy, if_neg this]
      · simp only [ovr, if_neg hy]
        exact ovr_setL r y
/-- a frame that is like a list's, but at x -/
abbrev LikeL (x : Str) (m' : Str → Option Value) (vs : List (Str × Value)) (m : Str → Option Value) : Prop := ∀ y, y ≠ x → m' y = ovr vs m y
theorem LikeL.base {x : Str} {u : Option Value} {vs : List (Str × Value)} {m : Str → Option Value} : LikeL x (fun y => if y = x then u else ovr vs m y) vs m := fun _ h => if_neg h
theorem LikeL.upd {x k : Str} {v : Value} {m' : Str → Option Value} {vs : List (Str × Value)} {m : Str → Option Value} (h : LikeL x m' vs m) : LikeL x (upd m' k v) (setL vs k v) m := fun y hy => by
  rw [ovr_setL]
  show (if y = k then some v else m' y) = _
  rw [h y hy]
end Mine
end
section -- P3
open PySem PySem.W PyProof.Rows PySem.Spec PySem.Calls
set_option maxRecDepth 100000
set_option maxHeartbeats 8000000
namespace Mine
theorem ltN {a b : Nat} (h : a < b) : a < b := h
noncomputable def SubL : List (Addr × Obj) → List (Addr × Obj) → Prop
  | [], _ => True
  | p :: r, news => p ∈ news ∧ SubL r news
theorem SubL.all {news : List (Addr × Obj)} : ∀ {objs : List (Addr × Obj)}, SubL objs news → ∀ p ∈ objs, p ∈ news
  | [], _, p, hp => nomatch hp
  | q :: r, ⟨h1, h2⟩, p, hp => by
    rcases List.mem_cons.mp hp with rfl | hp
    · exact h1
    · exact SubL.all h2 p hp
/-- all of them new to the caller -/
noncomputable def NewTo (H h' : Heap) : List (Addr × Obj) → Prop
  | [] => True
  | p :: r => (H.get? p.1 = none ∧ h'.get? p.1 = some p.2) ∧ NewTo H h' r
theorem NewTo.news {H h' h₀ : Heap} {L : Addr} (F0 : ∀ b o, h₀.get? b = some o → H.get? b = some o) (hL : (H.get? L).isSome = true) : ∀ {l : List (Addr × Obj)}, NewTo H h' l → News h₀ L h' l
  | [], _, p, hp => nomatch hp
  | q :: r, ⟨h1, h2⟩, p, hp => by
    rcases List.mem_cons.mp hp with rfl | hp
    · refine ⟨h1.2, fun e => ?_, ?_⟩
      · rw [e] at h1; rw [h1.1] at hL; cases hL
      · cases q : h₀.get? p.1 with
        | none => rfl
        | some o => have := F0 _ _ q; rw [h1.1] at this; cases this
    · exact NewTo.news F0 hL h2 p hp
theorem news_app {h₀ h : Heap} {L : Addr} {a b : List (Addr × Obj)} (N : News h₀ L h a) (N' : News h₀ L h b) : News h₀ L h (a ++ b) := fun p hp => (List.mem_append.mp hp).elim (N p) (N' p)
section
variable {w : World} {f : Addr} {dep : Nat} {args : List Value} {mean : ExcName → Option Value} {mg mb : Str → Option Value} {dp un : Nat} {gd : Option (List Code)} {cn : Str} {cs : Scope} {a : Addr} {ccd : Value} {cl : List (Str × Addr)} {outer : List Env} {A₀ : Around} {base h₀ : Heap} {L : Addr} {m : Str → Option Value} {s : Shared}
  {news objs : List (Addr × Obj)} {Q E : Value → Shared → Prop}
theorem useP {sh : Heap} {sg : Array GenState} {sd : Drawn} {st : Nat} {so : OsState} {Pre : Heap → Prop} {P : Value → Heap → Prop} (C : PC w f dep Pre args P) (B : Below A₀ base outer h₀) (F : Fr h₀ L sh m) (X : (kH w.params).In h₀) (T : Top viewT looseX mean mg mb h₀) (hk : cs.kind = .function) (hd : dp + dep < recursionLimit) (hu : un + 8 * dep < cLine) (N : News h₀ L sh news) (hp : Pre sh)
    (h : ∀ h' tk' v, Fr h₀ L h' m → News h₀ L h' news → P v h' → Q v ⟨h', sg, sd, tk', so⟩) :
    wpAny (model PySem.Challenge.rw_rl0124_01.row.prog w) (ktrTop dp un gd cn cs L a ccd cl outer) (call (.ref f) args) Q E ⟨sh, sg, sd, st, so⟩ :=
  wpAny_call (C mean mg mb dp un gd cn cs a ccd cl outer A₀ base h₀ L m ⟨sh, sg, sd, st, so⟩ _ B F X T hk hd hu hp fun h' tk' v st p => h h' tk' v (F.grownK st) (N.grown st) p)
theorem useN {sh : Heap} {sg : Array GenState} {sd : Drawn} {st : Nat} {so : OsState} {P : Heap → Value → Heap → Prop} (C : PN w f dep objs args P) (B : Below A₀ base outer h₀) (F : Fr h₀ L sh m) (X : (kH w.params).In h₀) (T : Top viewT looseX mean mg mb h₀) (hk : cs.kind = .function) (hd : dp + dep < recursionLimit) (hu : un + 8 * dep < cLine) (N : News h₀ L sh news) (hs : SubL objs news)
    (h : ∀ h' tk' v, Fr h₀ L h' m → News h₀ L h' news → P sh v h' → Q v ⟨h', sg, sd, tk', so⟩) :
    wpAny (model PySem.Challenge.rw_rl0124_01.row.prog w) (ktrTop dp un gd cn cs L a ccd cl outer) (call (.ref f) args) Q E ⟨sh, sg, sd, st, so⟩ :=
  wpAny_call (C mean mg mb dp un gd cn cs a ccd cl outer A₀ base h₀ L m ⟨sh, sg, sd, st, so⟩ _ B F X T hk hd hu (news_sub N hs.all) fun h' tk' v st p => h h' tk' v (F.grownK st) (N.grown st) p)
end
end Mine
namespace Mine
/-- the most general form: a condition on the heap, objects written out, what is handed back told of the heap ahead and behind -/
noncomputable abbrev PX (w : World) (f : Addr) (dep : Nat) (Pre : Heap → Prop) (objs : List (Addr × Obj)) (args : List Value) (P : Heap → Value → Heap → Prop) : Prop :=
  ∀ (mean : ExcName → Option Value) (mg mb : Str → Option Value) (dp un : Nat) (gd : Option (List Code)) (cn : Str) (cs : Scope) (a : Addr) (ccd : Value) (cl : List (Str × Addr)) (outer : List Env) (A₀ : Around) (base h₀ : Heap) (L : Addr) (m : Str → Option Value) (s : Shared) (R : Result → Shared → Prop),
    Below A₀ base outer h₀ → Fr h₀ L s.heap m → (kH w.params).In h₀ → Top viewT looseX mean mg mb h₀ → cs.kind = .function → dp + dep < recursionLimit → un + 8 * dep < cLine → News h₀ L s.heap objs → Pre h₀ →
    (∀ h' tk' v, s.heap.StaysIn h' → P s.heap v h' → R (.ok (.ret v)) { s with heap := h', toks := tk' }) →
    codeAny (model PySem.Challenge.rw_rl0124_01.row.prog w) (ktrTop dp un gd cn cs L a ccd cl outer) (.call (.ref f) ⟨args, []⟩) R s
theorem useX {sh : Heap} {sg : Array GenState} {sd : Drawn} {st : Nat} {so : OsState} {w : World} {f : Addr} {dep : Nat} {args : List Value} {mean : ExcName → Option Value} {mg mb : Str → Option Value} {dp un : Nat} {gd : Option (List Code)} {cn : Str} {cs : Scope} {a : Addr} {ccd : Value} {cl : List (Str × Addr)} {outer : List Env} {A₀ : Around} {base h₀ : Heap} {L : Addr} {m : Str → Option Value}
    {news objs : List (Addr × Obj)} {Q E : Value → Shared → Prop} {Pre : Heap → Prop} {P : Heap → Value → Heap → Prop} (C : PX w f dep Pre objs args P) (B : Below A₀ base outer h₀) (F : Fr h₀ L sh m) (X : (kH w.params).In h₀) (T : Top viewT looseX mean mg mb h₀) (hk : cs.kind = .function) (hd : dp + dep < recursionLimit) (hu : un + 8 * dep < cLine) (N : News h₀ L sh news) (hs : SubL objs news) (hp : Pre h₀)
    (h : ∀ h' tk' v, Fr h₀ L h' m → News h₀ L h' news → P sh v h' → Q v ⟨h', sg, sd, tk', so⟩) :
    wpAny (model PySem.Challenge.rw_rl0124_01.row.prog w) (ktrTop dp un gd cn cs L a ccd cl outer) (call (.ref f) args) Q E ⟨sh, sg, sd, st, so⟩ :=
  wpAny_call (C mean mg mb dp un gd cn cs a ccd cl outer A₀ base h₀ L m ⟨sh, sg, sd, st, so⟩ _ B F X T hk hd hu (news_sub N hs.all) hp fun h' tk' v st p => h h' tk' v (F.grownK st) (N.grown st) p)
end Mine
end
section -- E1
open PySem PySem.W PyProof.Rows PySem.Spec PySem.Calls
set_option maxRecDepth 100000
set_option maxHeartbeats 8000000
namespace Mine
open PySem.MeetsSeq PySem.SeqAt
theorem all_range_eq {α : Type} [DecidableEq α] (d : α) (xs ys : List α) : ((List.range (min xs.length ys.length)).all (fun j => decide (xs.getD j d = ys.getD j d)) && xs.length == ys.length) = decide (xs = ys) := by
  rw [Bool.eq_iff_iff]
  simp only [Bool.and_eq_true, List.all_eq_true, List.mem_range, decide_eq_true_eq, beq_iff_eq]
  constructor
  · rintro ⟨h, e⟩
    refine List.ext_getElem e fun j h1 h2 => ?_
    have := h j (by omega)
    simpa [List.getD_eq_getElem?_getD, h1, h2] using this
  · rintro rfl
    exact ⟨fun _ _ => rfl, rfl⟩
theorem ints_at {vs : List Value} {ns : List Int} (h : IntsAre vs ns) {j : Nat} (hj : j < vs.length) : ∃ t, vs[j] = .int (ns.getD j 0) t := by
  obtain ⟨t, ht⟩ := h.get j (ns.getD j 0) (by have := h.length; rw [List.getD_eq_getElem?_getD, List.getElem?_eq_getElem (by omega)]; rfl)
  exact ⟨t, by rw [List.getElem?_eq_getElem hj] at ht; simpa using ht⟩
section
variable {A : Around} {s : Shared}
theorem EqAt.to {y x : Value} {b c : Bool} (h : EqAt A s y x b) (e : b = c) : EqAt A s y x c := e ▸ h
theorem RcAt.to {y x : Value} {b c : Bool} (h : RcAt A s y x b) (e : b = c) : RcAt A s y x c := e ▸ h
theorem rc_ints {a b : Addr} {vs vs2 : List Value} {ns ns2 : List Int} (h1 : s.heap.IsTuple a vs.toArray) (h2 : s.heap.IsTuple b vs2.toArray) (i1 : IntsAre vs ns) (i2 : IntsAre vs2 ns2) (hu : A.units < cLine) :
    RcAt A s (.ref a) (.ref b) (decide (ns = ns2)) := by
  have l1 := i1.length
  have l2 := i2.length
  refine RcAt.to (RcAt.tuples (e := fun j => decide (ns.getD j 0 = ns2.getD j 0)) h1 h2 hu fun j q1 q2 => ?_) ?_
  · simp only [List.size_toArray] at q1 q2
    obtain ⟨t, e1⟩ := ints_at i1 q1
    obtain ⟨u, e2⟩ := ints_at i2 q2
    simp only [List.getElem_toArray, e1, e2]
    exact EqAt.to ((EqGives.int _ _ t u).at _ _) (by rw [Bool.eq_iff_iff]; simp)
  · rw [← all_range_eq 0 ns ns2, List.size_toArray, List.size_toArray, l1, l2]
theorem rc_norm {a b ca cb : Addr} {x y : Int} {tx ty : Tok} {vs vs2 : List Value} {ns ns2 : List Int} (h1 : s.heap.IsTuple a #[.ref ca, .int x tx]) (h2 : s.heap.IsTuple b #[.ref cb, .int y ty]) (hne : ca ≠ cb)
    (q1 : s.heap.IsTuple ca vs.toArray) (q2 : s.heap.IsTuple cb vs2.toArray) (i1 : IntsAre vs ns) (i2 : IntsAre vs2 ns2) (hu : A.in1.units < cLine) (hu' : A.units < cLine) :
    RcAt A s (.ref a) (.ref b) (decide (ns = ns2) && (x == y)) := by
  refine RcAt.to (RcAt.tuples (e := fun j => if j = 0 then decide (ns = ns2) else x == y) h1 h2 hu' fun j k1 k2 => ?_) ?_
  · match j, k1, k2 with
    | 0, _, _ => exact EqAt.of_refs hne (rc_ints q1 q2 i1 i2 hu)
    | 1, _, _ => exact (EqGives.int x y tx ty).at _ _
  · simp [List.range, List.range.loop]
end
end Mine
end
section -- M1
open PySem PySem.W PyProof.Rows PySem.Spec PySem.Calls
set_option maxRecDepth 100000
set_option maxHeartbeats 8000000
namespace Mine
theorem kw0_M1 : True := by
  k_with_none
  k_with "storeName" => (k_here; k_dflt (first | (refine storeX_Ui (by k_asm) (by k_asm) ?_ (by rfl) (by rfl); k_whole; intro _ _ _ _ _) | (refine storeX_Us (by k_asm) (by k_asm) ?_ (by rfl) (by rfl); k_whole; intro _ _ _ _ _) | (refine storeX_U (by k_asm) (by k_asm) ?_ (by rfl) (by rfl); k_whole; intro _ _ _ _)); (try k_sweep))
  k_with "eval Constant int" => (refine int_l ?_)
  k_with "binaryOp Add int int" => (refine add_l ?_)
  k_with "binaryOp Sub int int" => (refine sub_l ?_)
  k_with "enterN" => (refine' enterN ?zN_k1 ?zN_k2 ?zN_k3 ?zN_k4 ?zN_k5 ?zN_kA ?zN_kF ?zN_kK ?zN_k6 ?zN_k7 ?zN_k8 ?zN_k9 ?zN_kB ?_ ?zN_kR ?zN_c2 ?zN_c3 ?zN_c4 ?zN_c5; (case zN_kA => exact rfl); (case zN_kF => exact rfl); (case zN_kK => assumption); (case zN_k1 => k_asm); (case zN_k2 => k_asm); (case zN_k3 => k_asm); (case zN_k4 => k_asm); (case zN_k5 => k_asm); (case zN_kR => assumption); (case zN_k6 => k_is); (case zN_k7 => k_is); (case zN_k8 => ktr_room); (case zN_k9 => exact BindsTo.of_eq rfl); (case zN_c5 => decide); (case zN_kB => exact locs rfl); (case zN_c2 => exact rfl); (case zN_c3 => exact rfl); (case zN_c4 => exact rfl); k_whole; intro g' L' h' tk' F' N' B' X' T' G' l1; (try dsimp only); (try k_lift B'); (try k_fold))
  k_with "call builtin:len" => (k_here; (with_reducible show wpAny _ _ (call (Value.builtin "len") [Value.ref _]) _ _ _); refine len_tupI (by k_asm) (by k_mem) (by assumption) (by omega) ?_)
  trivial
noncomputable def lrOf (ns : List Int) (b : Int) : Int := if b > (ns.length : Int) - 1 then b else (ns.length : Int) - 1
theorem longest_c (w : World) (q : WsT) (raw : Str) (n nt b : Int) (tb : Tok) (self d norm cnt : Addr) (sim : Bool) (vs : List Value) (ns : List Int) (hi : IntsAre vs ns) (hz : ns.length ≤ 100000) :
    PN w 55 1 [(self, instObj 93 d), (d, wsD w q raw n nt norm sim), (norm, tupO [.ref cnt, .int b tb]), (cnt, tupO vs)] [.ref self] (fun _ v _ => ∃ t, v = .int (lrOf ns b) t) := by
  w_on
  dsimp only [PN]
  k_fill
  intro mean mg mb dp un gd cn cs a ccd cl outer A₀ base h₀ L m s R B F X T hk hd hu N hret
  k_dflt (walk_at "enterN")
  change Fr _ _ _ (fun y => List.lookup y [(Str.ofString "self", .ref self)]) at F'
  w_strict k_steps
  exact endN (by assumption) (by assumption) (by assumption) (by assumption) (fun p hp => by simpa using hp) ⟨_, rfl⟩
end Mine
end
section -- M2
open PySem PySem.W PyProof.Rows PySem.Spec PySem.Calls
set_option maxRecDepth 100000
set_option maxHeartbeats 8000000
namespace Mine
/-- sum over i in [ts, ts + k) of i // ts * count[i] -/
noncomputable def ilSum (ns : List Int) (ts : Int) : Nat → Int
  | 0 => 0
  | k + 1 => ilSum ns ts k + (ts + k).fdiv ts * ns.getD (ts + k).toNat 0
noncomputable def ilOf (ns : List Int) (b nt ts : Int) : Int := b + ts * (ilSum ns ts ((ns.length : Int) - ts).toNat + nt)
theorem kw0_M2 : True := by
  k_with_none
  k_with "storeName" => (k_here; k_dflt (first | (refine storeX_Ui (by k_asm) (by k_asm) ?_ (by rfl) (by rfl); k_whole; intro _ _ _ _ _) | (refine storeX_Us (by k_asm) (by k_asm) ?_ (by rfl) (by rfl); k_whole; intro _ _ _ _ _) | (refine storeX_U (by k_asm) (by k_asm) ?_ (by rfl) (by rfl); k_whole; intro _ _ _ _)); (try k_sweep))
  k_with "eval Constant int" => (refine int_l ?_)
  k_with "binaryOp Add int int" => (refine add_l ?_)
  k_with "binaryOp Sub int int" => (refine sub_l ?_)
  k_with "enterN" => (refine' enterN ?zN_k1 ?zN_k2 ?zN_k3 ?zN_k4 ?zN_k5 ?zN_kA ?zN_kF ?zN_kK ?zN_k6 ?zN_k7 ?zN_k8 ?zN_k9 ?zN_kB ?_ ?zN_kR ?zN_c2 ?zN_c3 ?zN_c4 ?zN_c5; (case zN_kA => exact rfl); (case zN_kF => exact rfl); (case zN_kK => assumption); (case zN_k1 => k_asm); (case zN_k2 => k_asm); (case zN_k3 => k_asm); (case zN_k4 => k_asm); (case zN_k5 => k_asm); (case zN_kR => assumption); (case zN_k6 => k_is); (case zN_k7 => k_is); (case zN_k8 => ktr_room); (case zN_k9 => exact BindsTo.of_eq rfl); (case zN_c5 => decide); (case zN_kB => exact locs rfl); (case zN_c2 => exact rfl); (case zN_c3 => exact rfl); (case zN_c4 => exact rfl); k_whole; intro g' L' h' tk' F' N' B' X' T' G' l1; (try dsimp only); (try k_lift B'); (try k_fold))
  k_with "call builtin:len" => (k_here; (with_reducible show wpAny _ _ (call (Value.builtin "len") [Value.ref _]) _ _ _); refine len_tupI (by k_asm) (by k_mem) (by assumption) (by omega) ?_)
  k_with "subscriptTail" => (k_here; (with_reducible show wpAny _ _ (subscriptTail _ _ (Value.ref _) (Value.int _ _)) _ _ _); refine item_tupI (by k_asm) (by k_mem) (by assumption) (by omega) (by omega) (by omega) ?_; intro _)
  k_with "pyIter ref" => ((with_reducible show wpAny _ _ (pyIter (Value.ref _)) (fun it s₂ => LoopAtV _ _ _ _ _ _ _ _ _ it s₂) _ _); k_here; refine Held.out ?_)
  k_with "binaryOp Mult int int" => (k_here; first | (refine mul_l (by omega) (by omega) ?_) | (refine mul_r (by omega) (by omega) ?_) | (refine mul_fd (by omega) (by omega) (by omega) ?_))
  k_with "rloop" => ((case hh => rfl); (case hr => assumption); (case hn => exact rangeSize_nat _ _); (case hs => exact small_one (by omega) (by omega) (by omega) (by omega)); (case F => assumption); (case N => assumption))
  trivial
theorem il_c (w : World) (q : WsT) (raw : Str) (n nt b ts : Int) (tb tt : Tok) (self d norm cnt : Addr) (sim : Bool) (vs : List Value) (ns : List Int) (hi : IntsAre vs ns) (hz : ns.length ≤ 100000) (h1 : 1 ≤ ts) (h2 : ts ≤ 1000000) :
    PN w 62 1 [(self, instObj 93 d), (d, wsD w q raw n nt norm sim), (norm, tupO [.ref cnt, .int b tb]), (cnt, tupO vs)] [.ref self, .int ts tt] (fun _ v _ => ∃ t, v = .int (ilOf ns b nt ts) t) := by
  w_on
  dsimp only [PN]
  k_fill
  intro mean mg mb dp un gd cn cs a ccd cl outer A₀ base h₀ L m s R B F X T hk hd hu N hret
  k_dflt (walk_at "enterN")
  change Fr _ _ _ (fun y => List.lookup y [(Str.ofString "tabsize", .int ts tt), (Str.ofString "self", .ref self)]) at F'
  w_strict k_steps
  refine ⟨?_⟩
  refine' range_names (σ := Int × Tok) (fun c => [(Str.ofString "il", .int c.1 c.2)]) (fun i c => c.1 = ilSum ns ts i) (⟨?x1, ?x2⟩ : Int × Tok) ?hh ?hr ?hs ?hn ?F ?N ?hm ?hp ?turn ?done
  walk_at "rloop"
  case hm => exact ⟨by with_unfolding_all exact rfl, trivial⟩
  case hp => rfl
  case turn =>
    intro i t c h tk I oI hi0 hc hI F1 N1
    dsimp only [ovr] at F1
    w_strict k_steps
    refine' TurnL.intro (by assumption) (by assumption) (⟨?y1, ?y2⟩ : Int × Tok) (fun p hp => by simpa using hp) hI ?hm ?hp
    case hm => (intro y hy; by_cases h1 : y = Str.ofString "il"; (subst h1; exact rfl); (simp only [upd, ovr, if_neg h1, if_neg hy]))
    case hp => (show _ = ilSum ns ts (i + 1); rw [ilSum, ← hc]; simp only [Int.mul_one])
  case done =>
    intro c u h tk hc F1 N1
    dsimp only [ovr] at F1
    w_strict k_steps
    refine endN (by assumption) (by assumption) F1 N1 (fun p hp => by simpa using hp) ?_
    have e : ilOf ns b nt ts = b + ts * (c.1 + nt) := by rw [ilOf, ← hc]
    rw [e]
    exact ⟨_, rfl⟩
end Mine
end
section -- M3
open PySem PySem.W PyProof.Rows PySem.Spec PySem.Calls
set_option maxRecDepth 100000
set_option maxHeartbeats 8000000
namespace Mine
theorem kw0_M3 : True := by
  k_with_none
  k_with "storeName" => (k_here; k_dflt (first | (refine storeX_Ui (by k_asm) (by k_asm) ?_ (by rfl) (by rfl); k_whole; intro _ _ _ _ _) | (refine storeX_Us (by k_asm) (by k_asm) ?_ (by rfl) (by rfl); k_whole; intro _ _ _ _ _) | (refine storeX_U (by k_asm) (by k_asm) ?_ (by rfl) (by rfl); k_whole; intro _ _ _ _)); (try k_sweep))
  k_with "eval Constant int" => (refine int_l ?_)
  k_with "binaryOp Add int int" => (refine add_l ?_)
  k_with "binaryOp Sub int int" => (refine sub_l ?_)
  k_with "enterN" => (refine' enterN ?zN_k1 ?zN_k2 ?zN_k3 ?zN_k4 ?zN_k5 ?zN_kA ?zN_kF ?zN_kK ?zN_k6 ?zN_k7 ?zN_k8 ?zN_k9 ?zN_kB ?_ ?zN_kR ?zN_c2 ?zN_c3 ?zN_c4 ?zN_c5; (case zN_kA => exact rfl); (case zN_kF => exact rfl); (case zN_kK => assumption); (case zN_k1 => k_asm); (case zN_k2 => k_asm); (case zN_k3 => k_asm); (case zN_k4 => k_asm); (case zN_k5 => k_asm); (case zN_kR => assumption); (case zN_k6 => k_is); (case zN_k7 => k_is); (case zN_k8 => ktr_room); (case zN_k9 => exact BindsTo.of_eq rfl); (case zN_c5 => decide); (case zN_kB => exact locs rfl); (case zN_c2 => exact rfl); (case zN_c3 => exact rfl); (case zN_c4 => exact rfl); k_whole; intro g' L' h' tk' F' N' B' X' T' G' l1; (try dsimp only); (try k_lift B'); (try k_fold))
  trivial
theorem equal_c (w : World) (q q2 : WsT) (raw raw2 : Str) (n nt b n2 nt2 b2 : Int) (tb tb2 : Tok) (self d norm cnt self2 d2 norm2 cnt2 : Addr) (sim sim2 : Bool) (vs vs2 : List Value) (ns ns2 : List Int) (hi : IntsAre vs ns) (hi2 : IntsAre vs2 ns2) (hne : cnt ≠ cnt2) :
    PN w 69 1 [(self, instObj 93 d), (d, wsD w q raw n nt norm sim), (norm, tupO [.ref cnt, .int b tb]), (cnt, tupO vs), (self2, instObj 93 d2), (d2, wsD w q2 raw2 n2 nt2 norm2 sim2), (norm2, tupO [.ref cnt2, .int b2 tb2]), (cnt2, tupO vs2)] [.ref self, .ref self2]
      (fun _ v _ => v = .bool (decide (ns = ns2) && (b == b2))) := by
  w_on
  dsimp only [PN]
  k_fill
  intro mean mg mb dp un gd cn cs a ccd cl outer A₀ base h₀ L m s R B F X T hk hd hu N hret
  k_dflt (walk_at "enterN")
  change Fr _ _ _ (fun y => List.lookup y [(Str.ofString "other", .ref self2), (Str.ofString "self", .ref self)]) at F'
  w_strict k_steps
  refine rc_norm (News.isTup (by assumption) (by k_mem)) (News.isTup (by assumption) (by k_mem)) hne (News.isTup (by assumption) (by k_mem)) (News.isTup (by assumption) (by k_mem)) (by assumption) (by assumption) (by ktr_units) (by ktr_units) _ _ _ _ ?_
  exact endN (by assumption) (by assumption) (by assumption) (by assumption) (fun p hp => by simpa using hp) rfl
end Mine
end
section -- M4
open PySem PySem.W PyProof.Rows PySem.Spec PySem.Calls
set_option maxRecDepth 100000
set_option maxHeartbeats 8000000
namespace Mine
noncomputable abbrev Row := Int × Int × Int
noncomputable abbrev rowO (r : Row) (t0 t1 t2 : Tok) : Obj := tupO [.int r.1 t0, .int r.2.1 t1, .int r.2.2 t2]
noncomputable def RowIn (tups : List (Addr × Obj)) (v : Value) (r : Row) : Prop := ∃ x t0 t1 t2, v = .ref x ∧ (x, rowO r t0 t1 t2) ∈ tups
inductive RowsIn (tups : List (Addr × Obj)) : List Value → List Row → Prop where
  | nil : RowsIn tups [] []
  | cons {v : Value} {r : Row} {vs : List Value} {rs : List Row} : RowIn tups v r → RowsIn tups vs rs → RowsIn tups (v :: vs) (r :: rs)
theorem RowsIn.mono {t t' : List (Addr × Obj)} (hs : ∀ p ∈ t, p ∈ t') {vs : List Value} {rs : List Row} (h : RowsIn t vs rs) : RowsIn t' vs rs := by
  induction h with
  | nil => exact .nil
  | cons h _ ih => obtain ⟨x, a, b, c, e, hm⟩ := h; exact .cons ⟨x, a, b, c, e, hs _ hm⟩ ih
theorem RowsIn.snoc {t : List (Addr × Obj)} {vs : List Value} {rs : List Row} {v : Value} {r : Row} (h : RowsIn t vs rs) (hv : RowIn t v r) : RowsIn t (vs ++ [v]) (rs ++ [r]) := by
  induction h with
  | nil => exact .cons hv .nil
  | cons h _ ih => exact .cons h ih
theorem RowsIn.len {t : List (Addr × Obj)} {vs : List Value} {rs : List Row} (h : RowsIn t vs rs) : vs.length = rs.length := by
  induction h with
  | nil => rfl
  | cons _ _ ih => simp [ih]
noncomputable def rowsP (p : Int → Bool) (f g : Int → Int) : Nat → List Row
  | 0 => []
  | k + 1 => rowsP p f g k ++ (if p (1 + (k : Int)) then [(1 + (k : Int), f (1 + (k : Int)), g (1 + (k : Int)))] else [])
theorem rowsP_len (p : Int → Bool) (f g : Int → Int) : ∀ k, (rowsP p f g k).length ≤ k
  | 0 => Nat.le_refl _
  | k + 1 => by
    have := rowsP_len p f g k
    rw [rowsP, List.length_append]
    split <;> simp <;> omega
structure RowSt where
  vs : List Value
  k : Nat
  tups : List (Addr × Obj)
theorem append_my {sh : Heap} {sg : Array GenState} {sd : Drawn} {st : Nat} {so : OsState} {prog : Program} {w : World} {A : Around} {E : Value → Shared → Prop} {h₀ : Heap} {L D : Addr} {m : Str → Option Value} {news keep : List (Addr × Obj)} {vs : List Value} {n : Nat} {x : Value} {Q : Value → Shared → Prop}
    (F : Fr h₀ L sh m) (N : News h₀ L sh news) (hm : (D, listOf vs.toArray n) ∈ news) (hk : ∀ p ∈ keep, p ∈ news ∧ p.1 ≠ D) (hz : vs.length ≤ 1000000)
    (h : ∀ h', Fr h₀ L h' m → News h₀ L h' ((D, listOf (vs ++ [x]).toArray (n + 1)) :: keep) → Q .none ⟨h', sg, sd, st, so⟩) : wpAny (model prog w) A (call (.builtin "list.append") [.ref D, x]) Q E ⟨sh, sg, sd, st, so⟩ := by
  have N' : News h₀ L sh ((D, listOf vs.toArray n) :: keep) := fun p hp => by
    rcases List.mem_cons.mp hp with rfl | hp
    · exact N _ hm
    · exact N _ (hk p hp).1
  refine append_K F N' (.head fun p hp => (hk p hp).2) (fun h' F' N2 => h h' F' ?_) ?_
  · rw [List.push_toArray] at N2; exact N2
  · simp only [List.size_toArray]
    exact Nat.le_trans hz (by decide)
end Mine
namespace Mine
theorem newTo_of {H g h' : Heap} {L' : Addr} {objs news' : List (Addr × Obj)} (G : GSub H g (objs.map (·.1))) (N' : News g L' h' news') : ∀ {l : List (Addr × Obj)}, (∀ p ∈ l, p ∈ news' ∧ ∀ q ∈ objs, p.1 ≠ q.1) → NewTo H h' l
  | [], _ => trivial
  | p :: r, h => ⟨new_of G N' (h p (.head _)).1 (h p (.head _)).2, newTo_of G N' fun q hq => h q (.tail _ hq)⟩
section
variable {w : World} {mean : ExcName → Option Value} {mg mb : Str → Option Value} {dp un : Nat} {gd : Option (List Code)} {cn : Str} {cs : Scope} {a : Addr} {ccd : Value} {cl : List (Str × Addr)} {outer : List Env} {A₀ : Around} {base h₀ : Heap} {L : Addr} {m : Str → Option Value} {s : Shared}
  {news : List (Addr × Obj)} {Q E : Value → Shared → Prop} {q : WsT} {raw : Str} {n nt b ts : Int} {tb tt : Tok} {self d norm cnt : Addr} {sim : Bool} {vs : List Value} {ns : List Int}
theorem useIl {sh : Heap} {sg : Array GenState} {sd : Drawn} {st : Nat} {so : OsState} (B : Below A₀ base outer h₀) (F : Fr h₀ L sh m) (X : (kH w.params).In h₀) (T : Top viewT looseX mean mg mb h₀) (hk : cs.kind = .function) (hd : dp + 1 < recursionLimit) (hu : un + 8 * 1 < cLine) (N : News h₀ L sh news)
    (S : SubL [(self, instObj 93 d), (d, wsD w q raw n nt norm sim), (norm, tupO [.ref cnt, .int b tb]), (cnt, tupO vs)] news) (hi : IntsAre vs ns) (hz : ns.length ≤ 100000) (h1 : 1 ≤ ts) (h2 : ts ≤ 1000000)
    (h : ∀ h' tk' v, Fr h₀ L h' m → News h₀ L h' news → (∃ t, v = .int (ilOf ns b nt ts) t) → Q v ⟨h', sg, sd, tk', so⟩) :
    wpAny (model PySem.Challenge.rw_rl0124_01.row.prog w) (ktrTop dp un gd cn cs L a ccd cl outer) (call (.ref 62) [.ref self, .int ts tt]) Q E ⟨sh, sg, sd, st, so⟩ :=
  useN (il_c w q raw n nt b ts tb tt self d norm cnt sim vs ns hi hz h1 h2) B F X T hk hd hu N S h
theorem useLr {sh : Heap} {sg : Array GenState} {sd : Drawn} {st : Nat} {so : OsState} (B : Below A₀ base outer h₀) (F : Fr h₀ L sh m) (X : (kH w.params).In h₀) (T : Top viewT looseX mean mg mb h₀) (hk : cs.kind = .function) (hd : dp + 1 < recursionLimit) (hu : un + 8 * 1 < cLine) (N : News h₀ L sh news)
    (S : SubL [(self, instObj 93 d), (d, wsD w q raw n nt norm sim), (norm, tupO [.ref cnt, .int b tb]), (cnt, tupO vs)] news) (hi : IntsAre vs ns) (hz : ns.length ≤ 100000)
    (h : ∀ h' tk' v, Fr h₀ L h' m → News h₀ L h' news → (∃ t, v = .int (lrOf ns b) t) → Q v ⟨h', sg, sd, tk', so⟩) :
    wpAny (model PySem.Challenge.rw_rl0124_01.row.prog w) (ktrTop dp un gd cn cs L a ccd cl outer) (call (.ref 55) [.ref self]) Q E ⟨sh, sg, sd, st, so⟩ :=
  useN (longest_c w q raw n nt b tb self d norm cnt sim vs ns hi hz) B F X T hk hd hu N S h
end
theorem opaque8 {h₀ h : Heap} {L : Addr} {a b c d e f g i : Addr × Obj} {P : Prop} (N : News h₀ L h [a, b, c, d, e, f, g, i])
    (k : ∀ nw, a ∈ nw → b ∈ nw → c ∈ nw → d ∈ nw → e ∈ nw → f ∈ nw → g ∈ nw → i ∈ nw → News h₀ L h nw → P) : P :=
  k _ (.head _) (.tail _ (.head _)) (.tail _ (.tail _ (.head _))) (.tail _ (.tail _ (.tail _ (.head _)))) (.tail _ (.tail _ (.tail _ (.tail _ (.head _))))) (.tail _ (.tail _ (.tail _ (.tail _ (.tail _ (.head _)))))) (.tail _ (.tail _ (.tail _ (.tail _ (.tail _ (.tail _ (.head _))))))) (.tail _ (.tail _ (.tail _ (.tail _ (.tail _ (.tail _ (.tail _ (.head _)))))))) N
/-- what a list of rows handed back is -/
noncomputable abbrev rowsPost (rs : List Row) (H : Heap) (v : Value) (h' : Heap) : Prop := ∃ l vs k tups, v = .ref l ∧ NewTo H h' ((l, listOf vs.toArray k) :: tups) ∧ RowsIn tups vs rs
theorem post_genM {M : Model} {A : Around} {α : Type} {a : Sem α} {E : Value → Shared → Prop} {s : Shared} {Q : α → Shared → Prop} (h : ∀ Q' : α → Shared → Prop, (∀ v s', Q v s' → Q' v s') → wpAny M A a Q' E s) : wpAny M A a Q E s := h Q fun _ _ q => q
end Mine
end
section -- SI
open PySem PySem.W PyProof.Rows PySem.Spec PySem.Calls
set_option maxRecDepth 100000
set_option maxHeartbeats 8000000
namespace Mine
theorem ints_set {x : Int} {u : Tok} : ∀ {vs : List Value} {ns : List Int}, IntsAre vs ns → ∀ k : Nat, IntsAre (vs.set k (.int x u)) (ns.set k x)
  | _, _, .nil, _ => .nil
  | _, _, .cons _ _ h, 0 => .cons _ _ h
  | _, _, .cons _ _ h, k + 1 => .cons _ _ (ints_set h k)
theorem ints_app : ∀ {vs vs' : List Value} {ns ns' : List Int}, IntsAre vs ns → IntsAre vs' ns' → IntsAre (vs ++ vs') (ns ++ ns')
  | _, _, _, _, .nil, h' => h'
  | _, _, _, _, .cons _ _ h, h' => .cons _ _ (ints_app h h')
theorem set_listI {sh : Heap} {sg : Array GenState} {sd : Drawn} {st : Nat} {so : OsState} {prog : Program} {w : World} {A : Around} {E : Value → Shared → Prop} {h₀ : Heap} {L D : Addr} {m : Str → Option Value} {news keep : List (Addr × Obj)} {vs : List Value} {ns : List Int} {n : Nat} {k x : Int} {t u : Tok} {Q : Unit → Shared → Prop}
    (F : Fr h₀ L sh m) (N : News h₀ L sh news) (hm : (D, listOf vs.toArray n) ∈ news) (hk : ∀ p ∈ keep, p ∈ news ∧ p.1 ≠ D) (hi : IntsAre vs ns) (h0 : 0 ≤ k) (h1 : k < ns.length) (hf : k < 2 ^ 63)
    (h : ∀ h' ws, Fr h₀ L h' m → IntsAre ws (ns.set k.toNat x) → News h₀ L h' ((D, listOf ws.toArray n) :: keep) → Q () ⟨h', sg, sd, st, so⟩) : wpAny (model prog w) A (setItem (.ref D) (.int k t) (.int x u)) Q E ⟨sh, sg, sd, st, so⟩ := by
  have N' : News h₀ L sh ([] ++ (D, listOf vs.toArray n) :: keep) := fun p hp => by
    rcases List.mem_cons.mp hp with rfl | hp
    · exact N _ hm
    · exact N _ (hk p hp).1
  have z := N (D, listOf vs.toArray n) hm
  have hl : vs.length = ns.length := hi.length
  have hs : vs.toArray.size = ns.length := by rw [List.size_toArray]; exact hl
  refine ki_setAt z.1 h0 hf (by omega) (h _ (vs.set k.toNat (.int x u)) (F.change (Heap.SameBut.update ..) z.2.1 z.2.2) (ints_set hi _) (ki_turn _ N' (fun _ hp => nomatch hp) (fun p hp => (hk p hp).2) ?_ ?_))
  · show vs.toArray.setIfInBounds k.toNat (.int x u) = (vs.set k.toNat (.int x u)).toArray
    apply Array.toList_inj.mp
    simp
  · simp
end Mine
namespace Mine
section
variable {prog : Program} {w : World} {A : Around} {E : Value → Shared → Prop} {s : Shared} {h₀ : Heap} {L : Addr} {m : Str → Option Value} {news : List (Addr × Obj)}
theorem add_listI {sh : Heap} {sg : Array GenState} {sd : Drawn} {st : Nat} {so : OsState} {l b : Addr} {vs ws : List Value} {ns ms : List Int} {k1 k2 : Nat} {Q : Value → Shared → Prop} (F : Fr h₀ L sh m) (N : News h₀ L sh news) (m1 : (l, listOf vs.toArray k1) ∈ news) (m2 : (b, listOf ws.toArray k2) ∈ news) (hi : IntsAre vs ns) (hj : IntsAre ws ms) (hz : ns.length + ms.length ≤ 10000000)
    (h : ∀ D h' us, Fr h₀ L h' m → News h₀ L h' ((D, listOf us.toArray 0) :: news) → (∀ p ∈ news, @LT.lt Nat _ p.1 D) → IntsAre us (ns ++ ms) → Q (.ref D) ⟨h', sg, sd, st, so⟩) : wpAny (model prog w) A (binaryOp .Add (.ref l) (.ref b)) Q E ⟨sh, sg, sd, st, so⟩ :=
  add_lists_ints (hsz := Nat.le_trans hz (by decide)) F N (News.isList N m1) (News.isList N m2) hi hj fun h' F' N' i' => h _ h' _ F' N' (fun p hp => Heap.lt_size (N p hp).1) i'
theorem repl_one (x : Nat) (a : Int) : (List.replicate x [a]).flatten = List.replicate x a := by
  induction x with
  | zero => rfl
  | succ n ih => rw [List.replicate_succ, List.flatten_cons, ih, List.replicate_succ]; rfl
theorem mul_listI {sh : Heap} {sg : Array GenState} {sd : Drawn} {st : Nat} {so : OsState} {l : Addr} {v : Int} {t u : Tok} {x : Int} {k1 : Nat} {Q : Value → Shared → Prop} (F : Fr h₀ L sh m) (N : News h₀ L sh news) (m1 : (l, listOf #[.int v t] k1) ∈ news) (h0 : -10000000 ≤ x) (h1 : x ≤ 10000000)
    (h : ∀ D h' us, Fr h₀ L h' m → News h₀ L h' ((D, listOf us.toArray 0) :: news) → (∀ p ∈ news, @LT.lt Nat _ p.1 D) → IntsAre us (List.replicate x.toNat v) → Q (.ref D) ⟨h', sg, sd, st, so⟩) : wpAny (model prog w) A (binaryOp .Mult (.ref l) (.int x u)) Q E ⟨sh, sg, sd, st, so⟩ :=
  KM.mul (vs := [.int v t]) (ns := [v]) F N (News.isList N m1) (.cons _ _ .nil) (by omega) (by omega) (by simp only [List.length_cons, List.length_nil]; omega) fun D h' F' N' l' i' _ _ _ _ _ => h D h' _ F' N' l' (by rw [repl_one] at i'; exact i')
theorem tuple_listI {sh : Heap} {sg : Array GenState} {sd : Drawn} {st : Nat} {so : OsState} {l : Addr} {vs : List Value} {ns : List Int} {k1 : Nat} {Q : Value → Shared → Prop} (F : Fr h₀ L sh m) (N : News h₀ L sh news) (m1 : (l, listOf vs.toArray k1) ∈ news) (hi : IntsAre vs ns) (hz : ns.length ≤ 10000000)
    (h : ∀ D h', Fr h₀ L h' m → News h₀ L h' ((D, tupO vs) :: news) → (∀ p ∈ news, p.1 < D) → Q (.ref D) ⟨h', sg, sd, st, so⟩) : wpAny (model prog w) A (call (.type "tuple") [.ref l]) Q E ⟨sh, sg, sd, st, so⟩ := by
  refine call_tuple_list (News.isList N m1) (fun h' hk => ?_) (by rw [List.size_toArray, hi.length]; exact Nat.le_trans hz (by decide))
  have F' : Fr h₀ L h' m := F.keeps hk
  have N' : News h₀ L h' news := fun p hp => ⟨hk _ _ (N p hp).1, (N p hp).2⟩
  exact h _ _ (F'.push _) (N'.push F' _) fun p hp => Heap.lt_size (N' p hp).1
end
end Mine
end
section -- G1
open PySem PySem.W PyProof.Rows PySem.Spec PySem.Calls
set_option maxRecDepth 100000
set_option maxHeartbeats 8000000
namespace Mine
noncomputable def cellsOk (m : Nat) (cs : List Int) : Prop := cs.length = 8 ∧ ∀ c ∈ cs, 0 ≤ c ∧ c ≤ 3 + 1000000 * (m : Int)
theorem len_listB {prog : Program} {w : World} {A : Around} {E : Value → Shared → Prop} {s : Shared} {t : Addr} {vs : List Value} {ns : List Int} {Q : Value → Shared → Prop} (hl : s.heap.IsList t vs.toArray) (hi : IntsAre vs ns) (hz : ns.length ≤ 10000000)
    (h : Q (.int ns.length (s.toks + 1)) { s with toks := s.toks + 1 + 1 }) : wpAny (model prog w) A (call (.builtin "len") [.ref t]) Q E s := by
  have e : vs.toArray.size = ns.length := by simp [hi.length]
  refine PyProof.Rows.len_list hl (by rw [e]; omega) (by rw [e]; exact h)
theorem list_in {H g h₀ : Heap} {L : Addr} {m : Str → Option Value} {l : Addr} {a : Array Value} (hp : h₀.IsList l a) (F : Fr h₀ L H m) (G : GSub H g []) : g.IsList l a := by
  obtain ⟨o, ho, r⟩ := hp
  exact ⟨o, G _ _ (F.keep _ _ ho) (fun q => nomatch q), r⟩
theorem cells_start {h₀ h : Heap} {L l : Addr} {k : Nat} {a b c d e f g i : Tok} (N : News h₀ L h [(l, W.listOf #[.int 2 a, .int 2 b, .int 2 c, .int 2 d, .int 2 e, .int 3 f, .int 1 g, .int 0 i] k)]) :
    ∃ ws, IntsAre ws [2, 2, 2, 2, 2, 3, 1, 0] ∧ News h₀ L h [(l, W.listOf ws.toArray k)] :=
  ⟨_, .cons _ _ (.cons _ _ (.cons _ _ (.cons _ _ (.cons _ _ (.cons _ _ (.cons _ _ (.cons _ _ .nil))))))), N⟩
structure CellSt where
  ws : List Value
  k : Nat
noncomputable abbrev cellsP (n : Nat) (H : Heap) (v : Value) (h' : Heap) : Prop := ∃ l ws cs k, v = .ref l ∧ NewTo H h' [(l, W.listOf ws.toArray k)] ∧ IntsAre ws cs ∧ cellsOk n cs
noncomputable abbrev cellsL (l : Addr) (c : CellSt) : List (Addr × Obj) := [(l, W.listOf c.ws.toArray c.k)]
noncomputable abbrev cellsT (i : Nat) (c : CellSt) : Prop := ∃ cs, IntsAre c.ws cs ∧ cellsOk i cs
theorem kw0_G1 : True := by
  k_with_none
  k_with "storeName" => (k_here; k_dflt (first | (refine storeX_Ui (by k_asm) (by k_asm) ?_ (by rfl) (by rfl); k_whole; intro _ _ _ _ _) | (refine storeX_Us (by k_asm) (by k_asm) ?_ (by rfl) (by rfl); k_whole; intro _ _ _ _ _) | (refine storeX_U (by k_asm) (by k_asm) ?_ (by rfl) (by rfl); k_whole; intro _ _ _ _)); (try k_sweep))
  k_with "eval Constant int" => (refine int_l ?_)
  k_with "binaryOp Add int int" => (refine add_l ?_)
  k_with "binaryOp Sub int int" => (refine sub_l ?_)
  k_with "enterN" => (refine' enterN ?zN_k1 ?zN_k2 ?zN_k3 ?zN_k4 ?zN_k5 ?zN_kA ?zN_kF ?zN_kK ?zN_k6 ?zN_k7 ?zN_k8 ?zN_k9 ?zN_kB ?_ ?zN_kR ?zN_c2 ?zN_c3 ?zN_c4 ?zN_c5; (case zN_kA => exact rfl); (case zN_kF => exact rfl); (case zN_kK => assumption); (case zN_k1 => k_asm); (case zN_k2 => k_asm); (case zN_k3 => k_asm); (case zN_k4 => k_asm); (case zN_k5 => k_asm); (case zN_kR => assumption); (case zN_k6 => k_is); (case zN_k7 => k_is); (case zN_k8 => ktr_room); (case zN_k9 => exact BindsTo.of_eq rfl); (case zN_c5 => decide); (case zN_kB => exact locs rfl); (case zN_c2 => exact rfl); (case zN_c3 => exact rfl); (case zN_c4 => exact rfl); k_whole; intro g' L' h' tk' F' N' B' X' T' G' l1; (try dsimp only); (try k_lift B'); (try k_fold))
  k_with "pyIter ref" => ((with_reducible show wpAny _ _ (pyIter (Value.ref _)) (fun it s₂ => LoopAtV _ _ _ _ _ _ _ _ _ it s₂) _ _); k_here; refine Held.out ?_)
  k_with "call builtin:len" => (k_here; (with_reducible show wpAny _ _ (call (Value.builtin "len") [Value.ref _]) _ _ _); refine len_listB (by is_list) (by assumption) (by omega) ?_)
  k_with "subscriptTail" => (k_here; (with_reducible show wpAny _ _ (subscriptTail _ _ (Value.ref _) (Value.int _ _)) _ _ _); refine item_list_ints (by is_list) (by assumption) (by omega) (by omega) (by omega) ?_; intro _)
  k_with "setItem ref int" => (k_here; refine Held.out ?_)
  trivial
theorem cells_c (w : World) (sl : Addr) (vs : List Value) (ns : List Int) (hi : IntsAre vs ns) (hz : ns.length ≤ 2000000) :
    PX w 185 1 (fun h => h.IsList sl vs.toArray) [] [.ref sl] (cellsP ns.length) := by
  w_on
  dsimp only [PX]
  k_fill
  intro mean mg mb dp un gd cn cs a ccd cl outer A₀ base h₀ L m s R B F X T hk hd hu N hpre hret
  k_dflt (walk_at "enterN")
  change Fr _ _ _ (fun y => List.lookup y [(Str.ofString "script", .ref sl)]) at F'
  rename GSub _ _ _ => G
  have hpre' := list_in hpre F G
  w_strict k_steps
  refine ⟨?_⟩
  rename_i l' h2 l1 h1 tkz F0 N0 e0 h3 tk3 t1 u1 v1 R1 F1 N1 S1
  obtain ⟨ws0, hw0, N1'⟩ := cells_start N1
  refine' range_objs (σ := CellSt) (fun _ => []) (cellsL l') cellsT ⟨ws0, 0⟩ ?hh ?hr ?hs ?hn ?F ?N ?hsub ?hm ?hp ?turn ?done
  case hh => rfl
  case hr => exact R1
  case hn => exact rangeSize_nat _ _
  case hs => exact small_one (by omega) (by omega) (by omega) (by omega)
  case F => exact F1
  case N => exact N1'
  case hsub => exact fun p hp => hp
  case hm => exact trivial
  case hp => exact ⟨_, hw0, rfl, by decide⟩
  case turn =>
    intro i t c h tk I oI hi0 hc hI F2 N2
    obtain ⟨cs, hcs, hl8, hb⟩ := hc
    dsimp only [ovr] at F2
    dsimp only [cellsL] at N2
    simp only [Int.mul_one, Int.zero_add] at F2
    have hf0 : 0 ≤ (i : Int).fmod 8 := Int.fmod_nonneg (by omega) (by omega)
    have hf1 : (i : Int).fmod 8 < 8 := Int.fmod_lt_of_pos _ (by omega)
    have hl8' : (cs.length : Int) = 8 := by rw [hl8]; rfl
    have hil : (i : Int) < ns.length := by omega
    have hIl : l' ≠ I := hI _ (.head _)
    w_strict k_steps
    refine ⟨set_listI (ns := cs) (keep := [(I, oI)]) (by assumption) (by assumption) (by k_mem) ?hk hcs hf0 (by omega) (by omega) ?_⟩
    case hk =>
      intro p hp
      rw [List.mem_singleton.mp hp]
      exact ⟨.head _, fun e => hIl e.symm⟩
    intro h7 ws7 F7 hi7 N7
    w_strict k_steps
    refine TurnL.intro (by assumption) (by assumption) ⟨ws7, c.k⟩ ?hs (fun p hp => by rw [List.mem_singleton.mp hp]; exact hIl) ?hm ⟨_, hi7, ?hp⟩
    case hs =>
      intro p hp
      rcases List.mem_cons.mp hp with hp | hp
      · rw [hp]; exact .tail _ (.head _)
      · rw [List.mem_singleton.mp hp]; exact .head _
    case hm => intro y hy; simp only [upd, ovr, if_neg hy]
    case hp =>
      refine ⟨by rw [List.length_set]; exact hl8, fun z hz => ?_⟩
      have hr0 : 0 ≤ (ns.getD (i : Int).toNat 0).fmod (10 ^ Int.toNat 6) := by rw [Int.fmod_eq_emod_of_nonneg _ (by decide)]; exact Int.emod_nonneg _ (by decide)
      have hr1 : (ns.getD (i : Int).toNat 0).fmod (10 ^ Int.toNat 6) < 10 ^ Int.toNat 6 := Int.fmod_lt_of_pos _ (by decide)
      have hr2 : (10 : Int) ^ Int.toNat 6 = 1000000 := by decide
      rcases List.mem_or_eq_of_mem_set hz with hz | rfl
      · have := hb z hz
        omega
      · have hd : 0 ≤ cs.getD ((i : Int).fmod 8).toNat 0 ∧ cs.getD ((i : Int).fmod 8).toNat 0 ≤ 3 + 1000000 * (i : Int) := by
          have hlt : ((i : Int).fmod 8).toNat < cs.length := by omega
          rw [List.getD_eq_getElem?_getD, List.getElem?_eq_getElem hlt]
          exact hb _ (List.getElem_mem hlt)
        omega
  case done =>
    intro c u h tk hc F2 N2
    dsimp only [ovr] at F2
    dsimp only [cellsL] at N2
    obtain ⟨cs, hcs, hok⟩ := hc
    w_strict k_steps
    refine endN (by assumption) N F2 N2 (fun p hp => nomatch hp) ⟨l', c.ws, cs, c.k, rfl, newTo_of (objs := []) (by assumption) N2 fun p hp => ⟨hp, fun q hq => nomatch hq⟩, hcs, ?_⟩
    rw [show ((ns.length : Int) - 0).toNat = ns.length by omega] at hok
    exact hok
end Mine
end
section -- S1
open PySem PySem.W PyProof.Rows PySem.Spec PySem.Calls
set_option maxRecDepth 100000
set_option maxHeartbeats 8000000
namespace Mine
open LCg
noncomputable def SrcS (prog : Program) (w : World) (A : Around) (h₀ : Heap) (L : Addr) (m : Str → Option Value) (env : Env) (elt : Expr) (x : Str) (scope : Scope) (cl : List (Str × Addr)) (Fin : Shared → List Value → List (Addr × Obj) → Prop) (xv : Value) (s₁ : Shared) : Prop :=
  ∃ r a b d t u v n news, xv = .ref r ∧ A.handled = none ∧ Fr h₀ L s₁.heap m ∧ News h₀ L s₁.heap news ∧ IsRange s₁.heap r a b d t u v ∧ Builtin.Range.small a b d = true ∧ Builtin.Range.rangeSize a b d = ((n : Nat) : Int) ∧ n ≤ sizeLine ∧
    ∀ s₂ : Shared, (∃ h, s₂ = { s₁ with heap := h }) → CompRest prog w A h₀ L m env elt x scope cl s₂ (fun _ => True) (fun i v => ∃ t, v = .int (a + (i : Int) * d) t) (Fin s₂) n 0 [] news
section
variable {prog : Program} {w : World} {A : Around} {E : Value → Shared → Prop} {s : Shared} {h₀ : Heap} {L : Addr} {m : Str → Option Value} {env : Env}
theorem SrcS.range {elt : Expr} {x : Str} {scope : Scope} {cl : List (Str × Addr)} {Fin : Shared → List Value → List (Addr × Obj) → Prop} {r : Addr} {a b d : Int} {t u v : Tok} {n : Nat} {news : List (Addr × Obj)} {s₁ : Shared}
    (hh : A.handled = none) (F : Fr h₀ L s₁.heap m) (N : News h₀ L s₁.heap news) (hr : IsRange s₁.heap r a b d t u v) (hsm : Builtin.Range.small a b d = true) (hn : Builtin.Range.rangeSize a b d = ((n : Nat) : Int)) (hsz : n ≤ sizeLine)
    (h : ∀ g, CompRest prog w A h₀ L m env elt x scope cl { s₁ with heap := g } (fun _ => True) (fun i v => ∃ t, v = .int (a + (i : Int) * d) t) (Fin { s₁ with heap := g }) n 0 [] news) :
    SrcS prog w A h₀ L m env elt x scope cl Fin (.ref r) s₁ := ⟨r, a, b, d, t, u, v, n, news, rfl, hh, F, N, hr, hsm, hn, hsz, fun _ ⟨g, e⟩ => e ▸ h g⟩
theorem stepR_st {I : Addr} {a d : Int} {n : Nat} : ∀ i (h h' : Heap) (o : Obj) (nw : List (Addr × Obj)), IsRangeIter h I (a + (i : Nat) * d) ((n : Int) - (i : Nat)) d → h.get? I = some o → h'.get? I = some o → (∀ b o, h₀.get? b = some o → h'.get? b = some o) → News h₀ L h' nw → True → IsRangeIter h' I (a + (i : Nat) * d) ((n : Int) - (i : Nat)) d :=
  fun i h h' o nw st e e' _ _ _ => by
    have st' : h.get? I = some _ := st
    show h'.get? I = some _
    rw [e', ← e]; exact st'
theorem ListComp_S {elt iter : Expr} {x : Str} {px : Pos} {scope : Scope} {cl : List (Str × Addr)} {pos : Pos} {Q : Value → Shared → Prop} (F₀ : Fr h₀ L s.heap m)
    (hclos : closureFor scope env = pure cl) (hcell : ∀ y ∈ scope.names, y.2 ≠ .cell) (hkind : scope.kind = .function)
    (hnames : ∀ y ∈ scope.names, y.2 = .local → scope.names.lookup y.1 = some .local) (hx : scope.names.lookup x = some .local)
    (h : wpAny (model prog w) A (eval iter env) (SrcS prog w A h₀ L m env elt x scope cl (fun s₂ => FinE h₀ L m s₂ Q)) E s)
    (hs : ∀ x, foldedSetIterable iter env x = pure x := by intro _; rfl) :
    wpAny (model prog w) A (eval (.ListComp elt [⟨.Name x px, iter, [], 0⟩] scope pos) env) Q E s := by
  rw [eval_ListComp]
  refine wpAny_comprehension_free (use := none) rfl hs hclos hkind hnames (wpAny_mono h (fun xv s₁ h₁ => ?_) fun _ _ e => e)
  rcases h₁ with ⟨r, a, b, d, t, u, v, n, news, rfl, hh, F, N, hr, hsm, hn, hsz, R⟩
  refine wpAny_pyIter_range hr hsm ?_
  refine block_U (Walks.range hh s₁.heap.objs.size a d n) hsz (fun i h st => ⟨_, st⟩) stepR_st hcell hkind hx (by show IsRangeIter _ _ _ _ _; rw [hn]; simpa using Heap.get?_push_size _ rfl) (fun b hb => ?_)
    (F.keeps fun _ _ e => Heap.get?_push_of_some _ e) (N.grown fun _ _ e => Heap.get?_push_of_some _ e) (Nat.ne_of_lt F.ns.lt) (next_is_new F) (fun p hp => Nat.ne_of_lt (Heap.lt_size (N p hp).1)) trivial (R _ ⟨_, rfl⟩) ?_
  · rw [List.mem_singleton.mp hb]
    show s₁.heap.objs.size < (s₁.heap.push _).objs.size
    rw [Heap.size_push]; exact Nat.lt_succ_self _
  · intro D C h tk m' ys news' F' N' o1 hn hC₀ hD₀ hCL hDL hCD offC fin
    refine ⟨m', hn, fun h'' hs'' => fin D h'' tk (F'.change hs'' hCL hC₀) (fun p hp => ?_) o1⟩
    refine ⟨hs''.extBut _ _ ?_ (N' p hp).1, (N' p hp).2⟩
    rcases List.mem_cons.mp hp with rfl | hp
    · exact Ne.symm hCD
    · exact offC p hp
end
end Mine
namespace Mine
theorem unrEnd_drop {h₀ h' : Heap} {L I : Addr} {m' : Str → Option Value} {s₁ : Shared} {it : Obj} {rest : (Str → Option Value) → List (Addr × Obj) → Prop} {tk : Nat} {p : Addr × Obj} {news' : List (Addr × Obj)}
    (F : Fr h₀ L h' m') (N : News h₀ L h' (p :: (I, it) :: news')) (off : LCg.Off1 I news') (r : rest m' news') : UnrEnd h₀ L s₁ I it rest { s₁ with heap := h', toks := tk } :=
  ⟨h', tk, m', news', rfl, F, fun q hq => N q (.tail _ hq), (by
    clear r N
    induction news' with
    | nil => intro p hp; cases hp
    | cons q l ih =>
      intro p hp
      rcases List.mem_cons.mp hp with rfl | hp
      · exact off.1
      · exact ih off.2 p hp), r⟩
end Mine

namespace Mine
theorem item_lit {prog : Program} {w : World} {A : Around} {E : Value → Shared → Prop} {s : Shared} {value slice : Expr} {l : Addr} {xs : List Value} {k : Int} {u : Tok} {x : Value} {Q : Value → Shared → Prop} (hl : s.heap.IsList l xs.toArray)
    (h0 : 0 ≤ k) (hfit : k < 2 ^ 63) (hx : xs[k.toNat]? = some x) (h : Q x s)
    (hs : subscripted slice false (.ref l) (.int k u) = operate [.ref l, .int k u] (getItem (.ref l) (.int k u)) := by with_unfolding_all rfl) (hg : ∀ r, letTemporaryGo value (.ref l) r = pure () := by intro _; with_unfolding_all rfl) :
    wpAny (model prog w) A (subscriptTail value slice (.ref l) (.int k u)) Q E s := item_list hl h0 hfit (by simpa using hx) h hs hg
end Mine
end
section -- S2
open PySem PySem.W PyProof.Rows PySem.Spec PySem.Calls
set_option maxRecDepth 100000
set_option maxHeartbeats 8000000
namespace Mine
open LCg LCt
noncomputable def SrcT (prog : Program) (w : World) (A : Around) (h₀ : Heap) (L : Addr) (m : Str → Option Value) (env : Env) (ct elt : Expr) (x : Str) (scope : Scope) (cl : List (Str × Addr)) (Fin : Shared → List Value → List (Addr × Obj) → Prop) (xv : Value) (s₁ : Shared) : Prop :=
  ∃ xt tx news, xv = .str xt tx ∧ A.handled = none ∧ Fr h₀ L s₁.heap m ∧ News h₀ L s₁.heap news ∧ xt.cps.size ≤ sizeLine ∧
    ∀ s₂ : Shared, (∃ h, s₂ = { s₁ with heap := h }) → CompRestT prog w A h₀ L m env ct elt x scope cl s₂ (fun _ => True) (SignAt xt) (Fin s₂) xt.cps.size 0 [] news
section
variable {prog : Program} {w : World} {A : Around} {E : Value → Shared → Prop} {s : Shared} {h₀ : Heap} {L : Addr} {m : Str → Option Value} {env : Env}
theorem SrcT.text {ct elt : Expr} {x : Str} {scope : Scope} {cl : List (Str × Addr)} {Fin : Shared → List Value → List (Addr × Obj) → Prop} {xt : Str} {tx : Tok} {news : List (Addr × Obj)} {s₁ : Shared}
    (hh : A.handled = none) (F : Fr h₀ L s₁.heap m) (N : News h₀ L s₁.heap news) (hsz : xt.cps.size ≤ sizeLine)
    (h : ∀ g, CompRestT prog w A h₀ L m env ct elt x scope cl { s₁ with heap := g } (fun _ => True) (SignAt xt) (Fin { s₁ with heap := g }) xt.cps.size 0 [] news) :
    SrcT prog w A h₀ L m env ct elt x scope cl Fin (.str xt tx) s₁ := ⟨xt, tx, news, rfl, hh, F, N, hsz, fun _ ⟨g, e⟩ => e ▸ h g⟩
theorem ListComp_TS {ct elt iter : Expr} {x : Str} {px : Pos} {scope : Scope} {cl : List (Str × Addr)} {pos : Pos} {Q : Value → Shared → Prop} (F₀ : Fr h₀ L s.heap m)
    (hclos : closureFor scope env = pure cl) (hcell : ∀ y ∈ scope.names, y.2 ≠ .cell) (hkind : scope.kind = .function)
    (hnames : ∀ y ∈ scope.names, y.2 = .local → scope.names.lookup y.1 = some .local) (hx : scope.names.lookup x = some .local)
    (h : wpAny (model prog w) A (eval iter env) (SrcT prog w A h₀ L m env ct elt x scope cl (fun s₂ => FinE h₀ L m s₂ Q)) E s)
    (hs : ∀ x, foldedSetIterable iter env x = pure x := by intro _; rfl) :
    wpAny (model prog w) A (eval (.ListComp elt [⟨.Name x px, iter, [ct], 0⟩] scope pos) env) Q E s := by
  rw [eval_ListComp]
  refine wpAny_comprehension_free (use := none) rfl hs hclos hkind hnames (wpAny_mono h (fun xv s₁ h₁ => ?_) fun _ _ e => e)
  rcases h₁ with ⟨xt, tx, news, rfl, hh, F, N, hsz, R⟩
  have fin : ∀ (s₂ : Shared), FinE h₀ L m s₂ Q = FinE h₀ L m s₂ Q := fun _ => rfl
  cases ha : xt.cps.all (· < 128)
  · refine wpAny_pyIter_wide ha ?_
    refine block_T (Walks.strWide hh s₁.heap.objs.size xt tx) hsz (fun i h st => by obtain ⟨o, ho, _⟩ := st; exact ⟨o, ho⟩) ?_ hcell hkind hx ⟨_, Heap.get?_push_size _ rfl, rfl, rfl⟩ (fun b hb => ?_)
      (F.keeps fun _ _ e => Heap.get?_push_of_some _ e) (N.grown fun _ _ e => Heap.get?_push_of_some _ e) (Nat.ne_of_lt F.ns.lt) (next_is_new F) (fun p hp => Nat.ne_of_lt (Heap.lt_size (N p hp).1)) trivial (R _ ⟨_, rfl⟩) ?_
    · intro i h h' o nw st e e' _ _ _
      obtain ⟨o', q, r⟩ := st
      rw [e] at q; cases q
      exact ⟨o, e', r⟩
    · rw [List.mem_singleton.mp hb]
      show s₁.heap.objs.size < (s₁.heap.push _).objs.size
      rw [Heap.size_push]; exact Nat.lt_succ_self _
    · intro D C h tk m' ys news' F' N' o1 hn hC₀ hD₀ hCL hDL hCD offC fin
      refine ⟨m', hn, fun h'' hs'' => fin D h'' tk (F'.change hs'' hCL hC₀) (fun p hp => ?_) o1⟩
      refine ⟨hs''.extBut _ _ ?_ (N' p hp).1, (N' p hp).2⟩
      rcases List.mem_cons.mp hp with rfl | hp
      · exact Ne.symm hCD
      · exact offC p hp
  · refine wpAny_pyIter_ascii ha ?_
    refine block_T (Walks.strAscii hh s₁.heap.objs.size xt tx) hsz (fun i h st => by obtain ⟨o, ho, _⟩ := st; exact ⟨o, ho⟩) ?_ hcell hkind hx ⟨_, Heap.get?_push_size _ rfl, rfl, rfl⟩ (fun b hb => ?_)
      (F.keeps fun _ _ e => Heap.get?_push_of_some _ e) (N.grown fun _ _ e => Heap.get?_push_of_some _ e) (Nat.ne_of_lt F.ns.lt) (next_is_new F) (fun p hp => Nat.ne_of_lt (Heap.lt_size (N p hp).1)) trivial (R _ ⟨_, rfl⟩) ?_
    · intro i h h' o nw st e e' _ _ _
      obtain ⟨o', q, r⟩ := st
      rw [e] at q; cases q
      exact ⟨o, e', r⟩
    · rw [List.mem_singleton.mp hb]
      show s₁.heap.objs.size < (s₁.heap.push _).objs.size
      rw [Heap.size_push]; exact Nat.lt_succ_self _
    · intro D C h tk m' ys news' F' N' o1 hn hC₀ hD₀ hCL hDL hCD offC fin
      refine ⟨m', hn, fun h'' hs'' => fin D h'' tk (F'.change hs'' hCL hC₀) (fun p hp => ?_) o1⟩
      refine ⟨hs''.extBut _ _ ?_ (N' p hp).1, (N' p hp).2⟩
      rcases List.mem_cons.mp hp with rfl | hp
      · exact Ne.symm hCD
      · exact offC p hp
/-- a comprehension by what holds between the turns -/
theorem rest_ind {elt : Expr} {x : Str} {scope : Scope} {cl : List (Str × Addr)} {S : List (Addr × Obj) → Prop} {P : Nat → Value → Prop} {Fin : List Value → List (Addr × Obj) → Prop} {n : Nat} {news : List (Addr × Obj)} (J : Nat → List Value → Prop)
    (turn : ∀ i ys v I oI C oC D m₂ h tk (E' : Value → Shared → Prop), i < n → J i ys → P i v → NsObj oC m₂ → m₂ x = some v → Fr h₀ L h m → News h₀ L h ((I, oI) :: (C, oC) :: (D, lst ys) :: news) → Off3 I C D news → ((@Ne Nat I C) ∧ (@Ne Nat I D) ∧ (@Ne Nat C D)) →
      wpAny (model prog w) A (eval elt (compEnvC scope cl C env)) (CompEnd h₀ L m { s with heap := h, toks := tk } I oI C oC D (lst ys) S (fun y news' => news' = news ∧ J (i + 1) (ys ++ [y]))) E' { s with heap := h, toks := tk })
    (fin : ∀ ys, J n ys → Fin ys news) (h0 : J 0 []) : CompRest prog w A h₀ L m env elt x scope cl s S P Fin n 0 [] news := by
  have all : ∀ k i ys, i + k = n → J i ys → CompRest prog w A h₀ L m env elt x scope cl s S P Fin k i ys news := by
    intro k
    induction k with
    | zero => intro i ys e j; exact CompRest.zero (fin ys (by rw [← e]; exact j))
    | succ k ih =>
      intro i ys e j
      refine CompRest.succ fun v I oI C oC D m₂ h tk E' hv hC hx F N off ne => ?_
      refine wpAny_mono (turn i ys v I oI C oC D m₂ h tk E' (by omega) j hv hC hx F N off ne) (fun y s' q => ?_) fun _ _ e => e
      obtain ⟨h', tk', news', e1, F', N', off', hS, rfl, j'⟩ := q
      exact ⟨h', tk', _, e1, F', N', off', hS, ih _ _ (by omega) j'⟩
  exact all n 0 [] (by omega) h0
theorem rest_indT {ct elt : Expr} {x : Str} {scope : Scope} {cl : List (Str × Addr)} {S : List (Addr × Obj) → Prop} {P : Nat → Value → Prop} {Fin : List Value → List (Addr × Obj) → Prop} {n : Nat} {news : List (Addr × Obj)} (J : Nat → List Value → Prop)
    (turn : ∀ i ys v I oI C oC D m₂ h tk (E' : Value → Shared → Prop), i < n → J i ys → P i v → NsObj oC m₂ → m₂ x = some v → Fr h₀ L h m → News h₀ L h ((I, oI) :: (C, oC) :: (D, lst ys) :: news) → Off3 I C D news → ((@Ne Nat I C) ∧ (@Ne Nat I D) ∧ (@Ne Nat C D)) →
      wpAny (model prog w) A (isTrue ct (compEnvC scope cl C env) (eval ct (compEnvC scope cl C env))) (fun ok s' => if ok = true then
        wpAny (model prog w) A (eval elt (compEnvC scope cl C env)) (CompEnd h₀ L m { s with heap := h, toks := tk } I oI C oC D (lst ys) S (fun y news' => news' = news ∧ J (i + 1) (ys ++ [y]))) E' s'
        else CompEnd h₀ L m { s with heap := h, toks := tk } I oI C oC D (lst ys) S (fun _ news' => news' = news ∧ J (i + 1) ys) Value.none s') E' { s with heap := h, toks := tk })
    (fin : ∀ ys, J n ys → Fin ys news) (h0 : J 0 []) : CompRestT prog w A h₀ L m env ct elt x scope cl s S P Fin n 0 [] news := by
  have all : ∀ k i ys, i + k = n → J i ys → CompRestT prog w A h₀ L m env ct elt x scope cl s S P Fin k i ys news := by
    intro k
    induction k with
    | zero => intro i ys e j; exact CompRestT.zero (fin ys (by rw [← e]; exact j))
    | succ k ih =>
      intro i ys e j
      refine CompRestT.succ fun v I oI C oC D m₂ h tk E' hv hC hx F N off ne => ?_
      refine wpAny_mono (turn i ys v I oI C oC D m₂ h tk E' (by omega) j hv hC hx F N off ne) (fun ok s' q => ?_) fun _ _ e => e
      cases ok with
      | true =>
        simp only [if_true] at q ⊢
        refine wpAny_mono q (fun y s' q => ?_) fun _ _ e => e
        obtain ⟨h', tk', news', e1, F', N', off', hS, rfl, j'⟩ := q
        exact ⟨h', tk', _, e1, F', N', off', hS, ih _ _ (by omega) j'⟩
      | false =>
        simp only [Bool.false_eq_true, if_false] at q ⊢
        obtain ⟨h', tk', news', e1, F', N', off', hS, rfl, j'⟩ := q
        exact ⟨h', tk', _, e1, F', N', off', hS, ih _ _ (by omega) j'⟩
  exact all n 0 [] (by omega) h0
end
end Mine
end
section -- I1
open PySem PySem.W PyProof.Rows PySem.Spec PySem.Calls
set_option maxRecDepth 100000
set_option maxHeartbeats 8000000
namespace Mine
/-- a call that may change the objects written out -/
noncomputable abbrev PM (w : World) (f : Addr) (dep : Nat) (objs : List (Addr × Obj)) (args : List Value) (P : Heap → Value → Heap → Prop) : Prop :=
  ∀ (mean : ExcName → Option Value) (mg mb : Str → Option Value) (dp un : Nat) (gd : Option (List Code)) (cn : Str) (cs : Scope) (a : Addr) (ccd : Value) (cl : List (Str × Addr)) (outer : List Env) (A₀ : Around) (base h₀ : Heap) (L : Addr) (m : Str → Option Value) (s : Shared) (R : Result → Shared → Prop),
    Below A₀ base outer h₀ → Fr h₀ L s.heap m → (kH w.params).In h₀ → Top viewT looseX mean mg mb h₀ → cs.kind = .function → dp + dep < recursionLimit → un + 8 * dep < cLine → News h₀ L s.heap objs →
    (∀ h' tk' v, GSub s.heap h' (objs.map (·.1)) → P s.heap v h' → R (.ok (.ret v)) { s with heap := h', toks := tk' }) →
    codeAny (model PySem.Challenge.rw_rl0124_01.row.prog w) (ktrTop dp un gd cn cs L a ccd cl outer) (.call (.ref f) ⟨args, []⟩) R s
structure WS where
  cnt : List Int
  b : Int
  n : Int
  nt : Int
noncomputable def WS.tab (c : WS) : WS :=
  let cn := if c.b ≥ c.cnt.length then c.cnt ++ List.replicate (c.b - c.cnt.length + 1).toNat 0 else c.cnt
  ⟨cn.set c.b.toNat (cn.getD c.b.toNat 0 + 1), 0, c.n + 1, c.nt + 1⟩
noncomputable def wsScan : WS → List Nat → WS
  | c, [] => c
  | c, k :: r => if k = 32 then wsScan ⟨c.cnt, c.b + 1, c.n + 1, c.nt⟩ r else if k = 9 then wsScan c.tab r else c
noncomputable def wsOf (l : List Nat) : WS := wsScan ⟨[], 0, 0, 0⟩ l
theorem one_eq {k c : Nat} {x : Str} (hx : x.cps = #[c]) (h : (({ cps := #[k] } : Str) == x) = true) : k = c := by
  have e := congrArg (fun y => y.cps[0]?) (eq_of_beq h)
  simpa [hx] using e
theorem one_ne {k c : Nat} {x : Str} (hx : x.cps = #[c]) (h : (({ cps := #[k] } : Str) == x) = false) : k ≠ c := by
  rintro rfl
  have : (({ cps := #[k] } : Str) == x) = true := by
    have e : x = { cps := #[k] } := by cases x; simp_all
    rw [e]; exact beq_self_eq_true _
  rw [this] at h; cases h
theorem sp_cps : (Str.ofString " ").cps = #[32] := by decide
theorem tb_cps : (Str.ofString "\t").cps = #[9] := by decide
structure WsSt where
  c : WS
  l : Addr
  ws : List Value
  k : Nat
  tb : Tok
  tn : Tok
  tt : Tok
noncomputable abbrev initPost (w : World) (raw : Str) (self d : Addr) (H : Heap) (v : Value) (h' : Heap) : Prop := v = .none ∧ ∃ q norm cnt tb vs ns, h'.get? self = some (instObj 93 d) ∧ h'.get? d = some (wsD w q raw (wsOf raw.cps.toList).n (wsOf raw.cps.toList).nt norm (decide (((wsOf raw.cps.toList).cnt.length : Int) ≤ 1))) ∧
      NewTo H h' [(norm, tupO [.ref cnt, .int (wsOf raw.cps.toList).b tb]), (cnt, tupO vs)] ∧ IntsAre vs ns ∧ ns = (wsOf raw.cps.toList).cnt
noncomputable abbrev wsV (c : WsSt) : List (Str × Value) := [(Str.ofString "count", .ref c.l), (Str.ofString "b", .int c.c.b c.tb), (Str.ofString "n", .int c.c.n c.tn), (Str.ofString "nt", .int c.c.nt c.tt)]
noncomputable abbrev wsL (self d : Addr) (od : Obj) (c : WsSt) : List (Addr × Obj) := [(c.l, W.listOf c.ws.toArray c.k), (self, instObj 93 d), (d, od)]
noncomputable abbrev wsP (raw : Str) (self d : Addr) (i : Nat) (c : WsSt) : Prop := IntsAre c.ws c.c.cnt ∧ wsOf raw.cps.toList = wsScan c.c (raw.cps.toList.drop i) ∧ 0 ≤ c.c.b ∧ c.c.b ≤ i ∧ c.c.cnt.length ≤ i + 1 ∧ @LT.lt Nat _ self c.l ∧ @LT.lt Nat _ d c.l
noncomputable abbrev wsPF (raw : Str) (self d : Addr) (c : WsSt) : Prop := IntsAre c.ws c.c.cnt ∧ wsOf raw.cps.toList = c.c ∧ c.c.cnt.length ≤ 1000001 ∧ @LT.lt Nat _ self c.l ∧ @LT.lt Nat _ d c.l
theorem init_start {w : World} {h₀ h : Heap} {L l D self d : Addr} {raw : Str} {tr t0 : Tok} {o : Obj} (N : News h₀ L h [(l, W.listOf #[] 0), (D, o), (self, instObj 93 d), (d, dictOf [⟨PyData.keyHash w.params (Str.ofString "raw"), .str (Str.ofString "raw") t0, .str raw tr⟩] 1)]) :
    ∃ od t0, od = dictOf [⟨PyData.keyHash w.params (Str.ofString "raw"), .str (Str.ofString "raw") t0, .str raw tr⟩] 1 ∧ News h₀ L h [(l, W.listOf ([] : List Value).toArray 0), (self, instObj 93 d), (d, od)] :=
  ⟨_, t0, rfl, fun p hp => N p (by
    simp only [List.mem_cons, List.not_mem_nil, or_false] at hp ⊢
    rcases hp with h | h | h <;> simp only [h, true_or, or_true])⟩
section
variable {prog : Program} {w : World} {A : Around} {E : Value → Shared → Prop} {s : Shared} {env : Env} {h₀ : Heap} {x : Str} {body : List Stmt} {Q : Flow → Shared → Prop} {σ : Type}
theorem post_genI {M : Model} {A : Around} {α : Type} {a : Sem α} {E : Value → Shared → Prop} {s : Shared} {Q : α → Shared → Prop} (h : ∀ Q' : α → Shared → Prop, (∀ v s', Q v s' → Q' v s') → wpAny M A a Q' E s) : wpAny M A a Q E s := h Q fun _ _ q => q
/-- a loop over a text whose break and whose end go on alike -/
theorem text_objsF {xt : Str} {tx : Tok} {m₀ : Str → Option Value} {news : List (Addr × Obj)} (V : σ → List (Str × Value)) (Lv : σ → List (Addr × Obj)) (P : Nat → σ → Prop) (PF : σ → Prop) (c₀ : σ)
    (hh : A.handled = none) (F : Fr h₀ env.locals s.heap m₀) (N : News h₀ env.locals s.heap news) (hs : ∀ p ∈ Lv c₀, p ∈ news) (hm : agree (V c₀) m₀) (hp : P 0 c₀) (hPF : ∀ c, P xt.cps.size c → PF c)
    (turn : (∀ c (u : Str → Option Value) h tk, PF c → Fr h₀ env.locals h (fun y => if y = x then u y else ovr (V c) m₀ y) → News h₀ env.locals h (Lv c) → Q .next { s with heap := h, toks := tk }) →
      ∀ i k t c h tk I oI, xt.cps[i]? = some k → P i c → (∀ p ∈ Lv c, p.1 ≠ I) → Fr h₀ env.locals h (fun y => if y = x then some (.str ⟨#[k]⟩ t) else ovr (V c) m₀ y) → News h₀ env.locals h ((I, oI) :: Lv c) →
      wpAny (model prog w) A (execs body env) (TurnL h₀ env.locals x (fun c => ovr (V c) m₀) Lv (P (i + 1)) I oI { s with heap := h, toks := tk } Q) E { s with heap := h, toks := tk })
    (done : ∀ c (u : Str → Option Value) h tk, PF c → Fr h₀ env.locals h (fun y => if y = x then u y else ovr (V c) m₀ y) → News h₀ env.locals h (Lv c) → Q .next { s with heap := h, toks := tk }) :
    wpAny (model prog w) A (pyIter (.str xt tx)) (fun it s₂ => LoopAtV prog w A h₀ env x body Q E it s₂) E s :=
  text_objs V Lv P c₀ hh F N hs hm hp (turn done) fun c u h tk hp F N => done c u h tk (hPF c hp) F N
end
theorem kw0_I1 : True := by
  k_with_none
  k_with "enterM" => (refine' enterM ?zM_k1 ?zM_k2 ?zM_k3 ?zM_k4 ?zM_k5 ?zM_kA ?zM_kF ?zM_kK ?zM_k6 ?zM_k7 ?zM_k8 ?zM_k9 ?zM_kB ?_ ?zM_kR ?zM_c2 ?zM_c3 ?zM_c4 ?zM_c5; (case zM_kA => exact rfl); (case zM_kF => exact rfl); (case zM_kK => assumption); (case zM_k1 => k_asm); (case zM_k2 => k_asm); (case zM_k3 => k_asm); (case zM_k4 => k_asm); (case zM_k5 => k_asm); (case zM_kR => assumption); (case zM_k6 => k_is); (case zM_k7 => k_is); (case zM_k8 => ktr_room); (case zM_k9 => exact BindsTo.of_eq rfl); (case zM_c5 => decide); (case zM_kB => exact locs rfl); (case zM_c2 => exact rfl); (case zM_c3 => exact rfl); (case zM_c4 => exact rfl); k_whole; intro g' L' h' tk' F' N' B' X' T' G' l1; (try k_lt l1); (try dsimp only); (try k_lift B'); (try k_fold))
  k_with "storeName" => (k_here; k_dflt (first | (refine storeX_Ui (by k_asm) (by k_asm) ?_ (by rfl) (by rfl); k_whole; intro _ _ _ _ _) | (refine storeX_Us (by k_asm) (by k_asm) ?_ (by rfl) (by rfl); k_whole; intro _ _ _ _ _) | (refine storeX_U (by k_asm) (by k_asm) ?_ (by rfl) (by rfl); k_whole; intro _ _ _ _)); (try k_sweep))
  k_with "storeName" => (k_here; k_dflt (first | (refine storeX_Ui (by k_asm) (by k_asm) ?_ (by rfl) (by rfl); k_whole; intro _ _ _ _ _) | (refine storeX_Us (by k_asm) (by k_asm) ?_ (by rfl) (by rfl); k_whole; intro _ _ _ _ _) | (refine storeX_U (by k_asm) (by k_asm) ?_ (by rfl) (by rfl); k_whole; intro _ _ _ _)); (try k_sweep))
  k_with "eval Constant int" => (refine int_l ?_)
  k_with "binaryOp Add int int" => (refine add_l ?_)
  k_with "binaryOp Sub int int" => (refine sub_l ?_)
  k_with "pyIter str" => ((with_reducible show wpAny _ _ (pyIter (Value.str _ _)) (fun it s₂ => LoopAtV _ _ _ _ _ _ _ _ _ it s₂) _ _); k_here; refine Held.out ?_)
  k_with "call builtin:len" => (k_here; (with_reducible show wpAny _ _ (call (Value.builtin "len") [Value.ref _]) _ _ _); refine len_listI (by k_asm) (by k_mem) (by assumption) (by omega) ?_)
  k_with "binaryOp Add ref ref" => (k_here; refine Held.out ?_)
  k_with "binaryOp Mult ref int" => (k_here; refine Held.out ?_)
  k_with "subscriptTail Name Name ref int" => (k_here; refine Held.out ?_)
  k_with "setItem ref int" => (k_here; refine Held.out ?_)
  k_with "call type:tuple" => (k_here; refine Held.out ?_)
  trivial
theorem init_c (w : World) (raw : Str) (tr : Tok) (self d : Addr) (hz : raw.cps.size ≤ 1000000) (hsd : @LT.lt Nat _ d self) :
    PM w 48 1 [(self, instObj 93 d), (d, dictOf [] 0)] [.ref self, .str raw tr] (initPost w raw self d) := by
  w_on
  dsimp only [PM]
  k_fill
  intro mean mg mb dp un gd cn cs a ccd cl outer A₀ base h₀ L m s R B F X T hk hd hu N hret
  k_dflt (walk_at "enterM")
  change Fr _ _ _ (fun y => List.lookup y [(Str.ofString "ws", .str raw tr), (Str.ofString "self", .ref self)]) at F'
  w_strict k_steps
  refine ⟨?_⟩
  trace_state
  rename_i l' h4 l2 h3 t3 h2 t2 v2 h1 t1 v1 h0 t00 v0 F0 N0
  obtain ⟨od, t0, hod, N1⟩ := init_start N0
  refine' text_objsF (σ := WsSt) wsV (wsL self d od) (wsP raw self d) (wsPF raw self d) ⟨⟨[], 0, 0, 0⟩, l', [], 0, v2, v1, v0⟩ ?hh ?F ?N ?hsub ?hm ?hp ?hPF ?turn ?done
  case hh => rfl
  case F => exact F0
  case N => exact N1
  case hsub => exact fun p hp => hp
  case hm => exact ⟨by with_unfolding_all exact rfl, by with_unfolding_all exact rfl, by with_unfolding_all exact rfl, by with_unfolding_all exact rfl, trivial⟩
  case hp => exact ⟨.nil, rfl, Int.le_refl _, Int.le_refl _, Nat.zero_le _, l2.2.1, l2.2.2⟩
  case hPF =>
    rintro c ⟨hi, hsc, _, _, hcl, hls, hld⟩
    rw [List.drop_of_length_le (by simp)] at hsc
    exact ⟨hi, hsc, Nat.le_trans hcl (Nat.succ_le_succ hz), hls, hld⟩
  case turn =>
    intro hfin i k t c h tk I oI hk hc hI F2 N2
    obtain ⟨hi, hsc, hb0, hb1, hcl, hls, hld⟩ := hc
    have hiz : i < raw.cps.size := by
      rcases Nat.lt_or_ge i raw.cps.size with h | h
      · exact h
      · rw [Array.getElem?_eq_none h] at hk; cases hk
    dsimp only [wsL] at N2
    have hdrop : raw.cps.toList.drop i = k :: raw.cps.toList.drop (i + 1) := by
      rw [← Array.getElem?_toList] at hk
      obtain ⟨hlt, he⟩ := List.getElem?_eq_some_iff.mp hk
      rw [List.drop_eq_getElem_cons hlt, he]
    rw [hdrop] at hsc
    have hI1 := neN (hI _ (.head _))
    have hI2 := neN (hI _ (.tail _ (.head _)))
    have hI3 := neN (hI _ (.tail _ (.tail _ (.head _))))
    dsimp only at hI1 hI2 hI3
    clear hod
    refine post_genI fun QT hQT => ?_
    w_strict k_steps
    · have hk32 : k = 32 := one_eq sp_cps ‹({ cps := #[k] } == Str.ofString " ") = true›
      refine' hQT _ _ (TurnL.intro (by assumption) (by assumption) ⟨⟨c.c.cnt, c.c.b + 1, c.c.n + 1, c.c.nt⟩, c.l, c.ws, c.k, ?y1, ?y2, c.tt⟩ ?hs ?hI ?hm ?hp)
      case hm => with_unfolding_all exact LikeL.upd (LikeL.upd LikeL.base)
      case hs => exact fun p hp => hp
      case hI => exact hI
      case hp =>
        refine ⟨hi, ?_, ?_, ?_, ?_, hls, hld⟩
        · rw [hsc, wsScan, if_pos hk32]
        · dsimp only; omega
        · dsimp only; omega
        · dsimp only; omega
    · have hk9 : k = 9 := one_eq tb_cps ‹({ cps := #[k] } == Str.ofString "\t") = true›
      have hk32 : k ≠ 32 := one_ne sp_cps ‹({ cps := #[k] } == Str.ofString " ") = false›
      have hge : (c.c.cnt.length : Int) ≤ c.c.b := ‹_›
      rw [wsScan, if_neg hk32, if_pos hk9] at hsc
      try dsimp only
      refine ⟨mul_listI (by assumption) (by assumption) (by k_mem) (by omega) (by omega) ?_⟩
      intro D1 h5 us5 F5 N5 l5 i5
      k_lt l5
      w_strict k_steps
      try dsimp only
      refine ⟨add_listI (by assumption) (by assumption) (by k_mem) (by k_mem) hi i5 (by simp only [List.length_replicate]; omega) ?_⟩
      intro D2 h6 us6 F6 N6 l6 i6
      k_lt l6
      have hlen : (c.c.cnt ++ List.replicate (c.c.b - ↑c.c.cnt.length + 1).toNat (0 : Int)).length = c.c.b.toNat + 1 := by
        rw [List.length_append, List.length_replicate]; omega
      have htab : c.c.tab = ⟨(c.c.cnt ++ List.replicate (c.c.b - ↑c.c.cnt.length + 1).toNat (0 : Int)).set c.c.b.toNat ((c.c.cnt ++ List.replicate (c.c.b - ↑c.c.cnt.length + 1).toNat (0 : Int)).getD c.c.b.toNat 0 + 1), 0, c.c.n + 1, c.c.nt + 1⟩ := by
        unfold WS.tab; rw [if_pos hge]
      w_strict k_steps
      try dsimp only
      refine ⟨item_listI (by assumption) (by k_mem) i6 hb0 (by omega) (by omega) ?_⟩
      intro t7
      w_strict k_steps
      try dsimp only
      refine ⟨set_listI (ns := c.c.cnt ++ List.replicate (c.c.b - ↑c.c.cnt.length + 1).toNat (0 : Int)) (keep := [(I, oI), (self, instObj 93 d), (d, od)]) (by assumption) (by assumption) (by k_mem) ?hk1 i6 hb0 (by omega) (by omega) ?_⟩
      case hk1 =>
        intro p hp
        simp only [List.mem_cons, List.not_mem_nil, or_false] at hp
        rcases hp with rfl | rfl | rfl
        · exact ⟨by k_mem, by refine neN ?_; dsimp only; omega⟩
        · exact ⟨by k_mem, by refine neN ?_; dsimp only; omega⟩
        · exact ⟨by k_mem, by refine neN ?_; dsimp only; omega⟩
      intro h8 ws8 F8 i8 N8
      w_strict k_steps
      refine' hQT _ _ (TurnL.intro (by assumption) (by assumption) ⟨c.c.tab, D2, ws8, 0, ?z1, ?u1, ?v1⟩ ?hs ?hI ?hm ?hp)
      case hm => with_unfolding_all exact LikeL.upd (LikeL.upd (LikeL.upd (LikeL.upd LikeL.base)))
      case hs =>
        intro p hp
        (try dsimp only at hp)
        simp only [List.mem_cons, List.not_mem_nil, or_false] at hp ⊢
        rcases hp with h | h | h | h <;> simp only [h, true_or, or_true]
      case hI =>
        intro p hp
        (try dsimp only at hp)
        simp only [List.mem_cons, List.not_mem_nil, or_false] at hp
        rcases hp with rfl | rfl | rfl
        all_goals (refine neN ?_; dsimp only; omega)
      case hp =>
        refine ⟨?_, hsc, ?_, ?_, ?_, l6.2.2.2.2.1, l6.2.2.2.2.2⟩
        · rw [htab]; exact i8
        · rw [htab]; exact Int.le_refl _
        · rw [htab]; dsimp only; omega
        · rw [htab]; dsimp only; rw [List.length_set, hlen]; omega
    · have hk9 : k = 9 := one_eq tb_cps ‹({ cps := #[k] } == Str.ofString "\t") = true›
      have hk32 : k ≠ 32 := one_ne sp_cps ‹({ cps := #[k] } == Str.ofString " ") = false›
      have hge : ¬ ((c.c.cnt.length : Int) ≤ c.c.b) := ‹_›
      rw [wsScan, if_neg hk32, if_pos hk9] at hsc
      have htab : c.c.tab = ⟨c.c.cnt.set c.c.b.toNat (c.c.cnt.getD c.c.b.toNat 0 + 1), 0, c.c.n + 1, c.c.nt + 1⟩ := by
        unfold WS.tab; rw [if_neg hge]
      try dsimp only
      refine ⟨item_listI (by assumption) (by k_mem) hi hb0 (by omega) (by omega) ?_⟩
      intro t7
      w_strict k_steps
      try dsimp only
      refine ⟨set_listI (ns := c.c.cnt) (keep := [(I, oI), (self, instObj 93 d), (d, od)]) (by assumption) (by assumption) (by k_mem) ?hk2 hi hb0 (by omega) (by omega) ?_⟩
      case hk2 =>
        intro p hp
        simp only [List.mem_cons, List.not_mem_nil, or_false] at hp
        rcases hp with rfl | rfl | rfl
        · exact ⟨by k_mem, by refine neN ?_; dsimp only; omega⟩
        · exact ⟨by k_mem, by refine neN ?_; dsimp only; omega⟩
        · exact ⟨by k_mem, by refine neN ?_; dsimp only; omega⟩
      intro h8 ws8 F8 i8 N8
      w_strict k_steps
      refine' hQT _ _ (TurnL.intro (by assumption) (by assumption) ⟨c.c.tab, c.l, ws8, c.k, ?z2, ?u2, ?v2⟩ ?hs ?hI ?hm ?hp)
      case hm => with_unfolding_all exact LikeL.upd (LikeL.upd (LikeL.upd LikeL.base))
      case hs =>
        intro p hp
        (try dsimp only at hp)
        simp only [List.mem_cons, List.not_mem_nil, or_false] at hp ⊢
        rcases hp with h | h | h | h <;> simp only [h, true_or, or_true]
      case hI =>
        intro p hp
        (try dsimp only at hp)
        simp only [List.mem_cons, List.not_mem_nil, or_false] at hp
        rcases hp with rfl | rfl | rfl
        all_goals (refine neN ?_; dsimp only; omega)
      case hp =>
        refine ⟨?_, hsc, ?_, ?_, ?_, hls, hld⟩
        · rw [htab]; exact i8
        · rw [htab]; exact Int.le_refl _
        · rw [htab]; dsimp only; omega
        · rw [htab]; dsimp only; rw [List.length_set]; omega
    · have hn32 : k ≠ 32 := one_ne sp_cps ‹({ cps := #[k] } == Str.ofString " ") = false›
      have hn9 : k ≠ 9 := one_ne tb_cps ‹({ cps := #[k] } == Str.ofString "\t") = false›
      rw [wsScan, if_neg hn32, if_neg hn9] at hsc
      refine hQT _ _ ?_
      dsimp only [TurnL]
      exact hfin c (fun _ => some (.str ⟨#[k]⟩ t)) _ _ ⟨hi, hsc, by omega, hls, hld⟩ (by assumption) (news_sub (by assumption) fun p hp => .tail _ hp)
  case done =>
    subst hod
    intro c u h tk hc F2 N2
    obtain ⟨hi, hsc, hcl, hls, hld⟩ := hc
    dsimp only [wsL] at N2
    w_strict k_steps
    try dsimp only
    refine ⟨tuple_listI (by assumption) (by assumption) (by k_mem) hi (by omega) ?_⟩
    intro D5 h5 F5 N5 l5
    k_lt l5
    w_strict k_steps
    rename News _ _ _ _ => N9
    rename GSub _ _ _ => G9
    rename Fr _ _ _ _ => F9
    refine endM G9 F9 ?_
    dsimp only [initPost]
    rw [hsc]
    refine ⟨rfl, ⟨_, _, _, _, _, _, _, _⟩, _, _, _, _, _, (N9 (self, _) (by k_mem)).1, (N9 (d, _) (by k_mem)).1, ⟨new_of G9 N9 (.head _) ?_, new_of G9 N9 (.tail _ (.head _)) ?_, trivial⟩, hi, rfl⟩
    all_goals
      intro p hp
      simp only [List.mem_cons, List.not_mem_nil, or_false] at hp
      rcases hp with rfl | rfl <;> (refine neN ?_; dsimp only; omega)
end Mine
end
section -- L3
open PySem PySem.W PyProof.Rows PySem.Spec PySem.Calls
set_option maxRecDepth 100000
set_option maxHeartbeats 8000000
namespace Mine
noncomputable def ovrO : List (Str × Option Value) → (Str → Option Value) → Str → Option Value
  | [], m, y => m y
  | (x, v) :: r, m, y => if y = x then v else ovrO r m y
noncomputable def agreeO : List (Str × Option Value) → (Str → Option Value) → Prop
  | [], _ => True
  | (x, v) :: r, m => m x = v ∧ agreeO r m
theorem ovrO_agree {m : Str → Option Value} : ∀ {vs : List (Str × Option Value)}, agreeO vs m → ∀ y, ovrO vs m y = m y
  | [], _, _ => rfl
  | (x, v) :: r, ⟨h1, h2⟩, y => by
    unfold ovrO
    split
    · rename_i e; rw [e]; exact h1.symm
    · exact ovrO_agree h2 y
noncomputable def setO : List (Str × Option Value) → Str → Value → List (Str × Option Value)
  | [], x, v => [(x, some v)]
  | (y, w) :: r, x, v => if x = y then (y, some v) :: r else (y, w) :: setO r x v
theorem ovrO_setO {m : Str → Option Value} {x : Str} {v : Value} : ∀ (vs : List (Str × Option Value)) (y : Str), ovrO (setO vs x v) m y = if y = x then some v else ovrO vs m y
  | [], y => rfl
  | (z, w) :: r, y => by
    unfold setO
    by_cases h : x = z
    · rw [if_pos h]; subst h
      by_cases hy : y = x
      · simp only [ovrO, if_pos hy]
      · simp only [ovrO, if_neg hy]
    · rw [if_neg h]
      by_cases hy : y = z
      · have : ¬ y = x := fun e => h (e.symm.trans hy)
        simp only [ovrO, if_pos hy, if_neg this]
      · simp only [ovrO, if_neg hy]
        exact ovrO_setO r y
abbrev LikeO (x : Str) (m' : Str → Option Value) (vs : List (Str × Option Value)) (m : Str → Option Value) : Prop := ∀ y, y ≠ x → m' y = ovrO vs m y
theorem LikeO.base {x : Str} {u : Option Value} {vs : List (Str × Option Value)} {m : Str → Option Value} : LikeO x (fun y => if y = x then u else ovrO vs m y) vs m := fun _ h => if_neg h
theorem LikeO.upd {x k : Str} {v : Value} {m' : Str → Option Value} {vs : List (Str × Option Value)} {m : Str → Option Value} (h : LikeO x m' vs m) : LikeO x (upd m' k v) (setO vs k v) m := fun y hy => by
  rw [ovrO_setO]
  show (if y = k then some v else m' y) = _
  rw [h y hy]
section
variable {prog : Program} {w : World} {A : Around} {E : Value → Shared → Prop} {s : Shared} {env : Env} {h₀ : Heap} {x : Str} {body : List Stmt} {Q : Flow → Shared → Prop} {σ : Type}
theorem range_objsO {r : Addr} {a b d : Int} {t₀ u₀ v₀ : Tok} {n : Nat} {m₀ : Str → Option Value} {news : List (Addr × Obj)} (V : σ → List (Str × Option Value)) (Lv : σ → List (Addr × Obj)) (P : Nat → σ → Prop) (c₀ : σ)
    (hh : A.handled = none) (hr : IsRange s.heap r a b d t₀ u₀ v₀) (hsmall : Builtin.Range.small a b d = true) (hn : Builtin.Range.rangeSize a b d = (n : Int)) (F : Fr h₀ env.locals s.heap m₀) (N : News h₀ env.locals s.heap news) (hs : ∀ p ∈ Lv c₀, p ∈ news) (hm : agreeO (V c₀) m₀) (hp : P 0 c₀)
    (turn : ∀ i t c h tk I oI, i < n → P i c → (∀ p ∈ Lv c, p.1 ≠ I) → Fr h₀ env.locals h (fun y => if y = x then some (.int (a + (i : Int) * d) t) else ovrO (V c) m₀ y) → News h₀ env.locals h ((I, oI) :: Lv c) →
      wpAny (model prog w) A (execs body env) (TurnL h₀ env.locals x (fun c => ovrO (V c) m₀) Lv (P (i + 1)) I oI { s with heap := h, toks := tk } Q) E { s with heap := h, toks := tk })
    (done : ∀ c (u : Str → Option Value) h tk, P n c → Fr h₀ env.locals h (fun y => if y = x then u y else ovrO (V c) m₀ y) → News h₀ env.locals h (Lv c) → Q .next { s with heap := h, toks := tk }) :
    wpAny (model prog w) A (pyIter (.ref r)) (fun it s₂ => LoopAtV prog w A h₀ env x body Q E it s₂) E s :=
  range_loop (fun c => ovrO (V c) m₀) Lv P c₀ hh hr hsmall hn F (news_sub N hs) (fun y _ => (ovrO_agree hm y).symm) hp turn done
end
end Mine
namespace Mine
theorem app_cps (a b : Str) : (a ++ b).cps.toList = a.cps.toList ++ b.cps.toList := by show (a.cps ++ b.cps).toList = _; simp
theorem app_len (a b : Str) : (a ++ b).cps.size = a.cps.size + b.cps.size := by show (a.cps ++ b.cps).size = _; simp
theorem foldl_app : ∀ (l : List (Array Nat)) (a : Array Nat), (l.foldl (· ++ ·) a).toList = a.toList ++ (l.map (·.toList)).flatten
  | [], a => by simp
  | x :: r, a => by rw [List.foldl_cons, foldl_app r]; simp
theorem dot_cps : (Str.ofString ".").cps = #[46] := by decide
theorem mul_dots {n : Int} (h : 0 ≤ n) : (Txt.mul (Str.ofString ".") n).cps.toList = List.replicate n.toNat 46 := by
  unfold Txt.mul
  split
  · have : n = 0 := by omega
    subst this; rfl
  · split
    · rename_i h1 h2
      have hl : ((Str.ofString ".").length == 0) = false := by decide
      rw [hl, Bool.or_false, beq_iff_eq] at h2
      subst h2; decide
    · rw [foldl_app, dot_cps]
      simp only [List.map_replicate]
      generalize n.toNat = k
      induction k with
      | zero => rfl
      | succ k ih => rw [List.replicate_succ, List.flatten_cons, List.replicate_succ]; simpa using ih
theorem item_cps {x : Str} {i : Int} (h0 : 0 ≤ i) (h1 : i < x.cps.size) : (Txt.item x i).cps.toList = [x.cps.toList.getD i.toNat 0] := by
  have hs : seqIndex? i x.length = some i.toNat := seqIndex_of h0 h1
  have hlt : i.toNat < x.cps.size := by omega
  unfold Txt.item Txt.charAt
  rw [hs]
  simp [hlt, List.getD_eq_getElem?_getD]
noncomputable def endL (r : Nat) : List Nat := if r = 0 then [10] else if r = 1 then [13] else [13, 10]
theorem item_end {sh : Heap} {sg : Array GenState} {sd : Drawn} {st : Nat} {so : OsState} {prog : Program} {w : World} {A : Around} {E : Value → Shared → Prop} {h₀ : Heap} {L : Addr} {news : List (Addr × Obj)} {value slice : Expr} {l : Addr} {k : Int} {u a b c : Tok} {n : Nat} {Q : Value → Shared → Prop} (N : News h₀ L sh news)
    (hm : (l, W.listOf #[.str (Str.ofString "\n") a, .str (Str.ofString "\r") b, .str (Str.ofString "\r\n") c] n) ∈ news) (h0 : 0 ≤ k) (h3 : k < 3) (h : ∀ e t, e.cps.toList = endL k.toNat → Q (.str e t) ⟨sh, sg, sd, st, so⟩)
    (hs : subscripted slice false (.ref l) (.int k u) = operate [.ref l, .int k u] (getItem (.ref l) (.int k u)) := by with_unfolding_all rfl) :
    wpAny (model prog w) A (subscriptTail value slice (.ref l) (.int k u)) Q E ⟨sh, sg, sd, st, so⟩ := by
  have h' : k = 0 ∨ k = 1 ∨ k = 2 := by omega
  rcases h' with rfl | rfl | rfl
  · exact tail_any (News.isList N hm).typeIs slot_list_getitem.lookup (wpAny_getItem_list (News.isList N hm) h0 (by omega) rfl (h _ _ (by decide))) hs
  · exact tail_any (News.isList N hm).typeIs slot_list_getitem.lookup (wpAny_getItem_list (News.isList N hm) h0 (by omega) rfl (h _ _ (by decide))) hs
  · exact tail_any (News.isList N hm).typeIs slot_list_getitem.lookup (wpAny_getItem_list (News.isList N hm) h0 (by omega) rfl (h _ _ (by decide))) hs
end Mine
namespace Mine
section
variable {prog : Program} {w : World} {A : Around} {E : Value → Shared → Prop} {s : Shared} {x y : Str} {t u : Tok} {Q : Value → Shared → Prop}
theorem add_strL {sh : Heap} {sg : Array GenState} {sd : Drawn} {st : Nat} {so : OsState} (hx : x.cps.toList.length ≤ 1000000) (hy : y.cps.toList.length ≤ 1000000) (h : ∀ z t' tk, z.cps.toList = x.cps.toList ++ y.cps.toList → Q (.str z t') ⟨sh, sg, sd, tk, so⟩) : wpAny (model prog w) A (binaryOp .Add (.str x t) (.str y u)) Q E ⟨sh, sg, sd, st, so⟩ :=
  PyProof.Rows.add_str (fun t' tk => h _ t' tk (app_cps x y)) (by
    have h2 : sizeLine = 16777216 := by decide
    rw [Array.length_toList] at hx hy
    show x.cps.size + y.cps.size ≤ sizeLine
    omega)
theorem iadd_strL {sh : Heap} {sg : Array GenState} {sd : Drawn} {st : Nat} {so : OsState} (hx : x.cps.toList.length ≤ 1000000) (hy : y.cps.toList.length ≤ 1000000) (h : ∀ z t' tk, z.cps.toList = x.cps.toList ++ y.cps.toList → Q (.str z t') ⟨sh, sg, sd, tk, so⟩) : wpAny (model prog w) A (inplaceOp .Add (.str x t) (.str y u)) Q E ⟨sh, sg, sd, st, so⟩ :=
  PyProof.Rows.iadd_str (fun t' tk => h _ t' tk (app_cps x y)) (by
    have h2 : sizeLine = 16777216 := by decide
    rw [Array.length_toList] at hx hy
    show x.cps.size + y.cps.size ≤ sizeLine
    omega)
theorem mul_strL {sh : Heap} {sg : Array GenState} {sd : Drawn} {st : Nat} {so : OsState} {n : Int} (h0 : 0 ≤ n) (h1 : n ≤ 1000) (h : ∀ z t' tk, z.cps.toList = List.replicate n.toNat 46 → Q (.str z t') ⟨sh, sg, sd, tk, so⟩) : wpAny (model prog w) A (binaryOp .Mult (.str (Str.ofString ".") t) (.int n u)) Q E ⟨sh, sg, sd, st, so⟩ :=
  SB.mul (mulOk_of 1 1000 (by decide) (by omega) (by omega) (by decide) (by decide)) fun t' k => h _ t' k (mul_dots h0)
theorem item_strL {sh : Heap} {sg : Array GenState} {sd : Drawn} {st : Nat} {so : OsState} {value slice : Expr} {i : Int} (h0 : 0 ≤ i) (h1 : i < x.cps.toList.length) (hz : i ≤ 1000000) (h : ∀ z t' tk, z.cps.toList = [x.cps.toList.getD i.toNat 0] → Q (.str z t') ⟨sh, sg, sd, tk, so⟩)
    (hs : subscripted slice false (.str x t) (.int i u) = operate [.str x t, .int i u] (getItem (.str x t) (.int i u)) := by with_unfolding_all rfl)
    (ht : ∀ r, letTemporaryGo value (.str x t) r = pure () := by intro _; with_unfolding_all rfl) :
    wpAny (model prog w) A (subscriptTail value slice (.str x t) (.int i u)) Q E ⟨sh, sg, sd, st, so⟩ := by
  rw [Array.length_toList] at h1
  have h1' : i < x.length := h1
  exact item_str (fitsSsize_of (N := 9223372036854775808) (by omega) (by omega) (Int.le_refl _)) (by omega) h1' (fun _ => h _ _ _ (item_cps h0 h1)) hs ht
end
end Mine
end
section -- C1
open PySem PySem.W PyProof.Rows PySem.Spec PySem.Calls
set_option maxRecDepth 100000
set_option maxHeartbeats 8000000
namespace Mine
noncomputable def b1Es : List (Int × Value) := match (o122 (aWorld 1).params).data with
  | .set es _ _ => es.toList
  | _ => []
noncomputable def b1List : List Int := b1Es.map (·.1)
noncomputable def inB1 (c : Nat) : Bool := b1List.contains (c : Int)
theorem b1_setOf {p : Program} {w : World} {h : Heap} (X : (kH w.params).In h) : h.SetOf (intKind p w) 122 (fun i => b1List.contains i) 27 := by
  have hall : b1Es.all (fun e => match e.2 with | .int i _ => e.1 == i && hashInt i == i | _ => false) = true := by kernel_rfl
  have each : ∀ e ∈ b1Es, ∃ t, e.2 = .int e.1 t ∧ hashInt e.1 = e.1 := by
    intro e he
    have := List.all_eq_true.mp hall e he
    split at this
    · rename_i i t h2
      simp only [Bool.and_eq_true, beq_iff_eq] at this
      exact ⟨t, by rw [h2, this.1], by rw [this.1]; exact this.2⟩
    · cases this
  refine ⟨o122 w.params, b1Es.toArray, 29, _, X 122 _ (by kernel_rfl), ⟨rfl, rfl, rfl⟩, rfl, ?_, ?_, by decide +kernel, by rfl, rfl⟩
  · intro e he
    obtain ⟨t, h1, h2⟩ := each e he
    exact ⟨⟨e.1, by rw [h1]; exact intKind_is p w _ t, h2.symm⟩, by rw [h1]; rfl⟩
  · intro k
    rw [List.contains_iff_mem]
    unfold b1List
    rw [List.mem_map]
    constructor
    · rintro ⟨e, he, rfl⟩
      obtain ⟨t, h1, h2⟩ := each e he
      exact ⟨e, he, by rw [h1]; exact intKind_is p w _ t⟩
    · rintro ⟨e, he, hk⟩
      obtain ⟨t, h1, h2⟩ := each e he
      rw [h1] at hk
      refine ⟨e, he, ?_⟩
      simpa [intKind, Value.isInt] using hk
theorem kw0_C1 : True := by
  k_with_none
  k_with "storeName" => (k_here; k_dflt (first | (refine storeX_Ui (by k_asm) (by k_asm) ?_ (by rfl) (by rfl); k_whole; intro _ _ _ _ _) | (refine storeX_Us (by k_asm) (by k_asm) ?_ (by rfl) (by rfl); k_whole; intro _ _ _ _ _) | (refine storeX_U (by k_asm) (by k_asm) ?_ (by rfl) (by rfl); k_whole; intro _ _ _ _)); (try k_sweep))
  k_with "eval Constant int" => (refine int_l ?_)
  k_with "binaryOp Add int int" => (refine add_l ?_)
  k_with "binaryOp Sub int int" => (refine sub_l ?_)
  k_with "enterP" => (refine' enterP ?zP_k1 ?zP_k2 ?zP_k3 ?zP_k5 ?zP_kA ?zP_kF ?zP_kK ?zP_k6 ?zP_k7 ?zP_k8 ?zP_k9 ?zP_kB ?_ ?zP_kR ?zP_c2 ?zP_c3 ?zP_c4 ?zP_c5; (case zP_kA => exact rfl); (case zP_kF => exact rfl); (case zP_kK => assumption); (case zP_k1 => k_asm); (case zP_k2 => k_asm); (case zP_k3 => k_asm); (case zP_k5 => k_asm); (case zP_kR => assumption); (case zP_k6 => k_is); (case zP_k7 => k_is); (case zP_k8 => ktr_room); (case zP_k9 => exact BindsTo.of_eq rfl); (case zP_c5 => decide); (case zP_kB => exact locs rfl); (case zP_c2 => exact rfl); (case zP_c3 => exact rfl); (case zP_c4 => exact rfl); k_whole; intro L' h' tk' F' N' B' X' T'; (try dsimp only); (try k_lift B'); (try k_fold))
  trivial
theorem in_b1 (w : World) (c : Nat) (tk : Tok) : PC w 132 1 (fun _ => True) [.str ⟨#[c]⟩ tk] (fun v _ => v = .bool (inB1 c)) := by
  w_on
  dsimp only [PC]
  k_fill
  intro mean mg mb dp un gd cn cs a ccd cl outer A₀ base h₀ L m s R B F X T hk hd hu _ hret
  k_dflt (walk_at "enterP")
  change Fr _ _ _ (fun y => List.lookup y [(Str.ofString "code", .str ⟨#[c]⟩ tk)]) at F'
  w_strict k_steps
  refine wpAny_inSet_of (knd := intKind _ _) (k := (c : Int)) (n := 27) (S := fun i => b1List.contains i) (intKind_is _ _ _ _) rfl (b1_setOf (Frag.In.keeps (by assumption) (Fr.keep (by assumption)))) ?_
  w_strict k_steps
  exact ⟨_, _, rfl, Fr.keep (by assumption), rfl⟩
end Mine
end
section -- C2
open PySem PySem.W PyProof.Rows PySem.Spec PySem.Calls
set_option maxRecDepth 100000
set_option maxHeartbeats 8000000
namespace Mine
noncomputable def b3Find (i : Int) : Option Value := findBy Value.isInt b3Main.toArray i
noncomputable def b3Str (i : Int) : Option Str := (b3Find i).bind fun v => match v with | .str x _ => some x | _ => none
noncomputable def mapB3 (c : Nat) : Str := (b3Str (c : Int)).getD (Txt.lower ⟨#[c]⟩)
theorem b3_list (i : Int) : b3Find i = (b3Main.find? fun e => Value.isInt i e.key).map (·.val) := by
  unfold b3Find findBy
  rw [List.find?_toArray]
theorem map_eq (c : Nat) : mapB3 c = (((b3Main.find? fun e => Value.isInt (c : Int) e.key).map (·.val)).bind fun v => match v with | .str x _ => some x | _ => none).getD (Txt.lower ⟨#[c]⟩) := by
  unfold mapB3 b3Str
  rw [b3_list]
noncomputable def entOk (e : DictEntry) : Bool := match e.key, e.val with
  | .int i _, .str _ _ => e.hash == i && hashInt i == i
  | _, _ => false
theorem b3_all : b3Main.all entOk = true := by kernel_rfl
theorem b3_mapOf {p : Program} {w : World} {h : Heap} (X : (kH w.params).In h) : h.MapOf (intKind p w) 133 b3Find := by
  refine ⟨dObj b3Main 650, b3Main.toArray, 650, X 133 _ (by kernel_rfl), ⟨rfl, rfl, rfl⟩, rfl, ?_, fun _ => rfl⟩
  intro e he
  have := List.all_eq_true.mp b3_all e (by simpa using he)
  unfold entOk at this
  split at this
  · rename_i i t x u h1 h2
    simp only [Bool.and_eq_true, beq_iff_eq] at this
    exact ⟨i, by rw [h1]; exact intKind_is p w _ t, by rw [this.1]; exact this.2.symm⟩
  · cases this
theorem b3_val {i : Int} {v : Value} (h : b3Find i = some v) : ∃ x t, v = .str x t ∧ b3Str i = some x := by
  have h0 := h
  unfold b3Find findBy at h
  rw [Option.map_eq_some_iff] at h
  obtain ⟨e, he, rfl⟩ := h
  have hm : e ∈ b3Main := by
    have := Array.mem_of_find?_eq_some he
    simpa using this
  have := List.all_eq_true.mp b3_all e hm
  unfold entOk at this
  split at this
  · rename_i i t x u h1 h2
    exact ⟨x, u, h2, by unfold b3Str; rw [h0, h2]; rfl⟩
  · cases this
theorem kw0_C2 : True := by
  k_with_none
  k_with "storeName" => (k_here; k_dflt (first | (refine storeX_Ui (by k_asm) (by k_asm) ?_ (by rfl) (by rfl); k_whole; intro _ _ _ _ _) | (refine storeX_Us (by k_asm) (by k_asm) ?_ (by rfl) (by rfl); k_whole; intro _ _ _ _ _) | (refine storeX_U (by k_asm) (by k_asm) ?_ (by rfl) (by rfl); k_whole; intro _ _ _ _)); (try k_sweep))
  k_with "eval Constant int" => (refine int_l ?_)
  k_with "binaryOp Add int int" => (refine add_l ?_)
  k_with "binaryOp Sub int int" => (refine sub_l ?_)
  k_with "enterP" => (refine' enterP ?zP_k1 ?zP_k2 ?zP_k3 ?zP_k5 ?zP_kA ?zP_kF ?zP_kK ?zP_k6 ?zP_k7 ?zP_k8 ?zP_k9 ?zP_kB ?_ ?zP_kR ?zP_c2 ?zP_c3 ?zP_c4 ?zP_c5; (case zP_kA => exact rfl); (case zP_kF => exact rfl); (case zP_kK => assumption); (case zP_k1 => k_asm); (case zP_k2 => k_asm); (case zP_k3 => k_asm); (case zP_k5 => k_asm); (case zP_kR => assumption); (case zP_k6 => k_is); (case zP_k7 => k_is); (case zP_k8 => ktr_room); (case zP_k9 => exact BindsTo.of_eq rfl); (case zP_c5 => decide); (case zP_kB => exact locs rfl); (case zP_c2 => exact rfl); (case zP_c3 => exact rfl); (case zP_c4 => exact rfl); k_whole; intro L' h' tk' F' N' B' X' T'; (try dsimp only); (try k_lift B'); (try k_fold))
  trivial
theorem map_b3 (w : World) (c : Nat) (tk : Tok) : PC w 178 1 (fun _ => True) [.str ⟨#[c]⟩ tk] (fun v _ => ∃ t, v = .str (mapB3 c) t) := by
  w_on
  dsimp only [PC]
  k_fill
  intro mean mg mb dp un gd cn cs a ccd cl outer A₀ base h₀ L m s R B F X T hk hd hu _ hret
  k_dflt (walk_at "enterP")
  change Fr _ _ _ (fun y => List.lookup y [(Str.ofString "code", .str ⟨#[c]⟩ tk)]) at F'
  w_strict k_steps
  · obtain ⟨o, es, ep, ho, hc, _⟩ := b3_mapOf (p := PySem.Challenge.rw_rl0124_01.row.prog) (Frag.In.keeps (K := kH w.params) (by assumption) (Fr.keep (by assumption)))
    refine getMethod_builtin ⟨o, ho, hc.1⟩ PySem.F.plainAttrs_dict PySem.F.slot_dict_get PySem.F.type_dict_get (fun b e => by injection e with e; subst e; exact ⟨o, ho, hc.2.1⟩) ?_
    w_strict k_steps
    show wpAny _ _ (call (.builtin "dict.get") [.ref 133, .int (c : Int) _]) _ _ _
    refine call_meetsIn PySem.F.slot_dict_get ⟨o, ho, hc.1⟩ PySem.F.entry_dict_get (PySem.F.args_dict_get_2 _ _) (meets_dict_get (intKind PySem.Challenge.rw_rl0124_01.row.prog w) 133 (k := (c : Int)) (intKind_is _ _ _ _) rfl) ⟨_, b3_mapOf (Frag.In.keeps (K := kH w.params) (by assumption) (Fr.keep (by assumption))), ?_⟩
    cases hf : b3Find (c : Int) with
    | none =>
      rw [show (none : Option Value).getD .none = .none from rfl]
      w_strict k_steps
      refine SCL.lower (by show (1 : Nat) ≤ 5592405; decide) fun _ => ?_
      w_strict k_steps
      have e : mapB3 c = Txt.lower ⟨#[c]⟩ := by unfold mapB3 b3Str; rw [hf]; rfl
      rw [← e]
      exact ⟨_, _, rfl, Fr.keep (by assumption), _, rfl⟩
    | some v =>
      obtain ⟨x, u, rfl, hx⟩ := b3_val hf
      rw [show (some (Value.str x u)).getD .none = Value.str x u from rfl]
      w_strict k_steps
      have e : mapB3 c = x := by unfold mapB3; rw [hx]; rfl
      rw [← e]
      exact ⟨_, _, rfl, Fr.keep (by assumption), _, rfl⟩
end Mine
end
section -- R1
open PySem PySem.W PyProof.Rows
set_option maxRecDepth 100000
namespace Mine
open PySem.Sre (M)
noncomputable def code1 : Array Nat := #[14, 4, 0, 1, 1, 6, 1, 16, 46, 1]
theorem runFor_done {m : M} (h : m.outcome.isSome = true) : ∀ n, M.runFor n m = m
  | 0 => rfl
  | n + 1 => by
    show (if m.outcome.isSome = true then m else M.runFor n m.step) = m
    rw [if_pos h]
theorem runFor_step {m : M} (h : m.outcome = none) (n : Nat) : M.runFor (n + 1) m = M.runFor n m.step := by
  show (if m.outcome.isSome = true then m else M.runFor n m.step) = _
  rw [h]; rfl
theorem runFor_add (b : Nat) : ∀ (a : Nat) (m : M), M.runFor (a + b) m = M.runFor b (M.runFor a m)
  | 0, m => by rw [Nat.zero_add]; rfl
  | a + 1, m => by
    cases h : m.outcome with
    | some x =>
      have h' : m.outcome.isSome = true := by rw [h]; rfl
      rw [runFor_done h', runFor_done h', runFor_done h']
    | none =>
      rw [show a + 1 + b = a + b + 1 by omega, runFor_step h, runFor_step h]
      exact runFor_add b a m.step
theorem runFor_stable {m : M} {n k : Nat} (h : (M.runFor n m).outcome.isSome = true) (hk : n ≤ k) : M.runFor k m = M.runFor n m := by
  rw [show k = n + (k - n) by omega, runFor_add]
  exact runFor_done h _
/-- n steps lead from m to m' -/
noncomputable def Steps (n : Nat) (m m' : M) : Prop := M.runFor n m = m'
theorem Steps.one {m m' : M} (h : m.outcome = none) (e : m.step = m') : Steps 1 m m' := by
  unfold Steps; rw [runFor_step h, e]; rfl
theorem Steps.trans {m m' m'' : M} {a b : Nat} (h : Steps a m m') (g : Steps b m' m'') : Steps (a + b) m m'' := by
  unfold Steps at *; rw [runFor_add, h, g]
section
variable {text : Array Nat} {lim : Nat}
noncomputable abbrev fr1 (s : Nat) (o : Bool) : Sre.Frame := { wait := .nextStart, pc := 5, pos := s, outermost := o }
noncomputable abbrev m1 (text : Array Nat) (lim st : Nat) (must : Bool) (pc pos hd : Nat) (outer : Bool) (frames : List Sre.Frame) (weight : Nat) (ans : Option Bool) (seen : Sre.Seen) (out : Option Sre.Outcome) : M :=
  { code := code1, text, lim, start := st, lastStart := lim, wholeText := false, mustAdvance := must, pc, pos, handed := hd, outermost := outer, marks := #[], lastmark := -1, lastindex := -1, loops := #[], inner := none, frames, weight, answer := ans, seen, outcome := out }
noncomputable def bol (text : Array Nat) (s : Nat) : Bool := s == 0 || text.getD (s - 1) 0 == 10
theorem at1 (s : Nat) (must outer o : Bool) (seen : Sre.Seen) : ∃ seen', (m1 text lim s must 5 s s outer [fr1 s o] 1 none seen none).step = (if bol text s = true then m1 text lim s must 7 s s outer [fr1 s o] 1 none seen' none else m1 text lim s must 5 s s outer [fr1 s o] 1 (some false) seen' none) :=
  ⟨_, rfl⟩
theorem lit1_out {s : Nat} {must outer o : Bool} {seen : Sre.Seen} (h : s ≥ lim) : ∃ seen', (m1 text lim s must 7 s s outer [fr1 s o] 1 none seen none).step = m1 text lim s must 7 s s outer [fr1 s o] 1 (some false) seen' none :=
  ⟨_, if_pos h⟩
theorem acc1 (c : Nat) (seen : Sre.Seen) : Sre.accepts code1 7 c seen = .ok (c == 46, seen) := rfl
theorem lit1_in {s : Nat} {must outer o : Bool} {seen : Sre.Seen} (h : ¬ s ≥ lim) : (m1 text lim s must 7 s s outer [fr1 s o] 1 none seen none).step = (if (text.getD s 0 == 46) = true then m1 text lim s must 9 (s + 1) s outer [fr1 s o] 1 none (seen.add 16) none else m1 text lim s must 7 s s outer [fr1 s o] 1 (some false) (seen.add 16) none) := by
  have e : (m1 text lim s must 7 s s outer [fr1 s o] 1 none seen none).step = (if s ≥ lim then m1 text lim s must 7 s s outer [fr1 s o] 1 (some false) (seen.add 16) none else
    match Sre.accepts code1 7 (text.getD s 0) (seen.add 16) with
    | .error why => (m1 text lim s must 7 s s outer [fr1 s o] 1 none (seen.add 16) none).stick why
    | .ok (false, seen) => m1 text lim s must 7 s s outer [fr1 s o] 1 (some false) seen none
    | .ok (true, seen) => m1 text lim s must 9 (s + 1) s outer [fr1 s o] 1 none seen none) := rfl
  rw [e, if_neg h, acc1]
  cases (text.getD s 0 == 46) <;> rfl
theorem suc1 (s : Nat) (must outer o : Bool) (seen : Sre.Seen) : ∃ seen', (m1 text lim s must 9 (s + 1) s outer [fr1 s o] 1 none seen none).step = m1 text lim s must 9 (s + 1) (s + 1) outer [fr1 s o] 1 (some true) seen' none := by
  have e : (outer && ((false && (s + 1) != lim) || (must && (s + 1) == s))) = false := by
    have : ((s + 1) == s) = false := by simp
    rw [this]; simp
  have e2 : (m1 text lim s must 9 (s + 1) s outer [fr1 s o] 1 none seen none).step = (if (outer && ((false && (s + 1) != lim) || (must && (s + 1) == s))) = true then m1 text lim s must 9 (s + 1) s outer [fr1 s o] 1 (some false) (seen.add 1) none else m1 text lim s must 9 (s + 1) (s + 1) outer [fr1 s o] 1 (some true) (seen.add 1) none) := rfl
  rw [e2, e]
  exact ⟨_, rfl⟩
theorem yes1 (s : Nat) (must outer o : Bool) (pc pos hd : Nat) (seen : Sre.Seen) : Steps 2 (m1 text lim s must pc pos hd outer [fr1 s o] 1 (some true) seen none) (m1 text lim s must 5 s hd o [] 0 (some true) seen (some .matched)) := rfl
theorem no1_next (s : Nat) (must outer o : Bool) (pc pos hd : Nat) (seen : Sre.Seen) (h : s < lim) : Steps 1 (m1 text lim s must pc pos hd outer [fr1 s o] 1 (some false) seen none) (m1 text lim (s + 1) false 5 (s + 1) (s + 1) false [fr1 (s + 1) false] 1 none seen none) :=
  .one rfl (by
    have e : (m1 text lim s must pc pos hd outer [fr1 s o] 1 (some false) seen none).step = (if s < lim then m1 text lim (s + 1) false 5 (s + 1) (s + 1) false [fr1 (s + 1) false] 1 none seen none else m1 text lim s must 5 s hd o [] 0 (some false) seen none) := rfl
    rw [e, if_pos h])
theorem no1_end (s : Nat) (must outer o : Bool) (pc pos hd : Nat) (seen : Sre.Seen) (h : ¬ s < lim) : Steps 2 (m1 text lim s must pc pos hd outer [fr1 s o] 1 (some false) seen none) (m1 text lim s must 5 s hd o [] 0 (some false) seen (some .failed)) :=
  Steps.trans (a := 1) (b := 1) (m' := m1 text lim s must 5 s hd o [] 0 (some false) seen none) (.one rfl (by
    have e : (m1 text lim s must pc pos hd outer [fr1 s o] 1 (some false) seen none).step = (if s < lim then m1 text lim (s + 1) false 5 (s + 1) (s + 1) false [fr1 (s + 1) false] 1 none seen none else m1 text lim s must 5 s hd o [] 0 (some false) seen none) := rfl
    rw [e, if_neg h])) (.one rfl rfl)
end
end Mine
end
section -- R2
open PySem PySem.W PyProof.Rows
set_option maxRecDepth 100000
namespace Mine
open PySem.Sre (M)
section
variable {text : Array Nat} {lim : Nat}
noncomputable def find1 (text : Array Nat) : Nat → Nat → Option Nat
  | 0, _ => none
  | k + 1, s => if (bol text s && text.getD s 0 == 46) = true then some s else find1 text k (s + 1)
noncomputable def Ended (m : M) (r : Option (Nat × Nat)) : Prop := match r with
  | some (j, e) => m.outcome = some .matched ∧ m.start = j ∧ m.handed = e
  | none => m.outcome = some .failed
theorem search1 : ∀ (k s : Nat) (must outer o : Bool) (seen : Sre.Seen), s + k = lim → ∃ n m', n ≤ 4 * k + 5 ∧ Steps n (m1 text lim s must 5 s s outer [fr1 s o] 1 none seen none) m' ∧ Ended m' ((find1 text k s).map fun j => (j, j + 1))
  | 0, s, must, outer, o, seen, hk => by
    obtain ⟨s1, e1⟩ := at1 (text := text) (lim := lim) s must outer o seen
    cases hb : bol text s with
    | true =>
      rw [hb, if_pos rfl] at e1
      obtain ⟨s2, e2⟩ := lit1_out (text := text) (lim := lim) (s := s) (must := must) (outer := outer) (o := o) (seen := s1) (by omega)
      exact ⟨_, _, by omega, Steps.trans (.one rfl e1) (Steps.trans (.one rfl e2) (no1_end s must outer o 7 s s s2 (by omega))), rfl⟩
    | false =>
      rw [hb, if_neg (by simp)] at e1
      exact ⟨_, _, by omega, Steps.trans (.one rfl e1) (no1_end s must outer o 5 s s s1 (by omega)), rfl⟩
  | k + 1, s, must, outer, o, seen, hk => by
    obtain ⟨s1, e1⟩ := at1 (text := text) (lim := lim) s must outer o seen
    have hlt : s < lim := by omega
    cases hb : bol text s with
    | true =>
      rw [hb, if_pos rfl] at e1
      have e2 := lit1_in (text := text) (lim := lim) (s := s) (must := must) (outer := outer) (o := o) (seen := s1) (by omega)
      cases hc : (text.getD s 0 == 46) with
      | true =>
        rw [hc, if_pos rfl] at e2
        obtain ⟨s3, e3⟩ := suc1 (text := text) (lim := lim) s must outer o (s1.add 16)
        refine ⟨_, _, ?_, Steps.trans (.one rfl e1) (Steps.trans (.one rfl e2) (Steps.trans (.one rfl e3) (yes1 s must outer o 9 (s + 1) (s + 1) s3))), ?_⟩
        · omega
        · unfold find1; rw [hb, hc]; exact ⟨rfl, rfl, rfl⟩
      | false =>
        rw [hc, if_neg (by simp)] at e2
        obtain ⟨n, m', hn, hs, he⟩ := search1 k (s + 1) false false false (s1.add 16) (by omega)
        refine ⟨_, m', ?_, Steps.trans (.one rfl e1) (Steps.trans (.one rfl e2) (Steps.trans (no1_next s must outer o 7 s s (s1.add 16) hlt) hs)), ?_⟩
        · omega
        · unfold find1; rw [hb, hc]; exact he
    | false =>
      rw [hb, if_neg (by simp)] at e1
      obtain ⟨n, m', hn, hs, he⟩ := search1 k (s + 1) false false false s1 (by omega)
      refine ⟨_, m', ?_, Steps.trans (.one rfl e1) (Steps.trans (no1_next s must outer o 5 s s s1 hlt) hs), ?_⟩
      · omega
      · unfold find1; rw [hb]; exact he
theorem forSearch1 (s : Nat) (must : Bool) (h : s ≤ lim) : ∃ n m', n ≤ 4 * lim + 9 ∧ Steps n (Sre.forSearch code1 text 0 s lim must) m' ∧ Ended m' ((find1 text (lim - s) s).map fun j => (j, j + 1)) := by
  by_cases hs : s = lim
  · subst hs
    have e1 : (decide (s > s) || decide (s - s < (1 : Nat))) = true := by simp
    refine ⟨1, { (Sre.forSearch code1 text 0 s s must) with outcome := some .failed }, by omega, ?_, ?_⟩
    · have e2 : Sre.forSearch code1 text 0 s s must = (if (decide (s > s) || decide (s - s < (1 : Nat))) = true then ({ code := code1, text, lim := s, start := s, pc := 5, pos := s, handed := s, marks := #[], mustAdvance := must, seen := ({} : Sre.Seen).add 14, answer := some false } : M) else m1 text s s must 5 s s true [fr1 s true] 1 none (({} : Sre.Seen).add 14) none) := rfl
      rw [e1, if_pos rfl] at e2
      rw [e2]
      rfl
    · rw [Nat.sub_self]; rfl
  · have e1 : (decide (s > lim) || decide (lim - s < (1 : Nat))) = false := by simp; omega
    have e2 : Sre.forSearch code1 text 0 s lim must = (if (decide (s > lim) || decide (lim - s < (1 : Nat))) = true then ({ code := code1, text, lim, start := s, pc := 5, pos := s, handed := s, marks := #[], mustAdvance := must, seen := ({} : Sre.Seen).add 14, answer := some false } : M) else m1 text lim s must 5 s s true [fr1 s true] 1 none (({} : Sre.Seen).add 14) none) := rfl
    rw [e1, if_neg (by simp)] at e2
    rw [e2]
    obtain ⟨n, m', hn, hst, he⟩ := search1 (text := text) (lim := lim) (lim - s) s must true true (({} : Sre.Seen).add 14) (by omega)
    exact ⟨n, m', by omega, hst, he⟩
end
end Mine
end
section -- R3
open PySem PySem.W PyProof.Rows
set_option maxRecDepth 100000
namespace Mine
open PySem.Sre (M)
noncomputable def code2 : Array Nat := #[14, 9, 4, 1, 2, 16, 10, 16, 13, 0, 7, 7, 16, 13, 16, 10, 15, 18, 5, 16, 10, 15, 13, 11, 16, 13, 5, 5, 0, 16, 10, 1, 15, 2, 0, 1]
section
variable {text : Array Nat} {lim : Nat}
noncomputable abbrev kp2 : Sre.Kept := { lastmark := -1, lastindex := -1, whole := false, marks := #[] }
noncomputable abbrev fr2 (s : Nat) (o : Bool) : Sre.Frame := { wait := .nextStart, pc := 10, pos := s, outermost := o }
noncomputable abbrev nb2 (pc s : Nat) (o : Bool) : Sre.Frame := { wait := .nextBranch, pc, pos := s, outermost := o, kept := kp2 }
noncomputable abbrev ln2 (s : Nat) (o : Bool) : Sre.Frame := { wait := .lookNot, pc := 26, pos := s, outermost := o, kept := kp2 }
noncomputable abbrev m2 (text : Array Nat) (lim st pc pos hd : Nat) (outer : Bool) (frames : List Sre.Frame) (weight : Nat) (ans : Option Bool) (seen : Sre.Seen) (out : Option Sre.Outcome) : M :=
  { code := code2, text, lim, start := st, lastStart := lim, wholeText := false, mustAdvance := false, pc, pos, handed := hd, outermost := outer, marks := #[], lastmark := -1, lastindex := -1, loops := #[], inner := none, frames, weight, answer := ans, seen, outcome := out }
/-- a literal's step -/
noncomputable def litStep (text : Array Nat) (lim st pc pos hd : Nat) (outer : Bool) (frames : List Sre.Frame) (weight : Nat) (seen : Sre.Seen) (c : Nat) : M :=
  if pos ≥ lim then m2 text lim st pc pos hd outer frames weight (some false) seen none
  else if (text.getD pos 0 == c) = true then m2 text lim st (pc + 2) (pos + 1) hd outer frames weight none seen none
  else m2 text lim st pc pos hd outer frames weight (some false) seen none
theorem litStep_of {m : M} {st pc pos hd : Nat} {outer : Bool} {frames : List Sre.Frame} {weight : Nat} {seen : Sre.Seen} {c : Nat}
    (e : m.step = (if pos ≥ lim then m2 text lim st pc pos hd outer frames weight (some false) seen none else
      match Sre.accepts code2 pc (text.getD pos 0) seen with
      | .error why => (m2 text lim st pc pos hd outer frames weight none seen none).stick why
      | .ok (false, seen) => m2 text lim st pc pos hd outer frames weight (some false) seen none
      | .ok (true, seen) => m2 text lim st (pc + 2) (pos + 1) hd outer frames weight none seen none))
    (ha : Sre.accepts code2 pc (text.getD pos 0) seen = .ok (text.getD pos 0 == c, seen)) : m.step = litStep text lim st pc pos hd outer frames weight seen c := by
  rw [e, ha]
  unfold litStep
  split
  · rfl
  · cases (text.getD pos 0 == c) <;> rfl
theorem lit12 (st pos hd : Nat) (outer : Bool) (frames : List Sre.Frame) (weight : Nat) (seen : Sre.Seen) : (m2 text lim st 12 pos hd outer frames weight none seen none).step = litStep text lim st 12 pos hd outer frames weight (seen.add 16) 13 := litStep_of rfl rfl
theorem lit14 (st pos hd : Nat) (outer : Bool) (frames : List Sre.Frame) (weight : Nat) (seen : Sre.Seen) : (m2 text lim st 14 pos hd outer frames weight none seen none).step = litStep text lim st 14 pos hd outer frames weight (seen.add 16) 10 := litStep_of rfl rfl
theorem lit19 (st pos hd : Nat) (outer : Bool) (frames : List Sre.Frame) (weight : Nat) (seen : Sre.Seen) : (m2 text lim st 19 pos hd outer frames weight none seen none).step = litStep text lim st 19 pos hd outer frames weight (seen.add 16) 10 := litStep_of rfl rfl
theorem lit24 (st pos hd : Nat) (outer : Bool) (frames : List Sre.Frame) (weight : Nat) (seen : Sre.Seen) : (m2 text lim st 24 pos hd outer frames weight none seen none).step = litStep text lim st 24 pos hd outer frames weight (seen.add 16) 13 := litStep_of rfl rfl
theorem lit29 (st pos hd : Nat) (outer : Bool) (frames : List Sre.Frame) (weight : Nat) (seen : Sre.Seen) : (m2 text lim st 29 pos hd outer frames weight none seen none).step = litStep text lim st 29 pos hd outer frames weight (seen.add 16) 10 := litStep_of rfl rfl
theorem litYes {st pc pos hd : Nat} {outer : Bool} {frames : List Sre.Frame} {weight : Nat} {seen : Sre.Seen} {c : Nat} (h : pos < lim) (hc : text.getD pos 0 = c) : litStep text lim st pc pos hd outer frames weight seen c = m2 text lim st (pc + 2) (pos + 1) hd outer frames weight none seen none := by
  unfold litStep
  rw [if_neg (by omega), if_pos (by rw [hc]; simp)]
theorem litNo {st pc pos hd : Nat} {outer : Bool} {frames : List Sre.Frame} {weight : Nat} {seen : Sre.Seen} {c : Nat} (h : ¬ (pos < lim ∧ text.getD pos 0 = c)) : litStep text lim st pc pos hd outer frames weight seen c = m2 text lim st pc pos hd outer frames weight (some false) seen none := by
  unfold litStep
  split
  · rfl
  · rw [if_neg]
    intro hc
    exact h ⟨by omega, by simpa using hc⟩
theorem br10 (st s hd : Nat) (outer : Bool) (frames : List Sre.Frame) (seen : Sre.Seen) : (m2 text lim st 10 s hd outer frames 1 none seen none).step = m2 text lim st 12 s s outer (nb2 11 s outer :: frames) 2 none (seen.add 7) none := rfl
theorem next11 (st s pc pos hd : Nat) (outer o : Bool) (frames : List Sre.Frame) (seen : Sre.Seen) : (m2 text lim st pc pos hd outer (nb2 11 s o :: frames) 2 (some false) seen none).step = m2 text lim st 19 s s o (nb2 18 s o :: frames) 2 none seen none := rfl
theorem next18 (st s pc pos hd : Nat) (outer o : Bool) (frames : List Sre.Frame) (seen : Sre.Seen) : (m2 text lim st pc pos hd outer (nb2 18 s o :: frames) 2 (some false) seen none).step = m2 text lim st 24 s s o (nb2 23 s o :: frames) 2 none seen none := rfl
theorem jump16 (st pos hd : Nat) (outer : Bool) (frames : List Sre.Frame) (w : Nat) (seen : Sre.Seen) : (m2 text lim st 16 pos hd outer frames w none seen none).step = m2 text lim st 35 pos hd outer frames w none (seen.add 15) none := rfl
theorem jump21 (st pos hd : Nat) (outer : Bool) (frames : List Sre.Frame) (w : Nat) (seen : Sre.Seen) : (m2 text lim st 21 pos hd outer frames w none seen none).step = m2 text lim st 35 pos hd outer frames w none (seen.add 15) none := rfl
theorem jump32 (st pos hd : Nat) (outer : Bool) (frames : List Sre.Frame) (w : Nat) (seen : Sre.Seen) : (m2 text lim st 32 pos hd outer frames w none seen none).step = m2 text lim st 35 pos hd outer frames w none (seen.add 15) none := rfl
theorem not26 (st pos hd : Nat) (outer : Bool) (frames : List Sre.Frame) (seen : Sre.Seen) : (m2 text lim st 26 pos hd outer frames 2 none seen none).step = m2 text lim st 29 pos pos false (ln2 pos outer :: frames) 3 none (seen.add 5) none := rfl
theorem notNo (st s pc pos hd : Nat) (outer o : Bool) (frames : List Sre.Frame) (seen : Sre.Seen) : (m2 text lim st pc pos hd outer (ln2 s o :: frames) 3 (some false) seen none).step = m2 text lim st 32 s hd o frames 2 none seen none := rfl
theorem suc35 (st pos hd : Nat) (outer : Bool) (frames : List Sre.Frame) (w : Nat) (seen : Sre.Seen) : (m2 text lim st 35 pos hd outer frames w none seen none).step = m2 text lim st 35 pos pos outer frames w (some true) (seen.add 1) none := by
  have e : (m2 text lim st 35 pos hd outer frames w none seen none).step = (if (outer && ((false && pos != lim) || (false && pos == st))) = true then m2 text lim st 35 pos hd outer frames w (some false) (seen.add 1) none else m2 text lim st 35 pos pos outer frames w (some true) (seen.add 1) none) := rfl
  rw [e, if_neg (by simp)]
theorem win2 (st s q pc pos hd b : Nat) (outer o o' : Bool) (seen : Sre.Seen) : Steps 3 (m2 text lim st pc pos hd outer [nb2 b s o, fr2 q o'] 2 (some true) seen none) (m2 text lim st 10 q hd o' [] 0 (some true) seen (some .matched)) := rfl
noncomputable def len2 (text : Array Nat) (lim s : Nat) : Nat := if text.getD s 0 = 13 ∧ s + 1 < lim ∧ text.getD (s + 1) 0 = 10 then 2 else 1
/-- at a sign that the first set lets by: a match -/
theorem match2 (s : Nat) (o : Bool) (seen : Sre.Seen) (h : s < lim) (hc : text.getD s 0 = 10 ∨ text.getD s 0 = 13) : ∃ n m', n ≤ 16 ∧ Steps n (m2 text lim s 10 s s o [fr2 s o] 1 none seen none) m' ∧ Ended m' (some (s, s + len2 text lim s)) := by
  by_cases h13 : text.getD s 0 = 13
  · by_cases h2 : s + 1 < lim ∧ text.getD (s + 1) 0 = 10
    · refine ⟨_, _, ?_, Steps.trans (.one rfl (br10 ..)) (Steps.trans (.one rfl ((lit12 ..).trans (litYes h h13))) (Steps.trans (.one rfl ((lit14 ..).trans (litYes h2.1 h2.2))) (Steps.trans (.one rfl (jump16 ..)) (Steps.trans (.one rfl (suc35 ..)) (win2 ..))))), ?_⟩
      · decide
      · refine ⟨rfl, rfl, ?_⟩
        unfold len2; rw [if_pos ⟨h13, h2⟩]
    · refine ⟨_, _, ?_, Steps.trans (.one rfl (br10 ..)) (Steps.trans (.one rfl ((lit12 ..).trans (litYes h h13))) (Steps.trans (.one rfl ((lit14 ..).trans (litNo h2))) (Steps.trans (.one rfl (next11 ..)) (Steps.trans (.one rfl ((lit19 ..).trans (litNo (by omega))))
        (Steps.trans (.one rfl (next18 ..)) (Steps.trans (.one rfl ((lit24 ..).trans (litYes h h13))) (Steps.trans (.one rfl (not26 ..)) (Steps.trans (.one rfl ((lit29 ..).trans (litNo h2))) (Steps.trans (.one rfl (notNo ..)) (Steps.trans (.one rfl (jump32 ..)) (Steps.trans (.one rfl (suc35 ..)) (win2 ..)))))))))))), ?_⟩
      · decide
      · refine ⟨rfl, rfl, ?_⟩
        unfold len2; rw [if_neg (fun q => h2 q.2)]
  · have h10 : text.getD s 0 = 10 := hc.resolve_right h13
    refine ⟨_, _, ?_, Steps.trans (.one rfl (br10 ..)) (Steps.trans (.one rfl ((lit12 ..).trans (litNo (fun q => h13 q.2)))) (Steps.trans (.one rfl (next11 ..)) (Steps.trans (.one rfl ((lit19 ..).trans (litYes h h10))) (Steps.trans (.one rfl (jump21 ..)) (Steps.trans (.one rfl (suc35 ..)) (win2 ..)))))), ?_⟩
    · decide
    · refine ⟨rfl, rfl, ?_⟩
      unfold len2; rw [if_neg (fun q => h13 q.1)]
end
end Mine
end
section -- R4
open PySem PySem.W PyProof.Rows
set_option maxRecDepth 100000
namespace Mine
open PySem.Sre (M)
section
variable {text : Array Nat} {lim : Nat}
noncomputable def eol (text : Array Nat) (s : Nat) : Bool := text.getD s 0 == 10 || text.getD s 0 == 13
noncomputable def find2 (text : Array Nat) : Nat → Nat → Option Nat
  | 0, _ => none
  | k + 1, s => if eol text s = true then some s else find2 text k (s + 1)
theorem inSet2 (c : Nat) (seen : Sre.Seen) : ∃ seen', Sre.inSet code2 c 36 5 true seen = .ok (c == 10 || c == 13, seen') := by
  have e : Sre.inSet code2 c 36 5 true seen = (if (c == 10) = true then .ok (true, seen.add 16) else if (c == 13) = true then .ok (true, (seen.add 16).add 16) else .ok (false, ((seen.add 16).add 16).add 0)) := rfl
  rw [e]
  cases h1 : (c == 10) with
  | true => exact ⟨_, rfl⟩
  | false =>
    cases h2 : (c == 13) with
    | true => exact ⟨_, rfl⟩
    | false => exact ⟨_, rfl⟩
theorem find2_spec {text : Array Nat} : ∀ {k s j : Nat}, find2 text k s = some j → s ≤ j ∧ j < s + k ∧ eol text j = true
  | 0, s, j, h => by cases h
  | k + 1, s, j, h => by
    unfold find2 at h
    split at h
    · rename_i hc
      cases h
      exact ⟨Nat.le_refl _, by omega, hc⟩
    · obtain ⟨a, b, c⟩ := find2_spec h
      exact ⟨by omega, by omega, c⟩
theorem admitted2 {m : M} (hc : m.code = code2) (ht : m.text = text) (hl : m.lim = lim) : ∀ (k s : Nat) (seen : Sre.Seen), s + k = lim → ∃ seen', M.admitted m (k + 1) s seen = .ok (find2 text k s, seen')
  | 0, s, seen, h => by
    refine ⟨seen, ?_⟩
    unfold M.admitted
    rw [if_pos (by rw [hl]; omega)]
    rfl
  | k + 1, s, seen, h => by
    unfold M.admitted
    rw [if_neg (by rw [hl]; omega), hc, ht]
    obtain ⟨s1, e1⟩ := inSet2 (text.getD s 0) seen
    have e2 : Sre.inSet code2 (text.getD s 0) code2.size 5 true seen = .ok (eol text s, s1) := e1
    rw [e2]
    unfold find2
    cases he : eol text s with
    | true => exact ⟨_, rfl⟩
    | false => exact admitted2 hc ht hl k (s + 1) s1 (by omega)
theorem forSearch2 (s : Nat) (must : Bool) (h : s ≤ lim) : ∃ n m', n ≤ 20 ∧ Steps n (Sre.forSearch code2 text 0 s lim must) m' ∧ Ended m' ((find2 text (lim - s) s).map fun j => (j, j + len2 text lim j)) := by
  by_cases hs : s = lim
  · subst hs
    have e1 : (decide (s > s) || decide (s - s < (1 : Nat))) = true := by simp
    have e2 : Sre.forSearch code2 text 0 s s must = (if (decide (s > s) || decide (s - s < (1 : Nat))) = true then ({ code := code2, text, lim := s, start := s, pc := 10, pos := s, handed := s, marks := #[], mustAdvance := must, seen := ({} : Sre.Seen).add 14, answer := some false } : M) else
        M.attemptFrom { code := code2, text, lim := s, start := s, pc := 10, pos := s, handed := s, marks := #[], mustAdvance := must, seen := ({} : Sre.Seen).add 14, lastStart := s } s true) := rfl
    rw [e1, if_pos rfl] at e2
    refine ⟨1, _, by omega, by rw [e2]; rfl, ?_⟩
    rw [Nat.sub_self]; rfl
  · have e1 : (decide (s > lim) || decide (lim - s < (1 : Nat))) = false := by simp; omega
    have e2 : Sre.forSearch code2 text 0 s lim must = (if (decide (s > lim) || decide (lim - s < (1 : Nat))) = true then ({ code := code2, text, lim, start := s, pc := 10, pos := s, handed := s, marks := #[], mustAdvance := must, seen := ({} : Sre.Seen).add 14, answer := some false } : M) else
        match M.admitted { code := code2, text, lim, start := s, pc := 10, pos := s, handed := s, marks := #[], mustAdvance := must, seen := ({} : Sre.Seen).add 14, lastStart := lim } (lim + 1 - s) s (({} : Sre.Seen).add 14) with
        | .ok (some s', seen) => m2 text lim s' 10 s' s' true [fr2 s' true] 1 none seen none
        | .ok (none, seen) => ({ code := code2, text, lim, start := s, pc := 10, pos := s, handed := s, marks := #[], mustAdvance := must, seen := seen, lastStart := lim, answer := some false } : M)
        | .error why => M.stick { code := code2, text, lim, start := s, pc := 10, pos := s, handed := s, marks := #[], mustAdvance := must, seen := ({} : Sre.Seen).add 14, lastStart := lim } why) := rfl
    rw [e1, if_neg (by simp)] at e2
    obtain ⟨s1, e3⟩ := admitted2 (text := text) (lim := lim) (m := { code := code2, text, lim, start := s, pc := 10, pos := s, handed := s, marks := #[], mustAdvance := must, seen := ({} : Sre.Seen).add 14, lastStart := lim }) rfl rfl rfl (lim - s) s (({} : Sre.Seen).add 14) (by omega)
    rw [show lim - s + 1 = lim + 1 - s by omega] at e3
    rw [e3] at e2
    rw [e2]
    cases hf : find2 text (lim - s) s with
    | none => exact ⟨1, _, by omega, rfl, rfl⟩
    | some j =>
      obtain ⟨a, b, c⟩ := find2_spec hf
      obtain ⟨n, m', hn, hst, he⟩ := match2 (text := text) (lim := lim) j true s1 (by omega) (by
        unfold eol at c
        simpa using c)
      exact ⟨n, m', by omega, hst, he⟩
end
end Mine
end
section -- R5
open PySem PySem.W PyProof.Rows
open PySem.Builtin.Re
set_option maxRecDepth 100000
namespace Mine
open PySem.Sre (M)
section
variable {prog : Program} {w : World} {A : Around} {E : Value → Shared → Prop} {s : Shared}
theorem wp_reDrive {Q : M → Shared → Prop} : ∀ (turns n : Nat) (m : M), (M.runFor n m).outcome.isSome = true → n ≤ 4 * turns → 0 < turns → Q (M.runFor n m) s → wpAny (model prog w) A (reDrive turns m) Q E s
  | 0, _, _, _, _, h0, _ => absurd h0 (Nat.lt_irrefl _)
  | turns + 1, n, m, ho, hn, _, h => by
    unfold reDrive
    dsimp only
    cases hc : (m.runFor reTurnSteps).outcome.isSome with
    | true =>
      rw [if_pos rfl]
      have : M.runFor reTurnSteps m = M.runFor n m := by
        rcases Nat.le_total n reTurnSteps with q | q
        · exact runFor_stable ho q
        · exact (runFor_stable hc q).symm
      rw [this]
      exact wpAny_pure h
    | false =>
      rw [if_neg (by simp)]
      refine wpAny_bind (wpAny_rule ?_)
      have hlt : reTurnSteps < n := by
        apply Nat.lt_of_not_le
        intro q
        rw [runFor_stable ho q, ho] at hc
        cases hc
      have h4 : reTurnSteps = 4 := rfl
      have e : M.runFor n m = M.runFor (n - 4) (m.runFor reTurnSteps) := by
        rw [h4, ← runFor_add, show 4 + (n - 4) = n by omega]
      rw [e] at ho h
      exact wp_reDrive turns (n - 4) _ ho (by omega) (by omega) h
theorem wp_rules {m : M} {Q : PUnit → Shared → Prop} (h : Q PUnit.unit s) : ∀ l : List Nat, wpAny (model prog w) A (forIn l PUnit.unit fun i _ => do
    if m.seen.has i then rule (Sre.names.getD i "")
    pure (ForInStep.yield PUnit.unit) : Sem PUnit) Q E s
  | [] => wpAny_pure h
  | i :: l => by
    rw [List.forIn_cons]
    refine wpAny_bind ?_
    dsimp only
    split
    · exact wpAny_bind (wpAny_rule (wpAny_pure (wp_rules h l)))
    · exact wpAny_pure (wp_rules h l)
theorem wp_runToEnd {Q : Option M → Shared → Prop} {m : M} {n : Nat} {m' : M} {r : Option (Nat × Nat)} (hs : Steps n m m') (hn : n ≤ 2 ^ 64) (he : Ended m' r)
    (h : ∀ m', Ended m' r → Q (r.map fun _ => m') s) : wpAny (model prog w) A (reRunToEnd m) Q E s := by
  unfold reRunToEnd
  have ho : (M.runFor n m).outcome.isSome = true := by
    rw [hs]
    unfold Ended at he
    cases r with
    | none => dsimp only at he; rw [he]; rfl
    | some q => obtain ⟨j, e⟩ := q; dsimp only at he; rw [he.1]; rfl
  refine wpAny_bind (wp_reDrive _ n m ho (by omega) (by decide) ?_)
  rw [hs]
  refine wpAny_bind (wp_rules ?_ _)
  cases r with
  | none =>
    have h1 : m'.outcome = some .failed := he
    rw [h1]
    exact wpAny_pure (h m' he)
  | some q =>
    obtain ⟨j, e⟩ := q
    have h1 : m'.outcome = some .matched := he.1
    rw [h1]
    exact wpAny_pure (h m' he)
end
end Mine
end
section -- R6
open PySem PySem.W PyProof.Rows
open PySem.Builtin.Re
set_option maxRecDepth 100000
namespace Mine
open PySem.Sre (M)
/-- a pattern's objects -/
structure PatAt (h : Heap) (pat cd : Addr) (code : Array Nat) : Prop where
  pat : ∃ o p f, h.get? pat = some o ∧ o.data = .fields #[p, f, .int 0 0, .none, .none, .ref cd, .int 0 0]
  cd : ∃ o xs n, h.get? cd = some o ∧ o.data = .seq xs n ∧ (xs.map reRawOf).map (·.toNat) = code
theorem PatAt.keep {h h' : Heap} {pat cd D : Addr} {code : Array Nat} (p : PatAt h pat cd code) (hk : Heap.SameBut D h h') (h1 : pat ≠ D) (h2 : cd ≠ D) : PatAt h' pat cd code := by
  obtain ⟨⟨o, a, b, g, d⟩, ⟨o', xs, n, g', d', e⟩⟩ := p
  exact ⟨⟨o, a, b, (hk.2 pat h1).trans g, d⟩, ⟨o', xs, n, (hk.2 cd h2).trans g', d', e⟩⟩
section
variable {prog : Program} {w : World} {A : Around} {E : Value → Shared → Prop} {s : Shared}
theorem wp_whole {pat cd : Addr} {code : Array Nat} {x : Str} {u : Tok} {Q : ReTarget → Shared → Prop} (P : PatAt s.heap pat cd code)
    (h : Q { pattern := .ref pat, string := .str x u, code, text := x.cps, kind := 0, groups := 0, pos := 0, lim := x.cps.size } s) : wpAny (model prog w) A (reWholeTarget (.ref pat) (.str x u)) Q E s := by
  obtain ⟨⟨o, a, b, g, d⟩, ⟨o', xs, n, g', d', e⟩⟩ := P
  unfold reWholeTarget
  refine wpAny_bind (wpAny_fieldsOf g d ?_)
  refine wpAny_bind (Q := _) ?_
  unfold reTextOf
  refine wpAny_bind (wpAny_pure ?_)
  refine wpAny_pure ?_
  show wpAny (model prog w) A (do
    reNoCollectionInside (.str x u) 0
    pure { pattern := .ref pat, string := .str x u, code := (← reRawItems (.ref cd)).map (·.toNat), text := x.cps, kind := 0, groups := 0, pos := 0, lim := x.cps.size }) Q E s
  refine wpAny_bind (wpAny_pure ?_)
  unfold reRawItems
  refine wpAny_bind (wpAny_bind (wpAny_seqItems g' d' (wpAny_pure ?_)))
  refine wpAny_pure ?_
  rw [← e] at h
  exact h
end
end Mine
end
section -- R7
open PySem PySem.W PyProof.Rows
open PySem.Builtin.Re
set_option maxRecDepth 100000
namespace Mine
open PySem.Sre (M)
structure Srch (code : Array Nat) (srch : Array Nat → Nat → Option (Nat × Nat)) : Prop where
  run : ∀ (text : Array Nat) (s : Nat) (must : Bool), s ≤ text.size → text.size ≤ 1000000 → ∃ n m', n ≤ 2 ^ 64 ∧ Steps n (Sre.forSearch code text 0 s text.size must) m' ∧ Ended m' (srch text s)
  fwd : ∀ (text : Array Nat) (s j e : Nat), s ≤ text.size → srch text s = some (j, e) → s ≤ j ∧ j < e ∧ e ≤ text.size
noncomputable def subL (text : Array Nat) (r : List Nat) (srch : Nat → Option (Nat × Nat)) : Nat → Nat → List Nat
  | 0, pos => (text.extract pos text.size).toList
  | k + 1, pos => match srch pos with
    | some (j, e) => (text.extract pos j).toList ++ (r ++ subL text r srch k e)
    | none => (text.extract pos text.size).toList
theorem isList_push {h : Heap} {D : Addr} {xs : Array Value} (v : Value) (x : h.IsList D xs) : (h.update D (Obj.mapSeq (·.push v))).IsList D (xs.push v) := by
  obtain ⟨o, ho, hc, n, hd⟩ := x
  obtain ⟨c, dd, dt, sl⟩ := o
  dsimp only at hc hd
  subst hc hd
  exact ⟨_, Heap.get?_update_self _ ho rfl, rfl, _, rfl⟩
noncomputable def cat (ps : List (Str × Tok)) : List Nat := (ps.map fun p => p.1.cps.toList).flatten
theorem join_cat : ∀ l : List Str, (Str.join ⟨#[]⟩ l).cps.toList = (l.map fun p => p.cps.toList).flatten
  | [] => rfl
  | [x] => by simp [Str.join]
  | x :: y :: l => by
    have e : Str.join ⟨#[]⟩ (x :: y :: l) = x ++ ⟨#[]⟩ ++ Str.join ⟨#[]⟩ (y :: l) := rfl
    rw [e, List.map_cons, List.flatten_cons, ← join_cat (y :: l)]
    simp [Str.cps_append]
section
variable {prog : Program} {w : World} {A : Around} {E : Value → Shared → Prop} {s : Shared}
theorem wp_push {D : Addr} {xs : Array Value} {v : Value} {Q : Unit → Shared → Prop} (x : s.heap.IsList D xs) (hz : xs.size ≤ 10000000) (h : ∀ h', h'.IsList D (xs.push v) → Heap.SameBut D s.heap h' → Q () { s with heap := h' }) :
    wpAny (model prog w) A (updateSeq D (·.push v)) Q E s := by
  have x' := x
  obtain ⟨o, ho, hc, n, hd⟩ := x
  refine wpAny_updateSeq ho hd (h _ (isList_push v x') (Heap.SameBut.update ..)) ?_ ?_
  · rw [sizeLine_eq]; omega
  · rw [sizeLine_eq, Array.size_push]; omega
theorem plain_loop : plainId "re.Pattern.sub.loop" = true := by decide +kernel
theorem entry_loop : entryFor table "re.Pattern.sub.loop" = some Builtin.«re.Pattern.sub.loop» := entryFor_of_tree (by kernel_rfl)
noncomputable abbrev loopArgs (pat : Addr) (x : Str) (u : Tok) (r : Str) (t : Tok) (n : Int) (pos : Nat) (must : Bool) (D : Addr) : Args :=
  ⟨[.ref pat, .str x u, .str r t, rawInt 0, rawInt 0, rawInt n, rawInt pos, rawInt pos, .bool must, .ref D, .bool false], []⟩
end
end Mine
end
section -- R8
open PySem PySem.W PyProof.Rows
open PySem.Builtin.Re
set_option maxRecDepth 100000
namespace Mine
open PySem.Sre (M)
section
variable {prog : Program} {w : World} {A : Around} {E : Value → Shared → Prop}
theorem wp_slice {text : Array Nat} {b e : Nat} {s : Shared} {Q : Value → Shared → Prop} (ht : text.size ≤ 1000000) (h : Q (.str ⟨text.extract b e⟩ s.toks) { s with toks := s.toks + 1 }) : wpAny (model prog w) A (reSlice text 0 b e) Q E s := by
  unfold reSlice
  refine wpAny_mkStr h ?_
  show (text.extract b e).size ≤ sizeLine
  rw [sizeLine_eq, Array.size_extract]; omega
theorem strValues_push (ps : List (Str × Tok)) (x : Str) (t : Tok) : (strValues ps).toArray.push (.str x t) = (strValues (ps ++ [(x, t)])).toArray := by simp [strValues]
theorem cat_snoc (ps : List (Str × Tok)) (x : Str) (t : Tok) : cat (ps ++ [(x, t)]) = cat ps ++ x.cps.toList := by simp [cat]
theorem joinOk_cat {ps : List (Str × Tok)} (h : (cat ps).length ≤ 10000000) : JoinOk ⟨#[]⟩ (ps.map (·.1)) = true := by
  unfold JoinOk
  rw [StrLaws.joinTotal]
  have e : (ps.map (·.1)).map (·.length) = ps.map fun p => p.1.cps.toList.length := by simp [Str.length]
  have e2 : (cat ps).length = (ps.map fun p => p.1.cps.toList.length).sum := by simp [cat, List.length_flatten, Function.comp_def]
  rw [e, ← e2]
  simp only [Bool.not_eq_true', Builtin.Str.tooLong, decide_eq_false_iff_not, sizeLine_eq, Str.length]
  simp
  omega
theorem tail_end {D : Addr} {text : Array Nat} {ps : List (Str × Tok)} {n : Int} {s : Shared} {Q : Value → Shared → Prop} {R : Fin → Shared → Prop} {E : Value → Shared → Prop} (ht : text.size ≤ 1000000) (L : s.heap.IsList D (strValues ps).toArray) (hl : (cat ps).length ≤ 10000000)
    (hR : ∀ v s', Q v s' → R (.done (.ret v)) s') (hq : ∀ t' k', Q (.str ⟨(cat ps).toArray⟩ t') { s with toks := k' }) :
    wpAny (model prog w) A (do
      let joiner ← reSlice text 0 0 0
      let __do_lift ← seqItems? (Value.ref D)
      if (__do_lift.getD #[]).isEmpty = true then do
          let text ← pure joiner
          if false = true then do
              let __do_lift ←
                holding [text] do
                    let __do_lift ← mkInt n
                    newTuple [text, __do_lift]
              ret __do_lift
            else ret text
        else do
          let text ← call (Value.builtin (if (0 == 0) = true then "str.join" else "bytes.join")) [joiner, Value.ref D]
          if false = true then do
              let __do_lift ←
                holding [text] do
                    let __do_lift ← mkInt n
                    newTuple [text, __do_lift]
              ret __do_lift
            else ret text : Sem Fin) R E s := by
  refine wpAny_bind (wp_slice ht ?_)
  have L' := L
  obtain ⟨o, ho, hc, nn, hd⟩ := L
  refine wpAny_bind (wpAny_seqItems (s := { s with toks := s.toks + 1 }) ho hd ?_)
  have e0 : (⟨text.extract 0 0⟩ : Str) = ⟨#[]⟩ := by simp
  rw [e0]
  cases ps with
  | nil =>
    rw [if_pos (by rfl)]
    exact wpAny_bind (wpAny_pure (wpAny_pure (hR _ _ (hq _ _))))
  | cons p ps =>
    rw [if_neg (by simp [strValues])]
    refine wpAny_bind (SC.join (s := { s with toks := s.toks + 1 }) (l := p :: ps) L' rfl (joinOk_cat hl) fun t' k' => ?_)
    refine wpAny_pure (hR _ _ ?_)
    have e1 : Txt.join ⟨#[]⟩ ((p :: ps).map (·.1)) = ⟨(cat (p :: ps)).toArray⟩ := by
      have e2 : Txt.join ⟨#[]⟩ ((p :: ps).map (·.1)) = Str.join ⟨#[]⟩ ((p :: ps).map (·.1)) := StrLaws.glued_eq_join _ _
      rw [e2]
      have := join_cat ((p :: ps).map (·.1))
      have e3 : (Str.join ⟨#[]⟩ ((p :: ps).map (·.1))).cps = (cat (p :: ps)).toArray := by
        rw [← Array.toList_inj, this]
        simp [cat, Function.comp_def]
      rw [← e3]
    rw [e1]
    exact hq t' k'
theorem sub_loop {code : Array Nat} {srch : Array Nat → Nat → Option (Nat × Nat)} (SR : Srch code srch) {pat cd D : Addr} (h1 : pat ≠ D) (h2 : cd ≠ D) {x : Str} {u : Tok} {r : Str} {t : Tok} (hx : x.cps.size ≤ 1000000) (hr : r.cps.size ≤ 4) {Q : Value → Shared → Prop} :
    ∀ (k : Nat) (s : Shared) (pos : Nat) (ps : List (Str × Tok)) (n : Int) (must : Bool), x.cps.size < pos + k → pos ≤ x.cps.size → PatAt s.heap pat cd code → s.heap.IsList D (strValues ps).toArray → ps.length ≤ 2 * pos → (cat ps).length ≤ 5 * pos →
      (∀ h' t' k', Heap.SameBut D s.heap h' → Q (.str ⟨(cat ps ++ subL x.cps r.cps.toList (srch x.cps) k pos).toArray⟩ t') { s with heap := h', toks := k' }) →
      codeAny (model prog w) A (.builtin "re.Pattern.sub.loop" (loopArgs pat x u r t n pos must D)) (wants Q E) s := by
  intro k
  induction k with
  | zero => intro s pos ps n must hk hp; omega
  | succ k ih =>
    intro s pos ps n must hk hp P L hl1 hl2 hq
    refine codeAny_builtin entry_loop ?_
    unfold Builtin.«re.Pattern.sub.loop»
    dsimp only [loopArgs, rawInt]
    refine wpAny_bind (wp_whole P ?_)
    refine wpAny_bind (Q := _) ?_
    show wpAny _ _ (reLiteralCannotBeTurned (.str r t)) _ _ _
    unfold reLiteralCannotBeTurned
    refine wpAny_bind (wpAny_pure ?_)
    refine wpAny_pure ?_
    dsimp only
    obtain ⟨nn, m', hn, hst, he⟩ := SR.run x.cps pos must hp hx
    refine wpAny_bind (Q := _) ?_
    show wpAny _ _ (reRunToEnd (Sre.forSearch code x.cps 0 pos x.cps.size must)) _ _ _
    refine wp_runToEnd hst hn he fun m' he => ?_
    cases hs : srch x.cps pos with
    | none =>
      rw [hs] at he
      dsimp only [Option.map]
      have e1 : subL x.cps r.cps.toList (srch x.cps) (k + 1) pos = (x.cps.extract pos x.cps.size).toList := by unfold subL; rw [hs]
      rw [e1] at hq
      rw [Int.toNat_natCast]
      by_cases hlt : pos < x.cps.size
      · rw [if_pos hlt]
        refine wpAny_bind (wp_slice hx ?_)
        refine wpAny_bind (wp_push (s := { s with toks := s.toks + 1 }) L (by simp [strValues]; omega) fun h' L' hsb => ?_)
        rw [strValues_push] at L'
        refine tail_end (s := { s with heap := h', toks := s.toks + 1 }) (Q := Q) hx L' ?_ (fun v s' q => q) fun t' k' => ?_
        · rw [cat_snoc, List.length_append]; simp; omega
        · rw [cat_snoc]
          exact hq h' t' k' hsb
      · rw [if_neg hlt]
        have e2 : (x.cps.extract pos x.cps.size).toList = [] := by
          have : pos = x.cps.size := by omega
          rw [this]; simp
        rw [e2, List.append_nil] at hq
        refine tail_end (Q := Q) hx L (by omega) (fun v s' q => q) fun t' k' => ?_
        exact hq s.heap t' k' (Heap.SameBut.refl ..)
    | some q =>
      obtain ⟨j, e⟩ := q
      obtain ⟨f1, f2, f3⟩ := SR.fwd x.cps pos j e hp hs
      rw [hs] at he
      obtain ⟨-, rfl, rfl⟩ := he
      dsimp only [Option.map]
      have e1 : subL x.cps r.cps.toList (srch x.cps) (k + 1) pos = (x.cps.extract pos m'.start).toList ++ (r.cps.toList ++ subL x.cps r.cps.toList (srch x.cps) k m'.handed) := by
        rw [subL, hs]
      rw [e1] at hq
      rw [Int.toNat_natCast]
      have hmust : (m'.handed == m'.start) = false := by simp; omega
      rw [hmust]
      by_cases hlt : pos < m'.start
      · rw [if_pos hlt]
        refine wpAny_bind (wp_slice hx ?_)
        refine wpAny_bind (wp_push (s := { s with toks := s.toks + 1 }) L (by simp [strValues]; omega) fun h' L' hsb => ?_)
        rw [strValues_push] at L'
        rw [if_pos (by rfl)]
        refine wpAny_bind (wpAny_pure ?_)
        rw [if_pos (by rfl)]
        refine wpAny_bind (wp_push (s := { s with heap := h', toks := s.toks + 1 }) L' (by simp [strValues]; omega) fun h'' L'' hsb' => ?_)
        rw [strValues_push] at L''
        refine wpAny_pure ⟨plainId_quiet plain_loop _, ?_⟩
        refine ih { s with heap := h'', toks := s.toks + 1 } m'.handed _ (n + 1) false (by omega) f3 ((P.keep hsb h1 h2).keep hsb' h1 h2) L'' ?_ ?_ ?_
        · simp; omega
        · rw [cat_snoc, cat_snoc]; simp; omega
        · intro h3 t' k' hsb3
          rw [cat_snoc, cat_snoc, List.append_assoc, List.append_assoc]
          exact hq h3 t' k' ((hsb.trans hsb').trans hsb3)
      · rw [if_neg hlt]
        have e2 : (x.cps.extract pos m'.start).toList = [] := by
          have : pos = m'.start := by omega
          rw [this]; simp
        rw [e2, List.nil_append] at hq
        rw [if_pos (by rfl)]
        refine wpAny_bind (wpAny_pure ?_)
        rw [if_pos (by rfl)]
        refine wpAny_bind (wp_push L (by simp [strValues]; omega) fun h'' L'' hsb' => ?_)
        rw [strValues_push] at L''
        refine wpAny_pure ⟨plainId_quiet plain_loop _, ?_⟩
        refine ih { s with heap := h'' } m'.handed _ (n + 1) false (by omega) f3 (P.keep hsb' h1 h2) L'' ?_ ?_ ?_
        · simp; omega
        · rw [cat_snoc]; simp; omega
        · intro h3 t' k' hsb3
          rw [cat_snoc, List.append_assoc]
          exact hq h3 t' k' (hsb'.trans hsb3)
end
end Mine
end
section -- R9
open PySem PySem.W PyProof.Rows
open PySem.Builtin.Re
set_option maxRecDepth 100000
namespace Mine
open PySem.Sre (M)
theorem slot_sub : Slot "re.Pattern" "sub" "re.Pattern.sub" :=
  .of (owner := "re.Pattern") (n := "sub") (by rw [typeLookup_type, builtinLookup_eq_fast]; kernel_rfl) (by decide +kernel) (by decide +kernel) (by decide +kernel)
    (by first | exact .inl (by decide +kernel) | exact .inr (by decide +kernel)) (by rw [isSubtype_type]; kernel_rfl)
theorem entry_sub : entryFor table "re.Pattern.sub" = some Builtin.«re.Pattern.sub» := entryFor_of_tree (by kernel_rfl)
theorem args_sub (a b c : Value) : argsOk "re.Pattern.sub" ⟨[a, b, c], []⟩ := by unfold argsOk; kernel_rfl
theorem named_sub (r x : Value) : reNamed "re.Pattern.sub" "sub" ["repl", "string", "count"] 2 [r, x] [] = Sem.pure [some r, some x, none] := by kernel_rfl
theorem call_none (r : Str) (t : Tok) : specialOf (.str r t) "__call__" = Sem.pure none := by kernel_rfl
section
variable {prog : Program} {w : World} {A : Around} {E : Value → Shared → Prop}
theorem call_sub {code : Array Nat} {srch : Array Nat → Nat → Option (Nat × Nat)} (SR : Srch code srch) {pat cd : Addr} {x : Str} {u : Tok} {r : Str} {t : Tok} (hx : x.cps.size ≤ 1000000) (hr : r.cps.size ≤ 4) (hr' : r.cps.contains 92 = false) {Q : Value → Shared → Prop} {s : Shared}
    (hT : s.TypeIs (.ref pat) "re.Pattern") (P : PatAt s.heap pat cd code)
    (hq : ∀ h' t' k', (∀ b o, s.heap.get? b = some o → h'.get? b = some o) → s.heap.objs.size ≤ h'.objs.size → Q (.str ⟨(subL x.cps r.cps.toList (srch x.cps) (x.cps.size + 1) 0).toArray⟩ t') { s with heap := h', toks := k' }) :
    wpAny (model prog w) A (call (.builtin "re.Pattern.sub") [.ref pat, .str r t, .str x u]) Q E s := by
  refine wpAny_call (codeAny_call_builtin slot_sub.plain entry_sub (slot_sub.check _ _ _ _ _ _ _ _ hT (args_sub _ _ _) ?_))
  unfold Builtin.«re.Pattern.sub» reSubstitute
  dsimp only
  rw [named_sub]
  refine wpAny_bind (wpAny_pure ?_)
  dsimp only
  refine wpAny_bind (wpAny_pure ?_)
  rw [call_none]
  refine wpAny_bind (wpAny_pure ?_)
  rw [if_neg (by simp)]
  refine wpAny_bind (wpAny_pure ?_)
  dsimp only
  refine wpAny_bind (wpAny_pure ?_)
  rw [if_neg (by simp), hr', if_pos (by rfl)]
  refine wpAny_bind (wpAny_pure ?_)
  refine wpAny_bind (wpAny_holding (wp_whole P ?_))
  rw [if_neg (by simp)]
  refine wpAny_bind (wpAny_newList ?_ (by simp))
  refine wpAny_pure ⟨plainId_quiet plain_loop _, ?_⟩
  have hlt : ∀ b o, s.heap.get? b = some o → b < s.heap.objs.size := fun b o e => Heap.lt_size e
  obtain ⟨⟨o, a, b, g, d⟩, ⟨o', xs, n, g', d', e⟩⟩ := P
  refine sub_loop SR (D := s.heap.objs.size) (Nat.ne_of_lt (hlt _ _ g)) (Nat.ne_of_lt (hlt _ _ g')) hx hr (x.cps.size + 1) _ 0 [] 0 false (by omega) (by omega) ⟨⟨o, a, b, Heap.get?_push_of_some _ g, d⟩, ⟨o', xs, n, Heap.get?_push_of_some _ g', d', e⟩⟩ ⟨_, Heap.get?_push_size _ rfl, rfl, _, rfl⟩ (by simp) (by simp [cat]) ?_
  intro h' t' k' hsb
  have := hq h' t' k' (fun b o e => (hsb.2 b (Nat.ne_of_lt (hlt b o e))).trans (Heap.get?_push_of_some _ e)) (by
    have h1 := hsb.1
    have h2 : (s.heap.push { cls := .type "list", data := .seq ([] : List Value).toArray }).objs.size = s.heap.objs.size + 1 := by unfold Heap.push; simp
    have h3 : h'.objs.size = s.heap.objs.size + 1 := h1.trans h2
    omega)
  exact this
end
end Mine
end
section -- R10
open PySem PySem.W PyProof.Rows
set_option maxRecDepth 100000
namespace Mine
noncomputable def srch1 (text : Array Nat) (s : Nat) : Option (Nat × Nat) := (find1 text (text.size - s) s).map fun j => (j, j + 1)
noncomputable def srch2 (text : Array Nat) (s : Nat) : Option (Nat × Nat) := (find2 text (text.size - s) s).map fun j => (j, j + len2 text text.size j)
theorem sk {j s k : Nat} (h : j < s + 1 + k) : j < s + (k + 1) := by rw [Nat.add_right_comm] at h; exact h
theorem sk' {j s k : Nat} (h : j < s + (k + 1)) : j < s + 1 + k := by rw [Nat.add_right_comm]; exact h
theorem s0 {s k : Nat} : s < s + (k + 1) := Nat.lt_add_of_pos_right (Nat.succ_pos _)
theorem stp {n p j k : Nat} (h : n < p + (k + 1)) (a : p ≤ j) : n < j + 1 + k := sk' (Nat.lt_of_lt_of_le h (Nat.add_le_add_right a (k + 1)))
theorem find1_spec {text : Array Nat} : ∀ {k s j : Nat}, find1 text k s = some j → s ≤ j ∧ j < s + k
  | 0, s, j, h => by cases h
  | k + 1, s, j, h => by
    unfold find1 at h
    split at h
    · cases h
      exact ⟨Nat.le_refl _, s0⟩
    · obtain ⟨a, b⟩ := find1_spec h
      exact ⟨Nat.le_of_succ_le a, sk b⟩
theorem sr1 : Srch code1 srch1 where
  run text s must h hz := by
    obtain ⟨n, m', hn, hs, he⟩ := forSearch1 (text := text) (lim := text.size) s must h
    exact ⟨n, m', by omega, hs, he⟩
  fwd text s j e h hs := by
    unfold srch1 at hs
    rw [Option.map_eq_some_iff] at hs
    obtain ⟨q, hq, he⟩ := hs
    obtain ⟨rfl, rfl⟩ := Prod.mk.inj he
    obtain ⟨a, b⟩ := find1_spec hq
    exact ⟨a, Nat.lt_succ_self _, Nat.lt_of_lt_of_eq b (Nat.add_sub_cancel' h)⟩
theorem sr2 : Srch code2 srch2 where
  run text s must h hz := by
    obtain ⟨n, m', hn, hs, he⟩ := forSearch2 (text := text) (lim := text.size) s must h
    exact ⟨n, m', by omega, hs, he⟩
  fwd text s j e h hs := by
    unfold srch2 at hs
    rw [Option.map_eq_some_iff] at hs
    obtain ⟨q, hq, he⟩ := hs
    obtain ⟨rfl, rfl⟩ := Prod.mk.inj he
    obtain ⟨a, b, -⟩ := find2_spec hq
    unfold len2
    split
    · rename_i hc
      exact ⟨a, Nat.lt_add_of_pos_right (Nat.succ_pos _), hc.2.1⟩
    · exact ⟨a, Nat.lt_succ_self _, Nat.lt_of_lt_of_eq b (Nat.add_sub_cancel' h)⟩
/-- what the line ends' sub gives; the bool: a carriage return stands before -/
noncomputable def crlf : Bool → List Nat → List Nat
  | _, [] => []
  | b, c :: r => if c = 13 then 13 :: 10 :: crlf true r else if c = 10 then (if b = true then crlf false r else 13 :: 10 :: crlf false r) else c :: crlf false r
/-- what the dots' sub gives -/
noncomputable def dots : Bool → List Nat → List Nat
  | _, [] => []
  | b, c :: r => if b = true ∧ c = 46 then 46 :: 46 :: dots false r else c :: dots (c == 10) r
theorem extract_cons {text : Array Nat} {s e : Nat} (h : s < text.size) (he : s < e) : (text.extract s e).toList = text.getD s 0 :: (text.extract (s + 1) e).toList := by
  obtain ⟨l⟩ := text
  simp only [List.size_toArray] at h
  simp only [List.extract_toArray, List.extract_eq_take_drop]
  rw [List.drop_eq_getElem_cons h, show e - s = (e - (s + 1)) + 1 from (Nat.succ_pred_eq_of_pos (Nat.sub_pos_of_lt he)).symm, List.take_succ_cons]
  simp [Array.getD, h]
theorem extract_nil {text : Array Nat} {s e : Nat} (h : e ≤ s) : (text.extract s e).toList = [] := by
  obtain ⟨l⟩ := text
  simp only [List.extract_toArray, List.extract_eq_take_drop]
  rw [Nat.sub_eq_zero_of_le h]; simp
theorem extract_split {text : Array Nat} {s j e : Nat} (h1 : s ≤ j) (h2 : j ≤ e) : (text.extract s e).toList = (text.extract s j).toList ++ (text.extract j e).toList := by
  obtain ⟨l⟩ := text
  simp only [List.extract_toArray, List.extract_eq_take_drop]
  have : l.drop j = (l.drop s).drop (j - s) := by rw [List.drop_drop, Nat.add_sub_cancel' h1]
  rw [this, show e - s = (j - s) + (e - j) by rw [Nat.add_comm, Nat.sub_add_sub_cancel h2 h1], List.take_add]
theorem crlf_no {text : Array Nat} : ∀ {k s : Nat} {rest : List Nat}, s + k ≤ text.size → (∀ i, s ≤ i → i < s + k → eol text i = false) → crlf false ((text.extract s (s + k)).toList ++ rest) = (text.extract s (s + k)).toList ++ crlf false rest
  | 0, s, rest, _, _ => by rw [extract_nil (s := s) (e := s + 0) (Nat.le_refl _)]; rfl
  | k + 1, s, rest, hk, h => by
    have h0 := h s (Nat.le_refl _) s0
    unfold eol at h0
    simp only [Bool.or_eq_false_iff, beq_eq_false_iff_ne, ne_eq] at h0
    rw [extract_cons (Nat.lt_of_lt_of_le s0 hk) s0, List.cons_append, crlf, if_neg h0.2, if_neg h0.1, List.cons_append]
    rw [show s + (k + 1) = s + 1 + k from (Nat.add_right_comm s 1 k).symm] at h hk ⊢
    rw [crlf_no hk fun i h1 h2 => h i (Nat.le_of_succ_le h1) h2]
theorem find2_none {text : Array Nat} : ∀ {k s : Nat}, find2 text k s = none → ∀ i, s ≤ i → i < s + k → eol text i = false
  | 0, s, _, i, h1, h2 => (Nat.not_lt.mpr h1 h2).elim
  | k + 1, s, h, i, h1, h2 => by
    unfold find2 at h
    split at h
    · cases h
    · rename_i hc
      rcases Nat.eq_or_lt_of_le h1 with rfl | h1
      · simpa using hc
      · exact find2_none h i h1 (sk' h2)
theorem find2_before {text : Array Nat} : ∀ {k s j : Nat}, find2 text k s = some j → ∀ i, s ≤ i → i < j → eol text i = false
  | 0, s, j, h, _, _, _ => by cases h
  | k + 1, s, j, h, i, h1, h2 => by
    unfold find2 at h
    split at h
    · cases h; exact (Nat.not_lt.mpr h1 h2).elim
    · rename_i hc
      rcases Nat.eq_or_lt_of_le h1 with rfl | h1
      · simpa using hc
      · exact find2_before h i h1 h2
theorem sub2_eq (text : Array Nat) : ∀ (k pos : Nat), text.size < pos + k → pos ≤ text.size → subL text [13, 10] (srch2 text) k pos = crlf false (text.extract pos text.size).toList
  | 0, pos, h, h' => (Nat.not_lt.mpr h' h).elim
  | k + 1, pos, h, h' => by
    rw [subL]
    unfold srch2
    cases hf : find2 text (text.size - pos) pos with
    | none =>
      dsimp only [Option.map]
      have := crlf_no (text := text) (k := text.size - pos) (s := pos) (rest := []) (Nat.le_of_eq (Nat.add_sub_cancel' h')) (find2_none hf)
      rw [Nat.add_sub_cancel' h', List.append_nil] at this
      rw [this]; simp [crlf]
    | some j =>
      dsimp only [Option.map]
      obtain ⟨a, b, c⟩ := find2_spec hf
      have hj : j < text.size := Nat.lt_of_lt_of_eq b (Nat.add_sub_cancel' h')
      have hno := find2_before hf
      rw [extract_split a (Nat.le_of_lt hj)]
      have := crlf_no (text := text) (k := j - pos) (s := pos) (rest := (text.extract j text.size).toList) (Nat.le_trans (Nat.le_of_eq (Nat.add_sub_cancel' a)) (Nat.le_of_lt hj)) (fun i h1 h2 => hno i h1 (Nat.lt_of_lt_of_eq h2 (Nat.add_sub_cancel' a)))
      rw [Nat.add_sub_cancel' a] at this
      rw [this, extract_cons hj hj]
      congr 1
      unfold eol at c
      unfold len2
      by_cases h13 : text.getD j 0 = 13
      · rw [h13, crlf, if_pos rfl]
        by_cases h2 : j + 1 < text.size ∧ text.getD (j + 1) 0 = 10
        · rw [if_pos ⟨rfl, h2⟩, extract_cons h2.1 h2.1, h2.2, crlf, if_neg (by decide), if_pos rfl, if_pos rfl]
          show 13 :: 10 :: subL text [13, 10] (srch2 text) k (j + 2) = _
          rw [sub2_eq text k (j + 2) (Nat.lt_of_lt_of_le (stp h a) (Nat.add_le_add_right (Nat.le_succ _) k)) h2.1]
        · rw [if_neg (fun q => h2 q.2)]
          show 13 :: 10 :: subL text [13, 10] (srch2 text) k (j + 1) = _
          rw [sub2_eq text k (j + 1) (stp h a) hj]
          congr 2
          by_cases h3 : j + 1 < text.size
          · rw [extract_cons h3 h3]
            have h10 : text.getD (j + 1) 0 ≠ 10 := fun q => h2 ⟨h3, q⟩
            rw [crlf, crlf]
            simp only [h10, if_false]
          · rw [extract_nil (Nat.le_of_not_lt h3)]; rfl
      · have h10 : text.getD j 0 = 10 := by
          simp only [Bool.or_eq_true, beq_iff_eq] at c
          exact c.resolve_right h13
        rw [h10, if_neg (by simp), crlf, if_neg (by decide), if_pos rfl, if_neg (by simp)]
        show 13 :: 10 :: subL text [13, 10] (srch2 text) k (j + 1) = _
        rw [sub2_eq text k (j + 1) (stp h a) hj]
theorem dots_no {text : Array Nat} : ∀ {k s : Nat} {rest : List Nat}, s + k ≤ text.size → (∀ i, s ≤ i → i < s + k → (bol text i && text.getD i 0 == 46) = false) → dots (bol text s) ((text.extract s (s + k)).toList ++ rest) = (text.extract s (s + k)).toList ++ dots (bol text (s + k)) rest
  | 0, s, rest, _, _ => by rw [extract_nil (s := s) (e := s + 0) (Nat.le_refl _)]; rfl
  | k + 1, s, rest, hk, h => by
    have h0 := h s (Nat.le_refl _) s0
    have hb : (text.getD s 0 == 10) = bol text (s + 1) := by unfold bol; simp
    rw [extract_cons (Nat.lt_of_lt_of_le s0 hk) s0, List.cons_append, dots, if_neg (by
      intro q
      rw [q.1, q.2] at h0
      simp at h0), List.cons_append, hb]
    rw [show s + (k + 1) = s + 1 + k from (Nat.add_right_comm s 1 k).symm] at h hk ⊢
    rw [dots_no hk fun i h1 h2 => h i (Nat.le_of_succ_le h1) h2]
theorem find1_none {text : Array Nat} : ∀ {k s : Nat}, find1 text k s = none → ∀ i, s ≤ i → i < s + k → (bol text i && text.getD i 0 == 46) = false
  | 0, s, _, i, h1, h2 => (Nat.not_lt.mpr h1 h2).elim
  | k + 1, s, h, i, h1, h2 => by
    unfold find1 at h
    split at h
    · cases h
    · rename_i hc
      rcases Nat.eq_or_lt_of_le h1 with rfl | h1
      · simpa using hc
      · exact find1_none h i h1 (sk' h2)
theorem find1_before {text : Array Nat} : ∀ {k s j : Nat}, find1 text k s = some j → (∀ i, s ≤ i → i < j → (bol text i && text.getD i 0 == 46) = false) ∧ (bol text j && text.getD j 0 == 46) = true
  | 0, s, j, h => by cases h
  | k + 1, s, j, h => by
    unfold find1 at h
    split at h
    · rename_i hc
      cases h
      exact ⟨fun i h1 h2 => (Nat.not_lt.mpr h1 h2).elim, hc⟩
    · rename_i hc
      obtain ⟨a, b⟩ := find1_before h
      refine ⟨fun i h1 h2 => ?_, b⟩
      rcases Nat.eq_or_lt_of_le h1 with rfl | h1
      · simpa using hc
      · exact a i h1 h2
theorem sub1_eq (text : Array Nat) : ∀ (k pos : Nat), text.size < pos + k → pos ≤ text.size → subL text [46, 46] (srch1 text) k pos = dots (bol text pos) (text.extract pos text.size).toList
  | 0, pos, h, h' => (Nat.not_lt.mpr h' h).elim
  | k + 1, pos, h, h' => by
    rw [subL]
    unfold srch1
    cases hf : find1 text (text.size - pos) pos with
    | none =>
      dsimp only [Option.map]
      have := dots_no (text := text) (k := text.size - pos) (s := pos) (rest := []) (Nat.le_of_eq (Nat.add_sub_cancel' h')) (find1_none hf)
      rw [Nat.add_sub_cancel' h', List.append_nil] at this
      rw [this]; simp [dots]
    | some j =>
      dsimp only [Option.map]
      obtain ⟨a, b⟩ := find1_spec hf
      have hj : j < text.size := Nat.lt_of_lt_of_eq b (Nat.add_sub_cancel' h')
      obtain ⟨hno, hyes⟩ := find1_before hf
      simp only [Bool.and_eq_true, beq_iff_eq] at hyes
      rw [extract_split a (Nat.le_of_lt hj)]
      have := dots_no (text := text) (k := j - pos) (s := pos) (rest := (text.extract j text.size).toList) (Nat.le_trans (Nat.le_of_eq (Nat.add_sub_cancel' a)) (Nat.le_of_lt hj)) (fun i h1 h2 => hno i h1 (Nat.lt_of_lt_of_eq h2 (Nat.add_sub_cancel' a)))
      rw [Nat.add_sub_cancel' a] at this
      rw [this, extract_cons hj hj, hyes.2, dots, if_pos ⟨hyes.1, rfl⟩]
      show _ ++ 46 :: 46 :: subL text [46, 46] (srch1 text) k (j + 1) = _
      rw [sub1_eq text k (j + 1) (stp h a) hj]
      have hb : bol text (j + 1) = false := by unfold bol; rw [Nat.add_sub_cancel, hyes.2]; simp
      rw [hb]
end Mine
end
section -- C3
open PySem PySem.W PyProof.Rows PySem.Spec PySem.Calls
set_option maxRecDepth 100000
set_option maxHeartbeats 8000000
namespace Mine
theorem plainAttrs_pat : PlainAttrs "re.Pattern" :=
  ⟨⟨"object.__getattribute__", by rw [typeLookup_type, builtinLookup_eq_fast]; kernel_rfl, by decide +kernel⟩, by rw [typeLookup_type, builtinLookup_eq_fast]; kernel_rfl⟩
theorem type_sub : typeOf (.builtin "re.Pattern.sub") = pure (.type "method_descriptor") := by show builtinType _ = _; rw [builtinType_eq_fast]; kernel_rfl
theorem pat1_at {w : World} {h : Heap} (X : (kH w.params).In h) : h.get? 102 = some (o102 w.params) ∧ PatAt h 102 101 code1 :=
  have a := X 102 (o102 w.params) (by kernel_rfl)
  ⟨a, ⟨_, _, _, a, rfl⟩, ⟨_, _, _, X 101 (o101 w.params) (by kernel_rfl), rfl, by kernel_rfl⟩⟩
theorem pat2_at {w : World} {h : Heap} (X : (kH w.params).In h) : h.get? 107 = some (o107 w.params) ∧ PatAt h 107 106 code2 :=
  have a := X 107 (o107 w.params) (by kernel_rfl)
  ⟨a, ⟨_, _, _, a, rfl⟩, ⟨_, _, _, X 106 (o106 w.params) (by kernel_rfl), rfl, by kernel_rfl⟩⟩
noncomputable def quoteL (l : List Nat) : List Nat := dots true (crlf false l)
noncomputable def quoteS (x : Str) : Str := ⟨(quoteL x.cps.toList).toArray⟩
theorem crlf_len : ∀ (b : Bool) (l : List Nat), (crlf b l).length ≤ 2 * l.length
  | _, [] => Nat.le_refl _
  | b, c :: r => by
    have h1 := crlf_len true r
    have h2 := crlf_len false r
    rw [crlf]
    split
    · simp only [List.length_cons]; omega
    · split
      · split
        · simp only [List.length_cons]; omega
        · simp only [List.length_cons]; omega
      · simp only [List.length_cons]; omega
section
variable {w : World} {A : Around} {E : Value → Shared → Prop} {s : Shared} {g : Heap} {L : Addr} {m : Str → Option Value} {news : List (Addr × Obj)}
theorem getM1 {pl : Sem Bool} {Q : Value × List Value → Shared → Prop} (X : (kH w.params).In g) (F : Fr g L s.heap m) (h : Q (.builtin "re.Pattern.sub", [.ref 102]) s) : wpAny (model PySem.Challenge.rw_rl0124_01.row.prog w) A (getMethod (.ref 102) (Str.ofString "sub") pl) Q E s := by
  have p1 := pat1_at (Frag.In.keeps X F.keep)
  exact getMethod_builtin ⟨_, p1.1, rfl⟩ plainAttrs_pat slot_sub type_sub (fun b e => by injection e with e; subst e; exact ⟨_, p1.1, rfl⟩) h
theorem getM2 {pl : Sem Bool} {Q : Value × List Value → Shared → Prop} (X : (kH w.params).In g) (F : Fr g L s.heap m) (h : Q (.builtin "re.Pattern.sub", [.ref 107]) s) : wpAny (model PySem.Challenge.rw_rl0124_01.row.prog w) A (getMethod (.ref 107) (Str.ofString "sub") pl) Q E s := by
  have p1 := pat2_at (Frag.In.keeps X F.keep)
  exact getMethod_builtin ⟨_, p1.1, rfl⟩ plainAttrs_pat slot_sub type_sub (fun b e => by injection e with e; subst e; exact ⟨_, p1.1, rfl⟩) h
theorem callS1 {x : Str} {u t : Tok} {Q : Value → Shared → Prop} (X : (kH w.params).In g) (F : Fr g L s.heap m) (N : News g L s.heap news) (hx : x.cps.size ≤ 1000000)
    (h : ∀ h' t' k', Fr g L h' m → News g L h' news → Q (.str ⟨(dots true x.cps.toList).toArray⟩ t') { s with heap := h', toks := k' }) :
    wpAny (model PySem.Challenge.rw_rl0124_01.row.prog w) A (call (.builtin "re.Pattern.sub") ((Value.builtin "re.Pattern.sub", [Value.ref 102]).snd ++ [.str (Str.ofString "..") t, .str x u])) Q E s := by
  have p1 := pat1_at (Frag.In.keeps X F.keep)
  refine call_sub sr1 (r := Str.ofString "..") hx (by decide +kernel) (by decide +kernel) ⟨_, p1.1, rfl⟩ p1.2 fun h' t' k' hk _ => ?_
  have e := sub1_eq x.cps (x.cps.size + 1) 0 (by omega) (by omega)
  have e2 : (Str.ofString "..").cps.toList = [46, 46] := by decide
  have e3 : x.cps.extract 0 x.cps.size = x.cps := by simp
  have e4 : bol x.cps 0 = true := rfl
  rw [e2, e, e3, e4]
  exact h h' t' k' (F.grownK hk) (N.grown hk)
theorem callS2 {x : Str} {u t : Tok} {Q : Value → Shared → Prop} (X : (kH w.params).In g) (F : Fr g L s.heap m) (N : News g L s.heap news) (hx : x.cps.size ≤ 1000000)
    (h : ∀ h' t' k', Fr g L h' m → News g L h' news → Q (.str ⟨(crlf false x.cps.toList).toArray⟩ t') { s with heap := h', toks := k' }) :
    wpAny (model PySem.Challenge.rw_rl0124_01.row.prog w) A (call (.builtin "re.Pattern.sub") ((Value.builtin "re.Pattern.sub", [Value.ref 107]).snd ++ [.str (Str.ofString "\x0d\n") t, .str x u])) Q E s := by
  have p1 := pat2_at (Frag.In.keeps X F.keep)
  refine call_sub sr2 (r := Str.ofString "\x0d\n") hx (by decide +kernel) (by decide +kernel) ⟨_, p1.1, rfl⟩ p1.2 fun h' t' k' hk _ => ?_
  have e := sub2_eq x.cps (x.cps.size + 1) 0 (by omega) (by omega)
  have e2 : (Str.ofString "\x0d\n").cps.toList = [13, 10] := by decide
  have e3 : x.cps.extract 0 x.cps.size = x.cps := by simp
  rw [e2, e, e3]
  exact h h' t' k' (F.grownK hk) (N.grown hk)
end
theorem kw0_C3 : True := by
  k_with_none
  k_with "storeName" => (k_here; k_dflt (first | (refine storeX_Ui (by k_asm) (by k_asm) ?_ (by rfl) (by rfl); k_whole; intro _ _ _ _ _) | (refine storeX_Us (by k_asm) (by k_asm) ?_ (by rfl) (by rfl); k_whole; intro _ _ _ _ _) | (refine storeX_U (by k_asm) (by k_asm) ?_ (by rfl) (by rfl); k_whole; intro _ _ _ _)); (try k_sweep))
  k_with "eval Constant int" => (refine int_l ?_)
  k_with "binaryOp Add int int" => (refine add_l ?_)
  k_with "binaryOp Sub int int" => (refine sub_l ?_)
  k_with "getMethod ref" => ((with_reducible show wpAny _ _ (getMethod (Value.ref 102) _ _) _ _ _); refine getM1 (by assumption) (by assumption) ?_)
  k_with "getMethod ref" => ((with_reducible show wpAny _ _ (getMethod (Value.ref 107) _ _) _ _ _); refine getM2 (by assumption) (by assumption) ?_)
  k_with "enterP" => (refine' enterP ?zP_k1 ?zP_k2 ?zP_k3 ?zP_k5 ?zP_kA ?zP_kF ?zP_kK ?zP_k6 ?zP_k7 ?zP_k8 ?zP_k9 ?zP_kB ?_ ?zP_kR ?zP_c2 ?zP_c3 ?zP_c4 ?zP_c5; (case zP_kA => exact rfl); (case zP_kF => exact rfl); (case zP_kK => assumption); (case zP_k1 => k_asm); (case zP_k2 => k_asm); (case zP_k3 => k_asm); (case zP_k5 => k_asm); (case zP_kR => assumption); (case zP_k6 => k_is); (case zP_k7 => k_is); (case zP_k8 => ktr_room); (case zP_k9 => exact BindsTo.of_eq rfl); (case zP_c5 => decide); (case zP_kB => exact locs rfl); (case zP_c2 => exact rfl); (case zP_c3 => exact rfl); (case zP_c4 => exact rfl); k_whole; intro L' h' tk' F' N' B' X' T'; (try dsimp only); (try k_lift B'); (try k_fold))
  trivial
theorem quote_c (w : World) (x : Str) (tk : Tok) (hx : x.cps.size ≤ 100000) : PC w 114 1 (fun _ => True) [.str x tk] (fun v _ => ∃ t, v = .str (quoteS x) t) := by
  w_on
  dsimp only [PC]
  k_fill
  intro mean mg mb dp un gd cn cs a ccd cl outer A₀ base h₀ L m s R B F X T hk hd hu _ hret
  k_dflt (walk_at "enterP")
  change Fr _ _ _ (fun y => List.lookup y [(Str.ofString "data", .str x tk)]) at F'
  w_strict k_steps
  refine callS2 (by assumption) (by assumption) (by assumption) (by omega) ?_
  intro h1 t1 k1 F1 N1
  w_strict k_steps
  refine callS1 (by assumption) (by assumption) (by assumption) ?_ ?_
  · have := crlf_len false x.cps.toList
    simp only [List.size_toArray]
    simp only [Array.length_toList] at this
    omega
  intro h2 t2 k2 F2 N2
  w_strict k_steps
  exact ⟨_, _, rfl, Fr.keep (by assumption), _, rfl⟩
end Mine
end
section -- D0
open PySem PySem.W PyProof.Rows PySem.Spec PySem.Calls
set_option maxRecDepth 100000
set_option maxHeartbeats 8000000
namespace Mine
noncomputable def unseenL : List Nat := [173, 847, 6150, 6155, 6156, 6157, 8203, 8204, 8205, 8288, 65279] ++ (List.range 16).map (65024 + ·)
noncomputable def aheadL (g : Int) (seen : Bool) (which : Int) (size : Nat) : List Nat := if decide (g > 0) == seen then [] else [unseenL.getD ((which + (size : Int)).fmod 27).toNat 0]
noncomputable def rowL (g : Int) (seen : Bool) (which : Int) (size turn : Nat) : List Nat := aheadL g seen which size ++ List.replicate size 46 ++ endL ((which + (turn : Int)).fmod 3).toNat
noncomputable def rowsL (g : Int) (seen : Bool) (which : Int) (size : Nat) : Nat → List Nat
  | 0 => []
  | t + 1 => rowsL g seen which size t ++ rowL g seen which size t
noncomputable def textL (gs : List Int) (seen : Bool) (which : Int) : Nat → List Nat
  | 0 => []
  | i + 1 => textL gs seen which i ++ rowsL (gs.getD (i + 1) 0) seen which (i + 1) (gs.getD (i + 1) 0).natAbs
noncomputable def hearL (l : List Nat) : List Nat := (l.map fun c => if inB1 c then [] else (mapB3 c).cps.toList).flatten
theorem hearL_snoc (l : List Nat) (c : Nat) : hearL (l ++ [c]) = hearL l ++ (if inB1 c then [] else (mapB3 c).cps.toList) := by
  unfold hearL
  rw [List.map_append, List.flatten_append]
  simp
theorem endL_len (r : Nat) : (endL r).length ≤ 2 := by unfold endL; split <;> (try split) <;> simp
theorem rowL_len (g : Int) (seen : Bool) (which : Int) (size turn : Nat) : (rowL g seen which size turn).length ≤ size + 3 := by
  have h1 : (aheadL g seen which size).length ≤ 1 := by unfold aheadL; split <;> simp
  have h2 : ∀ r, (endL r).length ≤ 2 := by intro r; unfold endL; split <;> (try split) <;> simp
  have h3 := h2 ((which + (turn : Int)).fmod 3).toNat
  unfold rowL
  simp only [List.length_append, List.length_replicate]
  omega
theorem rowsL_len (g : Int) (seen : Bool) (which : Int) (size : Nat) : ∀ t, (rowsL g seen which size t).length ≤ t * (size + 3)
  | 0 => Nat.zero_le _
  | t + 1 => by
    have h1 := rowsL_len g seen which size t
    have h2 := rowL_len g seen which size t
    rw [rowsL, List.length_append, Nat.add_mul]
    omega
theorem textL_len {gs : List Int} (seen : Bool) (which : Int) (hg : ∀ i, -100 ≤ gs.getD i 0 ∧ gs.getD i 0 ≤ 100) : ∀ i, i ≤ 6 → (textL gs seen which i).length ≤ 900 * i
  | 0, _ => Nat.zero_le _
  | i + 1, hi => by
    have h1 := textL_len seen which hg i (by omega)
    have h2 := rowsL_len (gs.getD (i + 1) 0) seen which (i + 1) (gs.getD (i + 1) 0).natAbs
    have h3 := hg (i + 1)
    have h4 : (gs.getD (i + 1) 0).natAbs * (i + 1 + 3) ≤ 100 * 9 := Nat.mul_le_mul (by omega) (by omega)
    rw [textL, List.length_append]
    omega
theorem strs_snoc : ∀ {vs : List Value} {ys : List Str} {y : Str} {t : Tok}, StrsAre vs ys → StrsAre (vs ++ [.str y t]) (ys ++ [y])
  | _, _, _, _, .nil => .cons _ _ .nil
  | _, _, _, _, .cons _ _ h => .cons _ _ (strs_snoc h)
noncomputable def okC (c : Nat) : Prop := inB1 c = true ∨ (mapB3 c).cps.toList.length ≤ 4
theorem ok_unseen : unseenL.all inB1 = true := by decide +kernel
theorem map_46 : (mapB3 46).cps.toList = [46] := by rw [map_eq]; decide +kernel
theorem map_10 : (mapB3 10).cps.toList = [10] := by rw [map_eq]; decide +kernel
theorem map_13 : (mapB3 13).cps.toList = [13] := by rw [map_eq]; decide +kernel
theorem b1_46 : inB1 46 = false := by decide +kernel
theorem b1_10 : inB1 10 = false := by decide +kernel
theorem b1_13 : inB1 13 = false := by decide +kernel
theorem ok_46 : okC 46 := .inr (by rw [map_46]; decide)
theorem ok_10 : okC 10 := .inr (by rw [map_10]; decide)
theorem ok_13 : okC 13 := .inr (by rw [map_13]; decide)
theorem mem_getD {l : List Nat} {k : Nat} (h : k < l.length) : l.getD k 0 ∈ l := by
  rw [List.getD_eq_getElem?_getD, List.getElem?_eq_getElem h]; exact List.getElem_mem h
theorem ok_row (g : Int) (seen : Bool) {which : Int} (hw : 0 ≤ which) (size turn : Nat) : ∀ c ∈ rowL g seen which size turn, okC c := by
  intro c hc
  unfold rowL at hc
  rcases List.mem_append.mp hc with hc | hc
  · rcases List.mem_append.mp hc with hc | hc
    · unfold aheadL at hc
      split at hc
      · cases hc
      · rw [List.mem_singleton] at hc
        have h27 : ((which + (size : Int)).fmod 27).toNat < unseenL.length := by
          have h1 : (which + (size : Int)).fmod 27 < 27 := Int.fmod_lt_of_pos _ (by omega)
          have h2 : 0 ≤ (which + (size : Int)).fmod 27 := Int.fmod_nonneg (by omega) (by omega)
          have h3 : unseenL.length = 27 := by decide
          omega
        rw [hc]
        exact .inl (List.all_eq_true.mp ok_unseen _ (mem_getD h27))
    · rw [List.eq_of_mem_replicate hc]; exact ok_46
  · unfold endL at hc
    split at hc
    · rw [List.mem_singleton.mp hc]; exact ok_10
    · split at hc
      · rw [List.mem_singleton.mp hc]; exact ok_13
      · simp only [List.mem_cons, List.not_mem_nil, or_false] at hc
        rcases hc with rfl | rfl
        · exact ok_13
        · exact ok_10
theorem ok_rows (g : Int) (seen : Bool) {which : Int} (hw : 0 ≤ which) (size : Nat) : ∀ t, ∀ c ∈ rowsL g seen which size t, okC c
  | 0, _, hc => nomatch hc
  | t + 1, c, hc => by
    rw [rowsL] at hc
    rcases List.mem_append.mp hc with hc | hc
    · exact ok_rows g seen hw size t c hc
    · exact ok_row g seen hw size t c hc
theorem ok_text (gs : List Int) (seen : Bool) {which : Int} (hw : 0 ≤ which) : ∀ i, ∀ c ∈ textL gs seen which i, okC c
  | 0, _, hc => nomatch hc
  | i + 1, c, hc => by
    rw [textL] at hc
    rcases List.mem_append.mp hc with hc | hc
    · exact ok_text gs seen hw i c hc
    · exact ok_rows _ seen hw _ _ c hc
theorem crlf_mem : ∀ (b : Bool) (l : List Nat), ∀ c ∈ crlf b l, c ∈ l ∨ c = 13 ∨ c = 10
  | _, [], _, h => nomatch h
  | b, a :: r, c, h => by
    have h1 := crlf_mem true r c
    have h2 := crlf_mem false r c
    rw [crlf] at h
    split at h
    · simp only [List.mem_cons] at h ⊢
      rcases h with h | h | h
      · exact .inr (.inl h)
      · exact .inr (.inr h)
      · rcases h1 h with h | h
        · exact .inl (.inr h)
        · exact .inr h
    · split at h
      · split at h
        · rcases h2 h with h | h
          · exact .inl (.tail _ h)
          · exact .inr h
        · simp only [List.mem_cons] at h ⊢
          rcases h with h | h | h
          · exact .inr (.inl h)
          · exact .inr (.inr h)
          · rcases h2 h with h | h
            · exact .inl (.inr h)
            · exact .inr h
      · simp only [List.mem_cons] at h ⊢
        rcases h with h | h
        · exact .inl (.inl h)
        · rcases h2 h with h | h
          · exact .inl (.inr h)
          · exact .inr h
theorem dots_mem : ∀ (b : Bool) (l : List Nat), ∀ c ∈ dots b l, c ∈ l ∨ c = 46
  | _, [], _, h => nomatch h
  | b, a :: r, c, h => by
    have h1 := dots_mem (a == 10) r c
    have h2 := dots_mem false r c
    rw [dots] at h
    split at h
    · simp only [List.mem_cons] at h ⊢
      rcases h with h | h | h
      · exact .inr h
      · exact .inr h
      · rcases h2 h with h | h
        · exact .inl (.inr h)
        · exact .inr h
    · simp only [List.mem_cons] at h ⊢
      rcases h with h | h
      · exact .inl (.inl h)
      · rcases h1 h with h | h
        · exact .inl (.inr h)
        · exact .inr h
theorem dots_len : ∀ (b : Bool) (l : List Nat), (dots b l).length ≤ 2 * l.length
  | _, [] => Nat.le_refl _
  | b, c :: r => by
    have h1 := dots_len (c == 10) r
    have h2 := dots_len false r
    rw [dots]
    split <;> simp only [List.length_cons] <;> omega
theorem quote_len (l : List Nat) : (quoteL l).length ≤ 4 * l.length := by
  have h1 := crlf_len false l
  have h2 := dots_len true (crlf false l)
  unfold quoteL; omega
theorem ok_quote {l : List Nat} (h : ∀ c ∈ l, okC c) : ∀ c ∈ quoteL l, okC c := by
  intro c hc
  unfold quoteL at hc
  rcases dots_mem _ _ _ hc with hc | rfl
  · rcases crlf_mem _ _ _ hc with hc | rfl | rfl
    · exact h c hc
    · exact ok_13
    · exact ok_10
  · exact ok_46
noncomputable def sentL (gs : List Int) (seen : Bool) (which : Int) (tail : List Nat) : List Nat := textL gs seen which 6 ++ [46] ++ tail ++ [10, 46, 46]
theorem ok_sent (gs : List Int) (seen : Bool) {which : Int} (hw : 0 ≤ which) {tail : List Nat} (ht : ∀ c ∈ tail, okC c) : ∀ c ∈ quoteL (sentL gs seen which tail), okC c := by
  refine ok_quote fun c hc => ?_
  unfold sentL at hc
  simp only [List.mem_append, List.mem_cons, List.not_mem_nil, or_false] at hc
  rcases hc with ((hc | rfl) | hc) | rfl | rfl | rfl
  · exact ok_text gs seen hw 6 c hc
  · exact ok_46
  · exact ht c hc
  · exact ok_10
  · exact ok_46
  · exact ok_46
noncomputable def HJ (q : List Nat) (i : Nat) (ys : List Value) : Prop := ∃ xs, StrsAre ys xs ∧ (xs.map (·.cps.toList)).flatten = hearL (q.take i) ∧ (xs.map (·.length)).sum ≤ 4 * i ∧ xs.length ≤ i
theorem HJ.zero (q : List Nat) : HJ q 0 [] := ⟨[], .nil, rfl, Nat.le_refl _, Nat.le_refl _⟩
theorem HJ.keep {q : List Nat} {i c : Nat} {ys : List Value} {t : Tok} (h : HJ q i ys) (hk : q[i]? = some c) (hb : inB1 c = false) (hok : okC c) : HJ q (i + 1) (ys ++ [.str (mapB3 c) t]) := by
  obtain ⟨xs, h1, h2, h3, h4⟩ := h
  have hl : (mapB3 c).length ≤ 4 := by
    rcases hok with h | h
    · rw [hb] at h; cases h
    · rw [Array.length_toList] at h; exact h
  refine ⟨xs ++ [mapB3 c], strs_snoc h1, ?_, ?_, ?_⟩
  · rw [List.take_add_one, hk]
    show _ = hearL (q.take i ++ [c])
    rw [hearL_snoc, ← h2, hb, List.map_append, List.flatten_append]
    simp
  · rw [List.map_append, List.sum_append]; simp only [List.map_cons, List.map_nil, List.sum_cons, List.sum_nil]; omega
  · rw [List.length_append]; simp only [List.length_cons, List.length_nil]; omega
theorem HJ.drop {q : List Nat} {i c : Nat} {ys : List Value} (h : HJ q i ys) (hk : q[i]? = some c) (hb : inB1 c = true) : HJ q (i + 1) ys := by
  obtain ⟨xs, h1, h2, h3, h4⟩ := h
  refine ⟨xs, h1, ?_, by omega, by omega⟩
  rw [List.take_add_one, hk]
  show _ = hearL (q.take i ++ [c])
  rw [hearL_snoc, ← h2, hb]
  simp
end Mine
end
section -- PL1
open PySem PySem.W PyProof.Rows PySem.Spec PySem.Calls
set_option maxRecDepth 100000
namespace Mine
noncomputable def hearQ (l : List Nat) : List Nat := hearL (dots true (crlf false l))
theorem hearL_app (a b : List Nat) : hearL (a ++ b) = hearL a ++ hearL b := by unfold hearL; rw [List.map_append, List.flatten_append]
theorem hearL_nil : hearL [] = [] := rfl
theorem hearL_one (c : Nat) : hearL [c] = if inB1 c then [] else (mapB3 c).cps.toList := by unfold hearL; simp
theorem hear_46 : hearL [46] = [46] := by rw [hearL_one, b1_46, if_neg Bool.false_ne_true, map_46]
theorem hear_10 : hearL [10] = [10] := by rw [hearL_one, b1_10, if_neg Bool.false_ne_true, map_10]
theorem hear_13 : hearL [13] = [13] := by rw [hearL_one, b1_13, if_neg Bool.false_ne_true, map_13]
theorem hear_rep : ∀ s, hearL (List.replicate s 46) = List.replicate s 46
  | 0 => rfl
  | s + 1 => by
    rw [List.replicate_succ, show (46 :: List.replicate s 46 : List Nat) = [46] ++ List.replicate s 46 from rfl, hearL_app, hear_46, hear_rep s]
theorem crlf_46 (l : List Nat) : ∀ (s : Nat), crlf false (List.replicate s 46 ++ l) = List.replicate s 46 ++ crlf false l
  | 0 => rfl
  | s + 1 => by
    rw [List.replicate_succ, List.cons_append, crlf, if_neg (by decide), if_neg (by decide), crlf_46 l s]
    rfl
theorem crlf_b {c : Nat} (hc : c ≠ 10) (l : List Nat) : crlf true (c :: l) = crlf false (c :: l) := by
  rw [crlf, crlf]
  split
  · rfl
  · rfl
theorem crlf_end (r : Nat) {c : Nat} (hc : c ≠ 10) (l : List Nat) : crlf false (endL r ++ (c :: l)) = 13 :: 10 :: crlf false (c :: l) := by
  unfold endL
  split
  · show crlf false (10 :: c :: l) = _
    rw [crlf, if_neg (by decide), if_pos rfl, if_neg (by decide)]
  · split
    · show crlf false (13 :: c :: l) = _
      rw [crlf, if_pos rfl, crlf_b hc]
    · show crlf false (13 :: 10 :: c :: l) = _
      rw [crlf, if_pos rfl, crlf, if_neg (by decide), if_pos rfl, if_pos rfl]
theorem dots_46 (l : List Nat) : ∀ (s : Nat), dots false (List.replicate s 46 ++ l) = List.replicate s 46 ++ dots false l
  | 0 => rfl
  | s + 1 => by
    rw [List.replicate_succ, List.cons_append, dots, if_neg (by simp)]
    show 46 :: dots false _ = _
    rw [dots_46 l s]
    rfl
theorem dots_end (b : Bool) (l : List Nat) : dots b (13 :: 10 :: l) = 13 :: 10 :: dots true l := by
  rw [dots, if_neg (by simp)]
  show 13 :: dots false (10 :: l) = _
  rw [dots, if_neg (by simp)]
  rfl
/-- a row of dots, heard -/
theorem row_heard {a : List Nat} (ha : a = [] ∨ ∃ u, a = [u] ∧ inB1 u = true ∧ u ≠ 10 ∧ u ≠ 13 ∧ u ≠ 46) {s : Nat} (hs : 1 ≤ s) (r : Nat) {c : Nat} (hc : c ≠ 10) (l : List Nat) :
    hearQ (a ++ List.replicate s 46 ++ endL r ++ (c :: l)) = List.replicate (if a = [] then s + 1 else s) 46 ++ (13 :: 10 :: hearQ (c :: l)) := by
  obtain ⟨t, rfl⟩ : ∃ t, s = t + 1 := ⟨s - 1, by omega⟩
  have tail : ∀ b : Bool, dots b (13 :: 10 :: crlf false (c :: l)) = 13 :: 10 :: dots true (crlf false (c :: l)) := fun b => dots_end b _
  have h1310 : ∀ x : List Nat, hearL (13 :: 10 :: x) = 13 :: 10 :: hearL x := fun x => by
    rw [show (13 :: 10 :: x : List Nat) = [13] ++ ([10] ++ x) from rfl, hearL_app, hearL_app, hear_13, hear_10, List.cons_append, List.nil_append, List.cons_append, List.nil_append]
  rcases ha with rfl | ⟨u, rfl, hb, h10, h13, h46⟩
  · rw [if_pos rfl, List.nil_append, List.append_assoc]
    unfold hearQ
    rw [crlf_46, crlf_end r hc, List.replicate_succ, List.cons_append, dots, if_pos ⟨rfl, rfl⟩, dots_46, tail]
    rw [show (46 :: 46 :: (List.replicate t 46 ++ 13 :: 10 :: dots true (crlf false (c :: l))) : List Nat) = List.replicate (t + 1 + 1) 46 ++ (13 :: 10 :: dots true (crlf false (c :: l))) from by rw [List.replicate_succ, List.replicate_succ]; rfl]
    rw [hearL_app, hear_rep, h1310]
  · rw [if_neg (by simp), List.append_assoc, List.append_assoc]
    unfold hearQ
    show hearL (dots true (crlf false (u :: (List.replicate (t + 1) 46 ++ (endL r ++ c :: l))))) = _
    rw [crlf, if_neg h13, if_neg h10, crlf_46, crlf_end r hc, dots, if_neg (by simp [h46]), show (u == 10) = false from by simp [h10], dots_46, tail]
    rw [show (u :: (List.replicate (t + 1) 46 ++ 13 :: 10 :: dots true (crlf false (c :: l))) : List Nat) = [u] ++ (List.replicate (t + 1) 46 ++ (13 :: 10 :: dots true (crlf false (c :: l)))) from rfl]
    rw [hearL_app, hearL_one, hb, if_pos rfl, List.nil_append, hearL_app, hear_rep, h1310]
end Mine
end
section -- PL2
open PySem PySem.W PyProof.Rows PySem.Spec PySem.Calls
set_option maxRecDepth 100000
namespace Mine
/-- starts, and with no line end -/
noncomputable def NS (l : List Nat) : Prop := ∃ c r, l = c :: r ∧ c ≠ 10
noncomputable def eRow (g : Int) (seen : Bool) (size : Nat) : Nat := if decide (g > 0) == seen then size else size - 1
noncomputable def encE (es : List Nat) : List Nat := (es.map fun e => List.replicate (e + 1) 46 ++ [13, 10]).flatten
theorem encE_app (a b : List Nat) : encE (a ++ b) = encE a ++ encE b := by unfold encE; rw [List.map_append, List.flatten_append]
noncomputable def textE (gs : List Int) (seen : Bool) : Nat → List Nat
  | 0 => []
  | i + 1 => textE gs seen i ++ List.replicate (gs.getD (i + 1) 0).natAbs (eRow (gs.getD (i + 1) 0) seen (i + 1))
theorem unseen_ok : unseenL.all (fun u => inB1 u && u != 10 && u != 13 && u != 46) = true := by decide +kernel
theorem ahead_ok (g : Int) (seen : Bool) {which : Int} (hw : 0 ≤ which) (size : Nat) : aheadL g seen which size = [] ∨ ∃ u, aheadL g seen which size = [u] ∧ inB1 u = true ∧ u ≠ 10 ∧ u ≠ 13 ∧ u ≠ 46 := by
  unfold aheadL
  split
  · exact .inl rfl
  · have h27 : ((which + (size : Int)).fmod 27).toNat < unseenL.length := by
      have h1 : (which + (size : Int)).fmod 27 < 27 := Int.fmod_lt_of_pos _ (by omega)
      have h2 : 0 ≤ (which + (size : Int)).fmod 27 := Int.fmod_nonneg (by omega) (by omega)
      have h3 : unseenL.length = 27 := by decide
      omega
    have := List.all_eq_true.mp unseen_ok _ (mem_getD h27)
    simp only [Bool.and_eq_true, bne_iff_ne] at this
    exact .inr ⟨_, rfl, this.1.1.1, this.1.1.2, this.1.2, this.2⟩
theorem ahead_nil (g : Int) (seen : Bool) (which : Int) (size : Nat) (hs : 1 ≤ size) : (if aheadL g seen which size = [] then size + 1 else size) = eRow g seen size + 1 := by
  unfold aheadL eRow
  split
  · simp
  · simp; omega
theorem row_NS (g : Int) (seen : Bool) {which : Int} (hw : 0 ≤ which) {size : Nat} (hs : 1 ≤ size) (turn : Nat) (l : List Nat) : NS (rowL g seen which size turn ++ l) := by
  obtain ⟨t, rfl⟩ : ∃ t, size = t + 1 := ⟨size - 1, by omega⟩
  unfold rowL
  rcases ahead_ok g seen hw (t + 1) with h | ⟨u, h, _, h10, _⟩
  · rw [h, List.replicate_succ]; exact ⟨46, _, rfl, by decide⟩
  · rw [h]; exact ⟨u, _, rfl, h10⟩
theorem rows_NS (g : Int) (seen : Bool) {which : Int} (hw : 0 ≤ which) {size : Nat} (hs : 1 ≤ size) : ∀ (t : Nat) {l : List Nat}, NS l → NS (rowsL g seen which size t ++ l)
  | 0, _, h => h
  | t + 1, l, _ => by rw [rowsL, List.append_assoc]; exact rows_NS g seen hw hs t (row_NS g seen hw hs t l)
theorem row_hear (g : Int) (seen : Bool) {which : Int} (hw : 0 ≤ which) {size : Nat} (hs : 1 ≤ size) (turn : Nat) {l : List Nat} (h : NS l) : hearQ (rowL g seen which size turn ++ l) = encE [eRow g seen size] ++ hearQ l := by
  obtain ⟨c, r, rfl, hc⟩ := h
  have := row_heard (ahead_ok g seen hw size) hs ((which + (turn : Int)).fmod 3).toNat hc r
  unfold rowL
  rw [this, ahead_nil g seen which size hs]
  unfold encE
  simp
theorem rows_hear (g : Int) (seen : Bool) {which : Int} (hw : 0 ≤ which) {size : Nat} (hs : 1 ≤ size) : ∀ (t : Nat) {l : List Nat}, NS l → hearQ (rowsL g seen which size t ++ l) = encE (List.replicate t (eRow g seen size)) ++ hearQ l
  | 0, _, _ => rfl
  | t + 1, l, h => by
    rw [rowsL, List.append_assoc, rows_hear g seen hw hs t (row_NS g seen hw hs t l), row_hear g seen hw hs t h, ← List.append_assoc, ← encE_app, List.replicate_succ']
theorem text_hear (gs : List Int) (seen : Bool) {which : Int} (hw : 0 ≤ which) : ∀ (i : Nat) {l : List Nat}, NS l → hearQ (textL gs seen which i ++ l) = encE (textE gs seen i) ++ hearQ l
  | 0, _, _ => rfl
  | i + 1, l, h => by
    rw [textL, List.append_assoc, text_hear gs seen hw i (rows_NS _ seen hw (by omega) _ h), rows_hear _ seen hw (by omega) _ h, ← List.append_assoc, ← encE_app, textE]
end Mine
end
section -- I2
open PySem PySem.W PyProof.Rows PySem.Spec PySem.Calls
set_option maxRecDepth 100000
set_option maxHeartbeats 8000000
namespace Mine
theorem eqN {a b : Nat} (h : a = b) : a = b := h
theorem fr_g {h₀ H h' : Heap} {L : Addr} {m : Str → Option Value} {ad : List Addr} (F : Fr h₀ L H m) (G : GSub H h' ad) (hL : L ∉ ad) (h0 : ∀ b ∈ ad, h₀.get? b = none) : Fr h₀ L h' m :=
  ⟨F.ns.at' fun o e => G _ o e hL, fun b o e => G b o (F.keep b o e) (fun q => by rw [h0 b q] at e; cases e), F.above⟩
theorem news_g {h₀ H h' : Heap} {L : Addr} {ad : List Addr} {news : List (Addr × Obj)} (N : News h₀ L H news) (G : GSub H h' ad) (h0 : ∀ p ∈ news, p.1 ∉ ad) : News h₀ L h' news :=
  fun p hp => ⟨G _ _ (N p hp).1 (h0 p hp), (N p hp).2⟩
noncomputable abbrev wsObjs (w : World) (q : WsT) (raw : Str) (c : WS) (self d norm cnt : Addr) (tb : Tok) (vs : List Value) : List (Addr × Obj) :=
  [(self, instObj 93 d), (d, wsD w q raw c.n c.nt norm (decide ((c.cnt.length : Int) ≤ 1))), (norm, tupO [.ref cnt, .int c.b tb]), (cnt, tupO vs)]
theorem make_ws {sh : Heap} {sg : Array GenState} {sd : Drawn} {st : Nat} {so : OsState} {w : World} {mean : ExcName → Option Value} {mg mb : Str → Option Value} {dp un : Nat} {gd : Option (List Code)} {cn : Str} {cs : Scope} {a : Addr} {ccd : Value} {cl : List (Str × Addr)} {outer : List Env} {A₀ : Around} {base h₀ : Heap} {L : Addr} {m : Str → Option Value}
    {news : List (Addr × Obj)} {Q E : Value → Shared → Prop} {raw : Str} {tr : Tok} (hz : raw.cps.size ≤ 1000000) (B : Below A₀ base outer h₀) (F : Fr h₀ L sh m) (X : (kH w.params).In h₀) (T : Top viewT looseX mean mg mb h₀) (hk : cs.kind = .function) (hd : dp + 2 < recursionLimit) (hu : un + 8 * 2 < cLine) (N : News h₀ L sh news)
    (h : ∀ h' tk' self d q norm cnt tb vs, Fr h₀ L h' m → News h₀ L h' (wsObjs w q raw (wsOf raw.cps.toList) self d norm cnt tb vs ++ news) → (∀ p ∈ news, @Ne Nat p.1 self ∧ @Ne Nat p.1 d ∧ @Ne Nat p.1 norm ∧ @Ne Nat p.1 cnt) → IntsAre vs (wsOf raw.cps.toList).cnt → Q (.ref self) ⟨h', sg, sd, tk', so⟩) :
    wpAny (model PySem.Challenge.rw_rl0124_01.row.prog w) (ktrTop dp un gd cn cs L a ccd cl outer) (call (.ref 93) [.str raw tr]) Q E ⟨sh, sg, sd, st, so⟩ := by
  revert X
  k_fill
  intro X
  refine call_cls F X N (by k_is) (by k_is) (by k_is) ?_
  intro x dx h' F' N' l1 l2
  have l2' : @LT.lt Nat _ dx x := l2
  have N0 : News h₀ L h' [(x, instObj 93 dx), (dx, dictOf [] 0)] := news_sub N' fun p hp => by
    simp only [List.mem_cons, List.not_mem_nil, or_false] at hp ⊢
    rcases hp with h | h <;> simp only [h, true_or, or_true]
  refine init_c w raw tr x dx hz l2' mean mg mb (dp + 1) (un + 1) _ cn cs a ccd cl outer A₀ base h₀ L m _ _ B F' X T hk (by omega) (by omega) N0 ?_
  intro h2 tk2 v G P
  obtain ⟨rfl, q, norm, cnt, tb, vs, ns, g1, g2, g3, hi, rfl⟩ := P
  have fr : ∀ p ∈ news, p.1 ∉ [x, dx] := by
    intro p hp q
    have := ltN (l1 p hp)
    simp only [List.mem_cons, List.not_mem_nil, or_false] at q
    rcases q with q | q
    · have q' := eqN q
      omega
    · have q' := eqN q
      omega
  have F2 : Fr h₀ L h2 m := fr_g F' G (by
    intro q
    simp only [List.map_cons, List.map_nil, List.mem_cons, List.not_mem_nil, or_false] at q
    rcases q with q | q
    · exact (N' _ (.head _)).2.1 q.symm
    · exact (N' _ (.tail _ (.head _))).2.1 q.symm) (by
    intro b hb
    simp only [List.map_cons, List.map_nil, List.mem_cons, List.not_mem_nil, or_false] at hb
    rcases hb with rfl | rfl
    · exact (N' _ (.head _)).2.2
    · exact (N' _ (.tail _ (.head _))).2.2)
  have N2 : News h₀ L h2 news := news_g (news_sub N' fun p hp => .tail _ (.tail _ hp)) G fr
  have N3 : News h₀ L h2 [(norm, tupO [.ref cnt, .int (wsOf raw.cps.toList).b tb]), (cnt, tupO vs)] := NewTo.news F'.keep (by obtain ⟨o, _, _, ho, _⟩ := F'.ns; rw [ho]; rfl) g3
  refine ⟨rfl, h _ _ x dx q norm cnt tb vs F2 ?_ ?_ hi⟩
  · intro p hp
    simp only [List.mem_append, List.mem_cons, List.not_mem_nil, or_false] at hp
    rcases hp with (rfl | rfl | rfl | rfl) | hp
    · exact ⟨g1, (N' _ (.head _)).2⟩
    · exact ⟨g2, (N' _ (.tail _ (.head _))).2⟩
    · exact N3 _ (.head _)
    · exact N3 _ (.tail _ (.head _))
    · exact N2 p hp
  · intro p hp
    have h1 := ltN (l1 p hp)
    have hin := (N' p (.tail _ (.tail _ hp))).1
    have nn : ∀ b o, (h'.get? b = none ∧ h2.get? b = some o) → @Ne Nat p.1 b := by
      intro b o hb e
      have e' : p.1 = b := e
      rw [← e', hin] at hb
      cases hb.1
    exact ⟨by omega, by omega, nn _ _ g3.1, nn _ _ g3.2.1⟩
end Mine
end
section -- RP
open PySem PySem.W PyProof.Rows PySem.Spec PySem.Calls
set_option maxRecDepth 100000
namespace Mine
open PySem.StrLaws PySem.Builtin PySem.Builtin.Str
/-- what replace gives, sign by sign (the number: so many signs to pass by) -/
noncomputable def replS (y z : List Nat) : Nat → List Nat → List Nat
  | _, [] => []
  | k + 1, _ :: r => replS y z k r
  | 0, c :: r => if y.isPrefixOf (c :: r) then z ++ replS y z (y.length - 1) r else c :: replS y z 0 r
theorem replS_drop (y z : List Nat) : ∀ (k : Nat) (l : List Nat), replS y z k l = replS y z 0 (l.drop k)
  | 0, l => by rw [List.drop_zero]
  | k + 1, [] => by simp [replS]
  | k + 1, c :: r => by rw [replS, List.drop_succ_cons]; exact replS_drop y z k r
theorem at_iff {x y : Str} {i : Nat} (hi : i ≤ x.cps.toList.length) : At x y x.length i ↔ y.cps.toList.isPrefixOf (x.cps.toList.drop i) = true := by
  obtain ⟨⟨l⟩⟩ := x
  obtain ⟨⟨m⟩⟩ := y
  unfold At subAt
  simp only [Str.length, List.size_toArray, List.extract_toArray, List.extract_eq_take_drop, beq_iff_eq, List.isPrefixOf_iff_prefix]
  simp only at hi
  rw [show i + m.length - i = m.length by omega]
  constructor
  · rintro ⟨h1, h2⟩
    have h2' : (l.drop i).take m.length = m := by simpa using h2
    rw [← h2']
    exact List.take_prefix _ _
  · intro h
    have h1 := h.length_le
    rw [List.length_drop] at h1
    refine ⟨?_, ?_⟩
    · have : 0 ≤ m.length := Nat.zero_le _
      omega
    · have h2 := List.prefix_iff_eq_take.mp h
      simpa using h2.symm
theorem no_at {x y z : Str} (hy : 1 ≤ y.cps.toList.length) : ∀ (n a c : Nat), c = a + n → c ≤ x.cps.toList.length → (∀ k, a ≤ k → k < c → ¬ At x y x.length k) →
    replS y.cps.toList z.cps.toList 0 (x.cps.toList.drop a) = (x.cps.toList.drop a).take (c - a) ++ replS y.cps.toList z.cps.toList 0 (x.cps.toList.drop c)
  | 0, a, c, hc, hl, _ => by subst hc; simp
  | n + 1, a, c, hc, hl, h => by
    have hlt : a < x.cps.toList.length := by omega
    have h0 := h a (Nat.le_refl _) (by omega)
    rw [at_iff (by omega)] at h0
    have ih := no_at (z := z) hy n (a + 1) c (by omega) hl (fun k h1 h2 => h k (by omega) h2)
    rw [List.drop_eq_getElem_cons hlt] at h0 ⊢
    rw [replS, if_neg h0, ih, show c - a = (c - (a + 1)) + 1 by omega, List.take_succ_cons, List.cons_append]
theorem at_step {x y z : Str} (hy : 1 ≤ y.cps.toList.length) {c : Nat} (h : At x y x.length c) : replS y.cps.toList z.cps.toList 0 (x.cps.toList.drop c) = z.cps.toList ++ replS y.cps.toList z.cps.toList 0 (x.cps.toList.drop (c + y.cps.toList.length)) := by
  have h1 : c + y.length ≤ x.length := h.1
  have h1' : c + y.cps.toList.length ≤ x.cps.toList.length := by rw [Array.length_toList, Array.length_toList]; exact h1
  have hlt : c < x.cps.toList.length := by omega
  rw [at_iff (by omega)] at h
  rw [List.drop_eq_getElem_cons hlt] at h ⊢
  rw [replS, if_pos h, replS_drop, List.drop_drop]
  congr 3
  omega
theorem app_cps' (a b : Str) : (a ++ b).cps.toList = a.cps.toList ++ b.cps.toList := by show (a.cps ++ b.cps).toList = _; simp
theorem join_cons2 (z p q : Str) (r : List Str) : (Str.join z (p :: q :: r)).cps.toList = p.cps.toList ++ (z.cps.toList ++ (Str.join z (q :: r)).cps.toList) := by
  rw [Str.join, app_cps', app_cps', List.append_assoc]
  intro h; cases h
theorem rep_chain {x y z : Str} (hy : 1 ≤ y.cps.toList.length) : ∀ (cuts : List Nat) (a f : Nat), a ≤ x.cps.toList.length → ChainG x y x.length a cuts f → (∀ k, f ≤ k → ¬ At x y x.length k) →
    (Str.join z (partsFrom x y.length a cuts)).cps.toList = replS y.cps.toList z.cps.toList 0 (x.cps.toList.drop a)
  | [], a, f, ha, h, hn => by
    have e : f = a := h
    subst e
    rw [no_at hy (x.cps.toList.length - f) f x.cps.toList.length (by omega) (Nat.le_refl _) (fun k h1 _ => hn k h1)]
    show (strSub x f x.length).cps.toList = _
    rw [strSub_toList, List.drop_length]
    simp [replS, Str.length]
  | c :: r, a, f, ha, h, hn => by
    obtain ⟨h1, h2, h3, h4⟩ := h
    have hc : c + y.length ≤ x.length := h2.1
    have hc' : c + y.cps.toList.length ≤ x.cps.toList.length := by rw [Array.length_toList, Array.length_toList]; exact hc
    obtain ⟨p, q, e⟩ := partsFrom_ne x y.length (c + y.length) r
    have ih := rep_chain hy r (c + y.length) f (by rw [Array.length_toList]; exact hc) h4 hn (z := z)
    show (Str.join z (strSub x a c :: partsFrom x y.length (c + y.length) r)).cps.toList = _
    rw [e] at ih ⊢
    rw [join_cons2, ih, no_at hy (c - a) a c (by omega) (by omega) (fun k q1 q2 => h3 k q1 q2), at_step hy h2, strSub_toList]
    rw [Array.length_toList]
    rfl
theorem rep_eq (x y z : Str) (hy : 1 ≤ y.cps.size) (hyz : ¬ (y.cps.size = 0 ∧ z.cps.size = 0)) : (Txt.replace x y z).cps.toList = replS y.cps.toList z.cps.toList 0 x.cps.toList := by
  have hy' : 1 ≤ y.cps.toList.length := by rw [Array.length_toList]; exact hy
  obtain ⟨f, h1, h2⟩ := occ_tight x y hy
  have key := rep_chain (z := z) hy' _ 0 f (Nat.zero_le _) h1 h2
  rw [List.drop_zero] at key
  rw [← key]
  unfold Txt.replace
  split
  · rename_i hc
    have hc' : (occurrences x y 0 x.length (x.length + 1)).isEmpty = true := by
      rcases Bool.or_eq_true_iff.mp hc with h | h
      · exact h
      · exfalso
        simp only [Bool.and_eq_true, beq_iff_eq] at h
        exact hyz h
    have e : occurrences x y 0 x.length (x.length + 1) = [] := by simpa using hc'
    rw [e]
    show _ = (strSub x 0 x.length).cps.toList
    rw [strSub_toList, List.drop_zero, Nat.sub_zero, List.take_of_length_le (by rw [Array.length_toList]; exact Nat.le_refl _)]
  · rw [glued_eq_join, partsBetween_eq]
theorem replS_len (y z : List Nat) (hz : z.length ≤ y.length) (hy : 1 ≤ y.length) : ∀ (k : Nat) (l : List Nat), (replS y z k l).length ≤ l.length - k
  | _, [] => by simp [replS]
  | k + 1, c :: r => by
    have := replS_len y z hz hy k r
    rw [replS, List.length_cons]; omega
  | 0, c :: r => by
    rw [replS]
    split
    · rename_i h
      have h1 := (List.isPrefixOf_iff_prefix.mp h).length_le
      have h2 := replS_len y z hz hy (y.length - 1) r
      rw [List.length_cons] at h1
      rw [List.length_append, List.length_cons]; omega
    · have h2 := replS_len y z hz hy 0 r
      rw [List.length_cons, List.length_cons]; omega
theorem rep_len {x y z : Str} (hy : 1 ≤ y.cps.size) (h : z.cps.size ≤ y.cps.size) : (Txt.replace x y z).length ≤ x.length := by
  have e := rep_eq x y z hy (fun q => by omega)
  have l := replS_len y.cps.toList z.cps.toList (by rw [Array.length_toList, Array.length_toList]; exact h) (by rw [Array.length_toList]; exact hy) 0 x.cps.toList
  rw [← e, Array.length_toList, Array.length_toList] at l
  exact l
end Mine

namespace Mine
open PySem.Builtin.Str in
theorem replaceK {sh : Heap} {sg : Array GenState} {sd : Drawn} {st : Nat} {so : OsState} {prog : Program} {w : World} {A : Around} {E : Value → Shared → Prop} {x y z : Str} {t u v : Tok} {Q : Value → Shared → Prop} (hu : u ≠ 0) (hv : v ≠ 0) (huv : u ≠ v) (hyz : (y == z) = false) (hb : x.length + (x.length + 1) * z.length ≤ 16777216)
    (hq : ∀ t' k, @LE.le Nat _ st k → Q (.str (Txt.replace x y z) t') ⟨sh, sg, sd, k, so⟩) : wpAny (model prog w) A (call (.builtin "str.replace") [.str x t, .str y u, .str z v]) Q E ⟨sh, sg, sd, st, so⟩ := by
  have e : (2 : Nat) ^ 24 = 16777216 := by decide
  have hl : tooLong (x.length + (occurrences x y 0 x.length (x.length + 1)).length * z.length) = false := by
    have h1 := StrLaws.occ_length_le x y 0 x.length (x.length + 1)
    have h2 : (occurrences x y 0 x.length (x.length + 1)).length * z.length ≤ (x.length + 1) * z.length := Nat.mul_le_mul_right _ h1
    unfold tooLong sizeLine
    exact decide_eq_false (by omega)
  refine call_gives F.slot_str_replace (typeIs_str _ _ _) F.entry_str_replace (F.args_str_replace_3 _ _ _)
    (gives_str_replace x y z t u v fun _ => ⟨by simp [hu, hv], by simp [huv], hyz, hl⟩) ?_
  have hq' := hq
  unfold Txt.replace at hq'
  cases hc : ((occurrences x y 0 x.length (x.length + 1)).isEmpty || (y.length == 0 && z.length == 0))
  · rw [hc] at hq'
    simp only [Bool.false_eq_true, if_false] at hq' ⊢
    exact ⟨fits_replaced y hb, hq' _ _ (Nat.le_succ _)⟩
  · rw [hc] at hq'
    simp only [if_true] at hq' ⊢
    exact hq' t st (Nat.le_refl _)
end Mine
end
section -- PL3
open PySem PySem.W PyProof.Rows PySem.Spec PySem.Calls
set_option maxRecDepth 100000
namespace Mine
theorem tail_hear {k : Nat} (hb : inB1 k = false) (h10 : k ≠ 10) (h13 : k ≠ 13) (h46 : k ≠ 46) : hearQ (46 :: k :: [10, 46, 46]) = [46, 46] ++ ((mapB3 k).cps.toList ++ [13, 10, 46, 46, 46]) := by
  have e1 : crlf false (46 :: k :: [10, 46, 46]) = [46, k, 13, 10, 46, 46] := by
    rw [crlf, if_neg (by decide), if_neg (by decide), crlf, if_neg h13, if_neg h10]
    rfl
  have e2 : dots true [46, k, 13, 10, 46, 46] = [46, 46, k, 13, 10, 46, 46, 46] := by
    rw [dots, if_pos ⟨rfl, rfl⟩, dots, if_neg (by simp), show (k == 10) = false from by simp [h10]]
    rfl
  unfold hearQ
  rw [e1, e2, show ([46, 46, k, 13, 10, 46, 46, 46] : List Nat) = [46] ++ ([46] ++ ([k] ++ ([13] ++ ([10] ++ ([46] ++ ([46] ++ [46])))))) from rfl]
  simp only [hearL_app, hear_46, hear_13, hear_10, hearL_one k, hb, if_neg Bool.false_ne_true]
  simp
theorem rep3_46 (l : List Nat) : ∀ k : Nat, replS [13, 10, 46] [9] 0 (List.replicate k 46 ++ l) = List.replicate k 46 ++ replS [13, 10, 46] [9] 0 l
  | 0 => rfl
  | k + 1 => by
    rw [List.replicate_succ, List.cons_append, replS, if_neg (by simp [List.isPrefixOf]), rep3_46 l k]
    rfl
theorem rep3_hit (l : List Nat) : replS [13, 10, 46] [9] 0 (13 :: 10 :: 46 :: l) = 9 :: replS [13, 10, 46] [9] 0 l := by
  rw [replS, if_pos (by simp [List.isPrefixOf])]
  rfl
theorem rep3_pass : ∀ (T l : List Nat), (∀ c ∈ T, c ≠ 13) → replS [13, 10, 46] [9] 0 (T ++ l) = T ++ replS [13, 10, 46] [9] 0 l
  | [], _, _ => rfl
  | c :: T, l, h => by
    have hc := h c (.head _)
    rw [List.cons_append, replS, if_neg (by simp [List.isPrefixOf, Ne.symm hc]), rep3_pass T l fun c hc => h c (.tail _ hc)]
    rfl
noncomputable def encT (es : List Nat) : List Nat := (es.map fun e => 9 :: List.replicate e 46).flatten
theorem rep3_enc (R : List Nat) : ∀ es : List Nat, replS [13, 10, 46] [9] 0 (13 :: 10 :: (encE es ++ ([46, 46] ++ R))) = encT es ++ (9 :: 46 :: replS [13, 10, 46] [9] 0 R)
  | [] => by
    show replS _ _ 0 (13 :: 10 :: 46 :: ([46] ++ R)) = _
    rw [rep3_hit]
    have h1 := rep3_46 R 1
    exact congrArg (9 :: ·) h1
  | e :: es => by
    have ih := rep3_enc R es
    rw [show encE (e :: es) = List.replicate (e + 1) 46 ++ [13, 10] ++ encE es from by unfold encE; rw [List.map_cons, List.flatten_cons]]
    rw [List.replicate_succ, show (13 :: 10 :: (46 :: List.replicate e 46 ++ [13, 10] ++ encE es ++ ([46, 46] ++ R)) : List Nat) = 13 :: 10 :: 46 :: (List.replicate e 46 ++ (13 :: 10 :: (encE es ++ ([46, 46] ++ R)))) from by simp]
    rw [rep3_hit, rep3_46, ih]
    unfold encT
    simp
theorem rep1_map : ∀ l : List Nat, replS [46] [32] 0 l = l.map fun c => if c = 46 then 32 else c
  | [] => rfl
  | c :: r => by
    rw [replS, List.map_cons]
    by_cases h : c = 46
    · subst h
      rw [if_pos (by simp [List.isPrefixOf]), if_pos rfl]
      show 32 :: replS [46] [32] 0 r = _
      rw [rep1_map r]
    · rw [if_neg (by simp [List.isPrefixOf, Ne.symm h]), if_neg h, rep1_map r]
/-- the text that is read, sign by sign -/
noncomputable def readL (w : Nat) (es T : List Nat) : List Nat := List.replicate w 32 ++ ((es.map fun e => 9 :: List.replicate e 32).flatten ++ (9 :: 32 :: (T ++ [9, 32, 32])))
theorem encT_map : ∀ es : List Nat, (encT es).map (fun c => if c = 46 then 32 else c) = (es.map fun e => 9 :: List.replicate e 32).flatten
  | [] => rfl
  | e :: r => by
    have ih := encT_map r
    unfold encT at ih ⊢
    rw [List.map_cons, List.flatten_cons, List.map_append, ih]
    show _ ++ _ = (9 :: List.replicate e 32) ++ (r.map fun e => 9 :: List.replicate e 32).flatten
    rw [List.map_cons, List.map_replicate, if_neg (by decide), if_pos rfl]
theorem read_eq (w : Nat) (es T : List Nat) (hT : ∀ c ∈ T, c ≠ 13 ∧ c ≠ 46) :
    replS [46] [32] 0 (replS [13, 10, 46] [9] 0 (List.replicate w 46 ++ [13, 10] ++ (encE es ++ ([46, 46] ++ (T ++ [13, 10, 46, 46, 46]))))) = readL w es T := by
  have e1 : List.replicate w 46 ++ [13, 10] ++ (encE es ++ ([46, 46] ++ (T ++ [13, 10, 46, 46, 46]))) = List.replicate w 46 ++ (13 :: 10 :: (encE es ++ ([46, 46] ++ (T ++ [13, 10, 46, 46, 46])))) := by simp
  have e2 : replS [13, 10, 46] [9] 0 [13, 10, 46, 46, 46] = [9, 46, 46] := by decide
  rw [e1, rep3_46, rep3_enc, rep3_pass T _ fun c hc => (hT c hc).1, e2, rep1_map]
  have eT : T.map (fun c => if c = 46 then 32 else c) = T := by
    conv => rhs; rw [← List.map_id T]
    exact List.map_congr_left fun c hc => by rw [if_neg (hT c hc).2]; rfl
  have eE := encT_map es
  unfold readL
  simp only [List.map_append, List.map_cons, List.map_replicate, eE, eT, List.map_nil]
  simp
end Mine
end
section -- PL4
open PySem PySem.W PyProof.Rows PySem.Spec PySem.Calls
set_option maxRecDepth 100000
namespace Mine
noncomputable def tabC (cnt : List Int) (e : Nat) : List Int := (WS.tab ⟨cnt, e, 0, 0⟩).cnt
theorem tab_eq (cnt : List Int) (e : Nat) (n nt : Int) : WS.tab ⟨cnt, e, n, nt⟩ = ⟨tabC cnt e, 0, n + 1, nt + 1⟩ := rfl
theorem scan_32 : ∀ (k : Nat) (c : WS) (l : List Nat), wsScan c (List.replicate k 32 ++ l) = wsScan ⟨c.cnt, c.b + k, c.n + k, c.nt⟩ l
  | 0, c, l => by simp
  | k + 1, c, l => by
    rw [List.replicate_succ, List.cons_append, wsScan, if_pos rfl, scan_32 k]
    congr 1
    simp only [WS.mk.injEq, true_and, and_true]
    omega
theorem scan_9 (c : WS) (l : List Nat) : wsScan c (9 :: l) = wsScan c.tab l := by rw [wsScan, if_neg (by decide), if_pos rfl]
theorem scan_enc (l : List Nat) : ∀ (es : List Nat) (cnt : List Int) (e : Nat) (n nt : Int), wsScan ⟨cnt, e, n, nt⟩ ((es.map fun e => 9 :: List.replicate e 32).flatten ++ (9 :: l)) =
    wsScan ⟨((e :: es : List Nat).foldl tabC cnt), 0, n + 1 + (es.map fun (e : Nat) => (e : Int) + 1).sum, nt + es.length + 1⟩ l
  | [], cnt, e, n, nt => by
    show wsScan _ (9 :: l) = _
    rw [scan_9, tab_eq]
    simp
  | f :: es, cnt, e, n, nt => by
    rw [List.map_cons, List.flatten_cons, List.append_assoc, List.cons_append, scan_9, tab_eq, scan_32]
    have ih := scan_enc l es (tabC cnt e) f (n + 1 + f) (nt + 1)
    simp only [Int.zero_add] at ih ⊢
    rw [ih]
    congr 1
    simp only [WS.mk.injEq, List.foldl_cons, List.map_cons, List.sum_cons, List.length_cons, true_and]
    omega
/-- the last blanks: one, and one more where the tail starts with a blank -/
theorem scan_tail (c : WS) (l : List Nat) : wsScan c (32 :: (([953] : List Nat) ++ l)) = ⟨c.cnt, c.b + 1, c.n + 1, c.nt⟩ ∧ wsScan c (32 :: (([32, 953] : List Nat) ++ l)) = ⟨c.cnt, c.b + 2, c.n + 2, c.nt⟩ := by
  constructor
  · rw [wsScan, if_pos rfl, List.cons_append, wsScan, if_neg (by decide), if_neg (by decide)]
  · rw [wsScan, if_pos rfl, List.cons_append, wsScan, if_pos rfl, List.cons_append, wsScan, if_neg (by decide), if_neg (by decide)]
    simp only [WS.mk.injEq, true_and, and_true]
    omega
theorem read_ws (w : Nat) (es : List Nat) : wsOf (readL w es [953]) = ⟨(w :: es).foldl tabC [], 1, w + 1 + (es.map fun (e : Nat) => (e : Int) + 1).sum + 1, es.length + 1⟩ ∧
    wsOf (readL w es [32, 953]) = ⟨(w :: es).foldl tabC [], 2, w + 1 + (es.map fun (e : Nat) => (e : Int) + 1).sum + 2, es.length + 1⟩ := by
  constructor
  · unfold wsOf readL
    rw [scan_32]
    simp only [Int.zero_add]
    rw [scan_enc, (scan_tail _ _).1]
    simp
  · unfold wsOf readL
    rw [scan_32]
    simp only [Int.zero_add]
    rw [scan_enc, (scan_tail _ _).2]
    simp
end Mine
end
section -- D1
open PySem PySem.W PyProof.Rows PySem.Spec PySem.Calls
set_option maxRecDepth 100000
set_option maxHeartbeats 8000000
namespace Mine
theorem join_cps (ys : List Str) : (Txt.join (Str.ofString "") ys).cps.toList = (ys.map (·.cps.toList)).flatten := by
  have e0 : Str.ofString "" = ⟨#[]⟩ := by decide
  have app : ∀ a b : Str, (a ++ b).cps.toList = a.cps.toList ++ b.cps.toList := fun a b => by show (a.cps ++ b.cps).toList = _; simp
  show (Builtin.Str.glued _ _).cps.toList = _
  rw [e0, StrLaws.glued_eq_join]
  induction ys with
  | nil => rfl
  | cons y r ih =>
    cases r with
    | nil => simp [Str.join]
    | cons z r =>
      rw [List.map_cons, List.flatten_cons, ← ih]
      simp [Str.join, app]
structure InSt where
  x : Str
  t : Tok
  ah : Option Value
noncomputable def hearS (gs : List Int) (seen : Bool) (which : Int) (tail : List Nat) : List Nat := List.replicate (which.fmod 2).toNat 46 ++ [13, 10] ++ hearL (quoteL (sentL gs seen which tail))
noncomputable def leadS (gs : List Int) (seen : Bool) (which : Int) (tail : List Nat) : Str := Txt.replace (Txt.replace ⟨(hearS gs seen which tail).toArray⟩ (Str.ofString "\r\n.") (Str.ofString "\t")) (Str.ofString ".") (Str.ofString " ")
noncomputable def leadW (gs : List Int) (seen : Bool) (which : Int) (tail : List Nat) : WS := wsOf (leadS gs seen which tail).cps.toList
theorem rep_fit {x z : Str} (h : x.length ≤ 1048576) (hz : z.length ≤ 1) : x.length + (x.length + 1) * z.length ≤ 16777216 := by
  have : (x.length + 1) * z.length ≤ (x.length + 1) * 1 := Nat.mul_le_mul_left _ hz
  omega
structure LeadSt where
  x : Str
  t : Tok
  ah : Option Value
  tu : Option Value
theorem post_gen {M : Model} {A : Around} {α : Type} {a : Sem α} {E : Value → Shared → Prop} {s : Shared} {Q : α → Shared → Prop} (h : ∀ Q' : α → Shared → Prop, (∀ v s', Q v s' → Q' v s') → wpAny M A a Q' E s) : wpAny M A a Q E s := h Q fun _ _ q => q
theorem join_strD {M : Model} {A : Around} {a : Sem Value} {E : Value → Shared → Prop} {s : Shared} {Q : Value → Shared → Prop} (P : Str → Prop) (h1 : wpAny M A a (fun v s' => ∃ z t tk, v = .str z t ∧ s' = { s with toks := tk } ∧ P z) E s)
    (h2 : ∀ z t tk, P z → Q (.str z t) { s with toks := tk }) : wpAny M A a Q E s :=
  wpAny_mono h1 (fun v s' h => by obtain ⟨z, t, tk, rfl, rfl, p⟩ := h; exact h2 z t tk p) fun _ _ e => e
noncomputable abbrev leadP (w : World) (gs : List Int) (seen : Bool) (which : Int) (tail : Str) (H : Heap) (v : Value) (h' : Heap) : Prop := ∃ self d q norm cnt tb vs, v = .ref self ∧ NewTo H h' (wsObjs w q (leadS gs seen which tail.cps.toList) (leadW gs seen which tail.cps.toList) self d norm cnt tb vs) ∧ IntsAre vs (leadW gs seen which tail.cps.toList).cnt
noncomputable abbrev ldV (c : LeadSt) : List (Str × Option Value) := [(Str.ofString "text", some (.str c.x c.t)), (Str.ofString "turn", c.tu), (Str.ofString "ahead", c.ah)]
noncomputable abbrev ldW (c : InSt) : List (Str × Option Value) := [(Str.ofString "text", some (.str c.x c.t)), (Str.ofString "ahead", c.ah)]
noncomputable abbrev ldL (l : List (Addr × Obj)) {α : Type} (_ : α) : List (Addr × Obj) := l
noncomputable abbrev ldP (gs : List Int) (seen : Bool) (which : Int) (i : Nat) (c : LeadSt) : Prop := c.x.cps.toList = textL gs seen which i
noncomputable abbrev ldQ (gs : List Int) (seen : Bool) (which : Int) (i t : Nat) (c : InSt) : Prop := c.x.cps.toList = textL gs seen which i ++ rowsL (gs.getD (i + 1) 0) seen which (i + 1) t
theorem abs_b {g : Int} (h : -100 ≤ g ∧ g ≤ 100) : 0 ≤ (if g < 0 then -g else g) ∧ (if g < 0 then -g else g) ≤ 100 := by split <;> omega
theorem abs_n (g : Int) : ((if g < 0 then -g else g) - 0).toNat = g.natAbs := by split <;> omega
theorem len3 {a b : Nat} {za zb zc l : List Nat} (h : (za ++ zb ++ zc).length ≤ a) (hab : a ≤ b) (e : l = za ++ zb ++ zc) : l.length ≤ b := by rw [e]; exact Nat.le_trans h hab
theorem kw0_D1 : True := by
  k_with_none
  k_with "storeName" => (k_here; k_dflt (refine storeX_T (by k_asm) (by k_asm) ?_ (by rfl) (by rfl); k_whole; intro _ _ _); (try k_sweep))
  k_with "eval Constant int" => (refine int_l ?_)
  k_with "binaryOp Add int int" => (refine add_l ?_)
  k_with "binaryOp Sub int int" => (refine sub_l ?_)
  k_with "enterN" => (refine' enterN ?zN_k1 ?zN_k2 ?zN_k3 ?zN_k4 ?zN_k5 ?zN_kA ?zN_kF ?zN_kK ?zN_k6 ?zN_k7 ?zN_k8 ?zN_k9 ?zN_kB ?_ ?zN_kR ?zN_c2 ?zN_c3 ?zN_c4 ?zN_c5; (case zN_kA => exact rfl); (case zN_kF => exact rfl); (case zN_kK => assumption); (case zN_k1 => k_asm); (case zN_k2 => k_asm); (case zN_k3 => k_asm); (case zN_k4 => k_asm); (case zN_k5 => k_asm); (case zN_kR => assumption); (case zN_k6 => k_is); (case zN_k7 => k_is); (case zN_k8 => ktr_room); (case zN_k9 => exact BindsTo.of_eq rfl); (case zN_c5 => decide); (case zN_kB => exact locs rfl); (case zN_c2 => exact rfl); (case zN_c3 => exact rfl); (case zN_c4 => exact rfl); k_whole; intro g' L' h' tk' F' N' B' X' T' G' l1; (try dsimp only); (try k_lift B'); (try k_fold))
  k_with "eval ListComp" => ((with_reducible show wpAny _ _ (eval (Expr.ListComp _ [⟨_, _, [], _⟩] _ _) _) _ _ _); k_here; k_dflt (refine ListComp_S (F₀ := by k_asm) (by rfl) (by decide) (by rfl) (by decide) (by rfl) ?_))
  k_with "SrcS" => (k_here; refine Held.out ?_)
  k_with "eval ListComp" => ((with_reducible show wpAny _ _ (eval (Expr.ListComp _ [⟨_, _, [_], _⟩] _ _) _) _ _ _); k_here; k_dflt (refine ListComp_TS (F₀ := by k_asm) (by rfl) (by decide) (by rfl) (by decide) (by rfl) ?_))
  k_with "SrcT" => (k_here; refine Held.out ?_)
  k_with "call ref" => (k_here; (with_reducible show wpAny _ _ (call (Value.ref 132) _) _ _ _); refine' useP (in_b1 _ _ _) ?zp132_B ?zp132_F ?zp132_X ?zp132_T ?zp132_K ?zp132_D ?zp132_U ?zp132_N trivial ?_; (case zp132_B => k_asm); (case zp132_F => k_asm); (case zp132_X => k_asm); (case zp132_T => k_asm); (case zp132_K => first | exact rfl | assumption); (case zp132_D => ktr_room); (case zp132_U => ktr_units); (case zp132_N => k_asm); k_whole; rintro _ _ _ _ _ rfl; (try dsimp only); (try k_fold))
  k_with "call ref" => (k_here; (with_reducible show wpAny _ _ (call (Value.ref 178) _) _ _ _); refine' useP (map_b3 _ _ _) ?zp178_B ?zp178_F ?zp178_X ?zp178_T ?zp178_K ?zp178_D ?zp178_U ?zp178_N trivial ?_; (case zp178_B => k_asm); (case zp178_F => k_asm); (case zp178_X => k_asm); (case zp178_T => k_asm); (case zp178_K => first | exact rfl | assumption); (case zp178_D => ktr_room); (case zp178_U => ktr_units); (case zp178_N => k_asm); k_whole; rintro _ _ _ _ _ ⟨_, rfl⟩; (try dsimp only); (try k_fold))
  k_with "call ref" => (k_here; (with_reducible show wpAny _ _ (call (Value.ref 114) _) _ _ _); refine' useP (quote_c _ _ _ ?zp114_Z) ?zp114_B ?zp114_F ?zp114_X ?zp114_T ?zp114_K ?zp114_D ?zp114_U ?zp114_N trivial ?_; (case zp114_Z => assumption); (case zp114_B => k_asm); (case zp114_F => k_asm); (case zp114_X => k_asm); (case zp114_T => k_asm); (case zp114_K => first | exact rfl | assumption); (case zp114_D => ktr_room); (case zp114_U => ktr_units); (case zp114_N => k_asm); k_whole; rintro _ _ _ _ _ ⟨_, rfl⟩; (try dsimp only); (try k_fold))
  k_with "pyIter ref" => ((with_reducible show wpAny _ _ (pyIter (Value.ref _)) (fun it s₂ => LoopAtV _ _ _ _ _ _ _ _ _ it s₂) _ _); k_here; refine Held.out ?_)
  k_with "call builtin:str.join" => (k_here; refine Held.out ?_)
  k_with "call builtin:str.replace" => (k_here; refine Held.out ?_)
  k_with "binaryOp Add str str" => (k_here; refine Held.out ?_)
  k_with "inplaceOp Add str str" => (k_here; refine Held.out ?_)
  k_with "subscriptTail Name Name ref int" => (k_here; refine item_listI (by k_asm) (by k_mem) (by assumption) (by omega) (by omega) (by omega) ?_; intro _)
  k_with "binaryOp Mult str int" => (k_here; refine Held.out ?_)
  k_with "eval IfExp" => (k_here; refine Held.out ?_)
  k_with "subscriptTail Name BinOp str int" => (k_here; refine Held.out ?_)
  k_with "subscriptTail" => ((with_reducible show wpAny _ _ (subscriptTail (Expr.List _ _) _ (Value.ref _) (Value.int _ _)) _ _ _); k_here; refine Held.out ?_)
  trivial
theorem lead_c (w : World) (gl : Addr) (ws : List Value) (gs : List Int) (k : Nat) (seen : Bool) (which : Int) (tail : Str) (tw tt : Tok) (hi : IntsAre ws gs) (h7 : gs.length = 7) (hg : ∀ g ∈ gs, -100 ≤ g ∧ g ≤ 100) (hw0 : 0 ≤ which) (hw1 : which ≤ 1000000000) (ht : tail.cps.size ≤ 10) (hto : ∀ c ∈ tail.cps.toList, okC c) :
    PX w 195 3 (fun _ => True) [(gl, W.listOf ws.toArray k)] [.ref gl, .bool seen, .int which tw, .str tail tt] (leadP w gs seen which tail) := by
  w_on
  dsimp only [PX]
  k_fill
  intro mean mg mb dp un gd cn cs a ccd cl outer A₀ base h₀ L m s R B F X T hk hd hu N hpre hret
  k_dflt (walk_at "enterN")
  change Fr _ _ _ (fun y => List.lookup y [(Str.ofString "tail", .str tail tt), (Str.ofString "which", .int which tw), (Str.ofString "seen", .bool seen), (Str.ofString "gains", .ref gl)]) at F'
  w_strict k_steps
  refine ⟨?_⟩
  rename_i R1 F1 N1 S1
  refine SrcS.range (n := 16) rfl F1 N1 R1 (by decide) (by decide) (by decide) ?_
  intro g1
  refine rest_ind (J := fun i ys => StrsAre ys ((List.range i).map fun j => ⟨#[65024 + j]⟩)) ?turnA ?finA .nil
  case turnA =>
    intro i ys v I oI C oC D m₂ h tk E' hi16 hJ hv hC hx F N off ne
    obtain ⟨t9, rfl⟩ := hv
    simp only [LCg.Off3, and_true] at off
    simp only [Int.mul_one] at hx
    w_strict k_steps
    rw [List.range_succ, List.map_append, show (65024 + (i : Int)).toNat = 65024 + i from rfl]
    exact strs_snoc hJ
  case finA =>
    intro ys hJ
    unfold LCg.FinE
    intro D2 h2 tk2 F2 N2 o2
    w_strict k_steps
    try dsimp only
    refine ⟨join_listW (News.isList N2 (.head _)) (by simpa using hJ) (by decide) (by decide) ?_⟩
    intro t3 k3
    w_strict k_steps
    try dsimp only
    refine ⟨PyProof.Rows.add_str ?_ (by decide)⟩
    intro t4 k4
    have hun : (Str.ofString "\xad͏᠆᠋᠌᠍\u200b\u200c\u200d\u2060\ufeff" ++ Txt.join (Str.ofString "") ((List.range 16).map fun j => ⟨#[65024 + j]⟩)).cps.toList = unseenL := by decide
    generalize (Str.ofString "\xad͏᠆᠋᠌᠍\u200b\u200c\u200d\u2060\ufeff" ++ Txt.join (Str.ofString "") ((List.range 16).map fun j => ⟨#[65024 + j]⟩)) = un at hun ⊢
    w_strict k_steps
    refine ⟨?_⟩
    rename_i R1 F1 N1 S1
    refine' range_objsO (σ := LeadSt) ldV (ldL [(gl, W.listOf ws.toArray k)])
      (ldP gs seen which) ⟨Str.ofString "", ?a1, ?a2, ?a3⟩ ?hh ?hr ?hs ?hn ?F ?N ?hsub ?hm ?hp ?turn ?done
    case hh => rfl
    case hr => exact R1
    case hn => exact rangeSize_nat _ _
    case hs => decide
    case F => exact F1
    case N => exact N1
    case hsub => exact fun p hp => .tail _ hp
    case hm => exact ⟨by with_unfolding_all exact rfl, by with_unfolding_all exact rfl, by with_unfolding_all exact rfl, trivial⟩
    case hp => rfl
    case turn =>
      intro i t c h tk I oI hi0 hc hI F3 N3
      simp only [Int.mul_one] at F3
      dsimp only [ldL] at N3
      have hi6 : i < 6 := hi0
      have hgi : -100 ≤ gs.getD (1 + (i : Int)).toNat 0 ∧ gs.getD (1 + (i : Int)).toNat 0 ≤ 100 := by
        have hlt : (1 + (i : Int)).toNat < gs.length := by rw [h7]; exact Nat.add_lt_add_left hi6 1
        rw [List.getD_eq_getElem?_getD, List.getElem?_eq_getElem hlt]
        exact hg _ (List.getElem_mem hlt)
      have hl7 : (gs.length : Int) = 7 := by rw [h7]; rfl
      w_strict k_steps
      refine ⟨?_⟩
      rename_i R4 F4 N4 S4
      have ei : (1 + (i : Int)).toNat = i + 1 := Nat.add_comm 1 i
      rw [ei] at hgi R4
      refine' range_objsO (σ := InSt) ldW (ldL [(I, oI), (gl, W.listOf ws.toArray k)])
        (ldQ gs seen which i) ⟨c.x, c.t, c.ah⟩ ?ihh ?ihr ?ihs ?ihn ?iF ?iN ?ihsub ?ihm ?ihp ?iturn ?idone
      case ihh => rfl
      case ihr => exact R4
      case ihn => exact rangeSize_nat _ _
      case ihs => exact small_one (by decide) (by decide) (Int.le_trans (show -(2 ^ 62) ≤ (0 : Int) by decide) (abs_b hgi).1) (Int.lt_of_le_of_lt (abs_b hgi).2 (by decide))
      case iF => exact F4
      case iN => exact N4
      case ihsub => exact fun p hp => hp
      case ihm => exact ⟨by with_unfolding_all exact rfl, by with_unfolding_all exact rfl, trivial⟩
      case ihp => show c.x.cps.toList = _ ++ []; rw [hc, List.append_nil]
      case iturn =>
        intro j tj cj hj tkj J oJ hjn hcj hJ F5 N5
        simp only [Int.mul_one, Int.zero_add] at F5
        dsimp only [ldL] at N5
        have hj100 : j < 100 := by
          have h0 := (abs_b hgi).2
          clear hgi hl7 hcj hc h7 hw0 hw1 ht hu hd hi0 hi6 ei
          omega
        have htx : cj.x.cps.toList.length ≤ 10000 := by
          have h1 := textL_len seen which (fun q => by
            rcases Nat.lt_or_ge q gs.length with h | h
            · rw [List.getD_eq_getElem?_getD, List.getElem?_eq_getElem h]; exact hg _ (List.getElem_mem h)
            · rw [List.getD_eq_getElem?_getD, List.getElem?_eq_none h]; decide) i (Nat.le_of_lt hi6)
          have h2 := rowsL_len (gs.getD (i + 1) 0) seen which (i + 1) j
          have h3 : j * (i + 1 + 3) ≤ 100 * 9 := Nat.mul_le_mul (Nat.le_of_lt hj100) (Nat.add_le_add_right hi6 3)
          rw [hcj, List.length_append]
          exact Nat.le_trans (Nat.add_le_add (Nat.le_trans h1 (Nat.mul_le_mul_left 900 (Nat.le_of_lt hi6))) (Nat.le_trans h2 h3)) (by decide)
        have e1i := ei
        have hfin : ∀ (za zd z1 ze z2 z3 : Str), za.cps.toList = aheadL (gs.getD (i + 1) 0) seen which (i + 1) → zd.cps.toList = List.replicate (1 + (i : Int)).toNat 46 → z1.cps.toList = za.cps.toList ++ zd.cps.toList →
            ze.cps.toList = endL ((which + (j : Int)).fmod 3).toNat → z2.cps.toList = z1.cps.toList ++ ze.cps.toList → z3.cps.toList = cj.x.cps.toList ++ z2.cps.toList →
            z2.cps.toList.length ≤ 20 ∧ z1.cps.toList.length ≤ 10 ∧ ze.cps.toList.length ≤ 2 ∧ z3.cps.toList = textL gs seen which i ++ rowsL (gs.getD (i + 1) 0) seen which (i + 1) (j + 1) := by
          intro za zd z1 ze z2 z3 q1 q2 q3 q4 q5 q6
          have hr := rowL_len (gs.getD (i + 1) 0) seen which (i + 1) j
          rw [rowL] at hr
          rw [e1i] at q2
          have el := endL_len ((which + (j : Int)).fmod 3).toNat
          have al : (aheadL (gs.getD (i + 1) 0) seen which (i + 1)).length ≤ 1 := by unfold aheadL; split <;> simp
          refine ⟨?_, ?_, ?_, ?_⟩
          · rw [q5, q3, q1, q2, q4]; exact Nat.le_trans hr (Nat.le_trans (Nat.add_le_add_right hi6 3) (by decide))
          · rw [q3, q1, q2, List.length_append, List.length_replicate]; exact Nat.le_trans (Nat.add_le_add al hi6) (by decide)
          · rw [q4]; exact el
          · rw [q6, q5, q3, q1, q2, q4, hcj, rowsL, rowL, List.append_assoc]
        refine post_gen fun QT hQT => ?_
        w_strict k_steps
        try dsimp only
        refine ⟨join_strD (fun z => z.cps.toList = aheadL (gs.getD (i + 1) 0) seen which (i + 1)) ?_ ?_⟩
        · clear hfin htx hj100 hl7
          refine IfExp_ ?_
          w_strict k_steps
          · have hb : (decide (0 < gs.getD (1 + (i : Int)).toNat 0) == seen) = true := ‹_›
            rw [e1i] at hb
            unfold aheadL
            rw [if_pos hb]; rfl
          · have hb : (decide (0 < gs.getD (1 + (i : Int)).toNat 0) == seen) = false := ‹_›
            rw [e1i] at hb
            have hq0 : 0 ≤ (which + (1 + (i : Int))).fmod 27 := Int.fmod_nonneg (Int.add_nonneg hw0 (Int.natCast_nonneg (1 + i))) (by decide)
            have hq1 : (which + (1 + (i : Int))).fmod 27 < 27 := Int.fmod_lt_of_pos _ (by decide)
            try dsimp only
            refine ⟨item_strL hq0 (by rw [hun]; exact hq1) (Int.le_trans (Int.le_of_lt hq1) (by decide)) ?_⟩
            intro za ta ka ea0
            refine ⟨_, _, _, rfl, rfl, ?_⟩
            unfold aheadL
            rw [if_neg (by rw [show (decide (gs.getD (i + 1) 0 > 0)) = decide (0 < gs.getD (i + 1) 0) from rfl, hb]; decide), ea0, hun, show (1 + (i : Int)) = ((i + 1 : Nat) : Int) from congrArg Int.ofNat (Nat.add_comm 1 i)]
        intro za ta ka ea
        w_strict k_steps
        try dsimp only
        refine ⟨mul_strL (Int.natCast_nonneg (1 + i)) (Int.ofNat_le.mpr (Nat.le_trans (Nat.add_le_add_left (Nat.le_of_lt hi6) 1) (by decide))) ?_⟩
        intro zd td kd ed
        w_strict k_steps
        try dsimp only
        refine ⟨add_strL (by rw [ea]; unfold aheadL; split <;> simp) (by rw [ed, List.length_replicate, e1i]; exact Nat.le_trans hi6 (by decide)) ?_⟩
        intro z1 t1' k1' e1'
        w_strict k_steps
        try dsimp only
        refine ⟨item_end (by assumption) (by k_mem) (Int.fmod_nonneg (Int.add_nonneg hw0 (Int.natCast_nonneg j)) (by decide)) (Int.fmod_lt_of_pos _ (by decide)) ?_⟩
        intro ze te ee
        w_strict k_steps
        have hf := hfin _ _ _ _ ⟨(z1.cps.toList ++ ze.cps.toList).toArray⟩ ⟨(cj.x.cps.toList ++ (z1.cps.toList ++ ze.cps.toList)).toArray⟩ ea ed e1' ee (by simp) (by simp)
        try dsimp only
        refine ⟨add_strL (Nat.le_trans hf.2.1 (by decide)) (Nat.le_trans hf.2.2.1 (by decide)) ?_⟩
        intro z2 t2' k2' e2'
        w_strict k_steps
        have hf2 := hfin _ _ _ _ z2 ⟨(cj.x.cps.toList ++ z2.cps.toList).toArray⟩ ea ed e1' ee e2' (by simp)
        try dsimp only
        refine ⟨iadd_strL (Nat.le_trans htx (by decide)) (Nat.le_trans hf2.1 (by decide)) ?_⟩
        intro z3 t3' k3' e3'
        w_strict k_steps
        refine' hQT _ _ (TurnL.intro (by assumption) (by assumption) ⟨z3, t3', ?bbR1⟩ (fun p hp => ?subR1) hJ ?mR1 (hfin _ _ _ _ z2 z3 ea ed e1' ee e2' e3').2.2.2)
        case mR1 => with_unfolding_all exact LikeO.upd (LikeO.upd LikeO.base)
        case subR1 =>
          simp only [List.mem_cons, List.not_mem_nil, or_false] at hp ⊢
          rcases hp with h | h | h <;> simp only [h, true_or, or_true]
      case idone =>
        intro cj u hj tkj hcj F5 N5
        dsimp only [ldL] at N5
        w_strict k_steps
        refine TurnL.intro (by assumption) (by assumption) ⟨cj.x, cj.t, cj.ah, u (Str.ofString "turn")⟩ (fun p hp => hp) hI ?omm ?omp
        case omm =>
          intro y hy
          by_cases h1 : y = Str.ofString "text"
          · subst h1; with_unfolding_all exact rfl
          by_cases h2 : y = Str.ofString "turn"
          · subst h2; with_unfolding_all exact rfl
          by_cases h3 : y = Str.ofString "ahead"
          · subst h3; with_unfolding_all exact rfl
          simp only [upd, ovrO, if_neg h1, if_neg h2, if_neg h3, if_neg hy]
        case omp =>
          show cj.x.cps.toList = textL gs seen which (i + 1)
          rw [hcj, textL]
          rw [abs_n]
    case done =>
      intro c u h tk hc F3 N3
      dsimp only [ldL] at N3
      have hc6 : c.x.cps.toList = textL gs seen which 6 := hc
      have htx : c.x.cps.toList.length ≤ 5400 := by
        rw [hc6]
        exact textL_len seen which (fun q => by
            rcases Nat.lt_or_ge q gs.length with h | h
            · rw [List.getD_eq_getElem?_getD, List.getElem?_eq_getElem h]; exact hg _ (List.getElem_mem h)
            · rw [List.getD_eq_getElem?_getD, List.getElem?_eq_none h]; decide) 6 (Nat.le_refl _)
      have htl : tail.cps.toList.length ≤ 10 := by rw [Array.length_toList]; exact ht
      w_strict k_steps
      refine ⟨add_strL (Nat.le_trans htx (by decide)) (by decide) ?_⟩
      intro z1 t1 k1 e1
      have e1' : z1.cps.toList = c.x.cps.toList ++ [46] := e1
      have l1' : z1.cps.toList.length ≤ 5401 := by rw [e1', List.length_append]; exact Nat.add_le_add_right htx 1
      w_strict k_steps
      refine ⟨add_strL (Nat.le_trans l1' (by decide)) (Nat.le_trans htl (by decide)) ?_⟩
      intro z2 t2 k2 e2
      have l2' : z2.cps.toList.length ≤ 5411 := by rw [e2, List.length_append]; exact Nat.add_le_add l1' htl
      w_strict k_steps
      refine ⟨add_strL (Nat.le_trans l2' (by decide)) (by decide) ?_⟩
      intro z3 t3 k3 e3
      have e3' : z3.cps.toList = textL gs seen which 6 ++ [46] ++ tail.cps.toList ++ [10, 46, 46] := by rw [e3, e2, e1', hc6]; rfl
      have l3' : z3.cps.toList.length ≤ 5414 := by rw [e3, List.length_append]; exact Nat.add_le_add l2' (show (Str.ofString "\n..").cps.toList.length ≤ 3 by decide)
      have l3s : z3.cps.size ≤ 100000 := by rw [Array.length_toList] at l3'; exact Nat.le_trans l3' (by decide)
      w_strict k_steps
      have hm0 : 0 ≤ which.fmod 2 := Int.fmod_nonneg hw0 (by decide)
      have hm1 : which.fmod 2 < 2 := Int.fmod_lt_of_pos _ (by decide)
      have hmt : (which.fmod 2).toNat ≤ 2 := Int.toNat_le.mpr (Int.le_of_lt hm1)
      refine ⟨mul_strL hm0 (Int.le_trans (Int.le_of_lt hm1) (by decide)) ?_⟩
      intro z4 t4 k4 e4
      w_strict k_steps
      refine ⟨add_strL (by rw [e4, List.length_replicate]; exact Nat.le_trans hmt (by decide)) (by decide) ?_⟩
      intro z5 t5 k5 e5
      have e5' : z5.cps.toList = List.replicate (which.fmod 2).toNat 46 ++ [13, 10] := by rw [e5, e4]; rfl
      w_strict k_steps
      have hql : (quoteS z3).cps.toList = quoteL z3.cps.toList := by unfold quoteS; simp
      refine ⟨SrcT.text rfl (by assumption) (by assumption) ?szq ?_⟩
      case szq =>
        have h1 := quote_len z3.cps.toList
        have h2 : sizeLine = 16777216 := by decide
        rw [← Array.length_toList, hql]
        exact Nat.le_trans h1 (Nat.le_trans (Nat.mul_le_mul_left 4 l3') (by rw [h2]; decide))
      intro g2
      have hsent : z3.cps.toList = sentL gs seen which tail.cps.toList := e3'
      have hok := ok_sent gs seen hw0 hto
      rw [← hsent] at hok
      refine rest_indT (J := HJ (quoteL z3.cps.toList)) ?turnB ?finB (HJ.zero _)
      case turnB =>
        intro i ys v I oI C oC D m₂ h tk E' hi16 hJ hv hC hx F N off ne
        obtain ⟨cc, uu, hk, rfl⟩ := hv
        rw [← Array.getElem?_toList, hql] at hk
        simp only [LCg.Off3, and_true] at off
        w_strict k_steps
        · exact hJ.keep hk (by simpa using ‹(inB1 cc == false) = true›) (hok _ (List.mem_of_getElem? hk))
        · exact hJ.drop hk (by simpa using ‹(inB1 cc == false) = false›)
      case finB =>
        rintro ys ⟨xs, hxs, hfl, hsum, hxl⟩
        have hqz : (quoteS z3).cps.size = (quoteL z3.cps.toList).length := by rw [← Array.length_toList, hql]
        have hq4 := quote_len z3.cps.toList
        rw [hqz, List.take_length] at hfl
        rw [hqz] at hsum hxl
        unfold LCg.FinE
        intro D2 h2 tk2 F2 N2 o2
        w_strict k_steps
        refine ⟨join_listW (News.isList N2 (.head _)) (by simpa using hxs) (by decide) (by omega) ?_⟩
        intro t6 k6
        have ej : (Txt.join (Str.ofString "") xs).cps.toList = hearL (quoteL z3.cps.toList) := by rw [join_cps, hfl]
        have lj : (Txt.join (Str.ofString "") xs).cps.toList.length ≤ 100000 := by
          have e : ∀ l : List Str, (l.map (·.cps.toList)).flatten.length = (l.map (·.length)).sum := by
            intro l
            induction l with
            | nil => rfl
            | cons a r ih => rw [List.map_cons, List.flatten_cons, List.length_append, ih, List.map_cons, List.sum_cons, Array.length_toList]; rfl
          rw [join_cps, e]
          omega
        generalize Txt.join (Str.ofString "") xs = zj at ej lj ⊢
        w_strict k_steps
        refine ⟨add_strL (by rw [e5', List.length_append, List.length_replicate]; exact Nat.le_trans (Nat.add_le_add_right hmt 2) (by decide)) (Nat.le_trans lj (by decide)) ?_⟩
        intro zh th kh eh
        have eh' : zh.cps.toList = List.replicate (which.fmod 2).toNat 46 ++ [13, 10] ++ hearL (quoteL (sentL gs seen which tail.cps.toList)) := by rw [eh, e5', ej, hsent]
        have lh : zh.cps.toList.length ≤ 100010 := by
          rw [eh, e5', List.length_append, List.length_append, List.length_replicate]; exact Nat.le_trans (Nat.add_le_add (Nat.add_le_add_right hmt 2) lj) (by decide)
        have lh' : zh.length ≤ 1048576 := by rw [Array.length_toList] at lh; exact Nat.le_trans lh (by decide)
        w_strict k_steps
        refine ⟨replaceK (Nat.succ_ne_zero _) (Nat.succ_ne_zero _) (Nat.ne_of_lt (Nat.lt_succ_self _)) (by decide) (rep_fit lh' (by decide)) ?_⟩
        intro t7 k7 hk7
        have hk7' : k7 ≠ 0 := fun e => Nat.not_succ_le_zero _ (e ▸ hk7)
        have l7 : (Txt.replace zh (Str.ofString "\r\n.") (Str.ofString "\t")).length ≤ 200000 := Nat.le_trans (rep_len (by decide) (by decide)) (by rw [Array.length_toList] at lh; exact Nat.le_trans lh (by decide))
        have e7 : Txt.replace zh (Str.ofString "\r\n.") (Str.ofString "\t") = Txt.replace ⟨(hearS gs seen which tail.cps.toList).toArray⟩ (Str.ofString "\r\n.") (Str.ofString "\t") := by
          have : zh = ⟨(hearS gs seen which tail.cps.toList).toArray⟩ := by rw [hearS, ← eh']
          rw [← this]
        w_strict k_steps
        refine ⟨replaceK hk7' (Nat.succ_ne_zero _) (Nat.ne_of_lt (Nat.lt_succ_self _)) (by decide) (rep_fit (Nat.le_trans l7 (by decide)) (by decide)) ?_⟩
        intro t8 k8 hk8
        rw [e7]
        w_strict k_steps
        have l8 : (Txt.replace (Txt.replace ⟨(hearS gs seen which tail.cps.toList).toArray⟩ (Str.ofString "\r\n.") (Str.ofString "\t")) (Str.ofString ".") (Str.ofString " ")).cps.size ≤ 1000000 := by
          rw [← e7]
          exact Nat.le_trans (rep_len (by decide) (by decide)) (Nat.le_trans l7 (by decide))
        rename News _ _ _ _ => N8
        rename Fr _ _ _ _ => F8
        rename GSub _ _ _ => G8
        refine make_ws l8 (by assumption) F8 (by assumption) (by assumption) rfl ?rm ?un N8 ?_
        case rm => show dp + 1 + 2 < recursionLimit; omega
        case un => exact Nat.lt_of_le_of_lt (by rw [Nat.add_assoc]; exact Nat.add_le_add_left (by decide : 3 + 8 * 2 ≤ 8 * 3) _) hu
        intro h9 tk9 self d q norm cnt tb vs F9 N9 ne9 iv9
        have ng := ne9 (gl, W.listOf ws.toArray k) (by k_mem)
        refine endN G8 N F9 N9 (fun p hp => ?_) ⟨self, d, q, norm, cnt, tb, vs, rfl, newTo_of G8 N9 fun p hp => ⟨List.mem_append_left _ hp, fun q hq => ?_⟩, iv9⟩
        · rw [List.mem_singleton.mp hp]; exact List.mem_append_right _ (by k_mem)
        · rw [List.mem_singleton.mp hq]
          simp only [List.mem_cons, List.not_mem_nil, or_false] at hp
          rcases hp with rfl | rfl | rfl | rfl
          · exact fun e => ng.1 e.symm
          · exact fun e => ng.2.1 e.symm
          · exact fun e => ng.2.2.1 e.symm
          · exact fun e => ng.2.2.2 e.symm
end Mine
end
section -- PL5
open PySem PySem.W PyProof.Rows PySem.Spec PySem.Calls
set_option maxRecDepth 100000
namespace Mine
theorem leadS_eq (gs : List Int) (seen : Bool) (which : Int) (tail : List Nat) : (leadS gs seen which tail).cps.toList = replS [46] [32] 0 (replS [13, 10, 46] [9] 0 (hearS gs seen which tail)) := by
  have c1 : (Str.ofString "\r\n.").cps = #[13, 10, 46] := by decide
  have c2 : (Str.ofString "\t").cps = #[9] := by decide
  have c3 : (Str.ofString ".").cps = #[46] := by decide
  have c4 : (Str.ofString " ").cps = #[32] := by decide
  unfold leadS
  rw [rep_eq _ _ _ (by rw [c3]; decide) (by rw [c3]; decide), rep_eq _ _ _ (by rw [c1]; decide) (by rw [c1]; decide), c1, c2, c3, c4]
theorem hearS_eq (gs : List Int) (seen : Bool) {which : Int} (hw : 0 ≤ which) {k : Nat} (hb : inB1 k = false) (h10 : k ≠ 10) (h13 : k ≠ 13) (h46 : k ≠ 46) :
    hearS gs seen which [k] = List.replicate (which.fmod 2).toNat 46 ++ [13, 10] ++ (encE (textE gs seen 6) ++ ([46, 46] ++ ((mapB3 k).cps.toList ++ [13, 10, 46, 46, 46]))) := by
  have e : sentL gs seen which [k] = textL gs seen which 6 ++ (46 :: k :: [10, 46, 46]) := by unfold sentL; simp
  have h : hearL (quoteL (sentL gs seen which [k])) = hearQ (sentL gs seen which [k]) := rfl
  unfold hearS
  rw [h, e, text_hear gs seen hw 6 ⟨46, _, rfl, by decide⟩, tail_hear hb h10 h13 h46]
theorem b1_953 : inB1 953 = false := by decide +kernel
theorem b1_890 : inB1 890 = false := by decide +kernel
theorem m953 : (mapB3 953).cps.toList = [953] := by rw [map_eq]; decide +kernel
theorem m890 : (mapB3 890).cps.toList = [32, 953] := by rw [map_eq]; decide +kernel
noncomputable def wsR (w : Nat) (es : List Nat) (b : Int) : WS := ⟨(w :: es).foldl tabC [], b, w + 1 + (es.map fun (e : Nat) => (e : Int) + 1).sum + b, es.length + 1⟩
/-- what the lead's text is read as -/
theorem leadW_eq (gs : List Int) (seen : Bool) {which : Int} (hw : 0 ≤ which) : leadW gs seen which [953] = wsR (which.fmod 2).toNat (textE gs seen 6) 1 ∧ leadW gs seen which [890] = wsR (which.fmod 2).toNat (textE gs seen 6) 2 := by
  constructor
  · unfold leadW
    rw [leadS_eq, hearS_eq gs seen hw b1_953 (by decide) (by decide) (by decide), m953, read_eq _ _ _ (by decide), (read_ws _ _).1]
    rfl
  · unfold leadW
    rw [leadS_eq, hearS_eq gs seen hw b1_890 (by decide) (by decide) (by decide), m890, read_eq _ _ _ (by decide), (read_ws _ _).2]
    rfl
end Mine
end
section -- PL6
open PySem PySem.W PyProof.Rows PySem.Spec PySem.Calls
set_option maxRecDepth 100000
namespace Mine
/-- sum over i < len of (i // ts) * cnt[i], from place k on -/
noncomputable def colS (ts : Int) : Nat → List Int → Int
  | _, [] => 0
  | k, x :: r => ((k : Int).fdiv ts) * x + colS ts (k + 1) r
theorem colS_app (ts : Int) : ∀ (k : Nat) (a b : List Int), colS ts k (a ++ b) = colS ts k a + colS ts (k + a.length) b
  | k, [], b => by simp [colS]
  | k, x :: r, b => by
    rw [List.cons_append, colS, colS, colS_app ts (k + 1) r b, List.length_cons, show k + 1 + r.length = k + (r.length + 1) by omega]
    omega
theorem colS_zero (ts : Int) : ∀ (k n : Nat), colS ts k (List.replicate n 0) = 0
  | _, 0 => rfl
  | k, n + 1 => by rw [List.replicate_succ, colS, colS_zero ts (k + 1) n]; omega
theorem colS_set (ts : Int) : ∀ (l : List Int) (k e : Nat), e < l.length → colS ts k (l.set e (l.getD e 0 + 1)) = colS ts k l + (((k + e : Nat) : Int).fdiv ts)
  | [], _, _, h => absurd h (Nat.not_lt_zero _)
  | x :: r, k, 0, _ => by
    simp only [List.set_cons_zero, List.getD_cons_zero, colS, Nat.add_zero]
    rw [Int.mul_add]; omega
  | x :: r, k, e + 1, h => by
    simp only [List.set_cons_succ, List.getD_cons_succ, colS]
    rw [colS_set ts r (k + 1) e (by simpa using h), show k + 1 + e = k + (e + 1) by omega]
    omega
noncomputable def grown (cnt : List Int) (e : Nat) : List Int := if (e : Int) ≥ cnt.length then cnt ++ List.replicate ((e : Int) - cnt.length + 1).toNat 0 else cnt
theorem tabC_eq (cnt : List Int) (e : Nat) : tabC cnt e = (grown cnt e).set e ((grown cnt e).getD e 0 + 1) := by
  unfold tabC WS.tab grown
  simp
theorem grown_len (cnt : List Int) (e : Nat) : (grown cnt e).length = max cnt.length (e + 1) := by
  unfold grown
  split
  · rw [List.length_append, List.length_replicate]; omega
  · omega
theorem tabC_len (cnt : List Int) (e : Nat) : (tabC cnt e).length = max cnt.length (e + 1) := by rw [tabC_eq, List.length_set, grown_len]
theorem tabC_col (ts : Int) (cnt : List Int) (e : Nat) : colS ts 0 (tabC cnt e) = colS ts 0 cnt + ((e : Int).fdiv ts) := by
  rw [tabC_eq, colS_set ts _ 0 e (by rw [grown_len]; omega), Nat.zero_add]
  congr 1
  unfold grown
  split
  · rw [colS_app, colS_zero]; omega
  · rfl
theorem fold_len : ∀ (es : List Nat) (cnt : List Int), (es.foldl tabC cnt).length = es.foldl (fun m e => max m (e + 1)) cnt.length
  | [], _ => rfl
  | e :: r, cnt => by rw [List.foldl_cons, fold_len r, tabC_len, List.foldl_cons]
theorem fold_col (ts : Int) : ∀ (es : List Nat) (cnt : List Int), colS ts 0 (es.foldl tabC cnt) = colS ts 0 cnt + (es.map fun (e : Nat) => ((e : Int).fdiv ts)).sum
  | [], _ => by simp
  | e :: r, cnt => by rw [List.foldl_cons, fold_col ts r, tabC_col, List.map_cons, List.sum_cons]; omega
end Mine
end
section -- PL7
open PySem PySem.W PyProof.Rows PySem.Spec PySem.Calls
set_option maxRecDepth 100000
namespace Mine
theorem fdiv_low {t k : Nat} (h : k < t) : ((k : Nat) : Int).fdiv (t : Int) = 0 := by
  rw [Int.fdiv_eq_ediv_of_nonneg _ (by omega)]
  exact Int.ediv_eq_zero_of_lt (by omega) (by omega)
theorem colS_low (t : Nat) : ∀ (k : Nat) (l : List Int), k + l.length ≤ t → colS (t : Int) k l = 0
  | _, [], _ => rfl
  | k, x :: r, h => by
    rw [List.length_cons] at h
    rw [colS, colS_low t (k + 1) r (by omega), fdiv_low (by omega)]
    omega
theorem colS_take (ts : Int) (ns : List Int) (n : Nat) (h : n < ns.length) : colS ts 0 (ns.take (n + 1)) = colS ts 0 (ns.take n) + ((n : Nat) : Int).fdiv ts * ns.getD n 0 := by
  rw [List.take_add_one, List.getElem?_eq_getElem h, colS_app, List.length_take, Nat.min_eq_left (by omega), Nat.zero_add]
  show _ + colS ts n [ns[n]] = _
  rw [colS, colS, Int.add_zero, List.getD_eq_getElem?_getD, List.getElem?_eq_getElem h]
  rfl
theorem ilSum_col (ns : List Int) (t : Nat) : ∀ k : Nat, t + k ≤ ns.length → ilSum ns (t : Int) k = colS (t : Int) 0 (ns.take (t + k))
  | 0, h => by
    rw [ilSum, colS_low t 0 _ (by rw [List.length_take]; omega)]
  | k + 1, h => by
    rw [ilSum, ilSum_col ns t k (by omega), show t + (k + 1) = (t + k) + 1 by omega, colS_take _ _ _ (by omega)]
    rw [show (t : Int) + (k : Int) = ((t + k : Nat) : Int) by omega, show (((t + k : Nat) : Int)).toNat = t + k by omega]
theorem il_col (ns : List Int) (b nt : Int) {t : Nat} (h : 1 ≤ t) : ilOf ns b nt (t : Int) = b + (t : Int) * (colS (t : Int) 0 ns + nt) := by
  unfold ilOf
  rcases Nat.lt_or_ge ns.length t with hl | hl
  · rw [show ((ns.length : Int) - (t : Int)).toNat = 0 by omega, ilSum, colS_low t 0 ns (by omega)]
  · rw [show ((ns.length : Int) - (t : Int)).toNat = ns.length - t by omega, ilSum_col ns t _ (by omega), show t + (ns.length - t) = ns.length by omega, List.take_length]
/-- the columns of a lead -/
theorem il_wsR (w : Nat) (es : List Nat) (b : Int) {t : Nat} (h : 1 ≤ t) : ilOf (wsR w es b).cnt (wsR w es b).b (wsR w es b).nt (t : Int) = b + (t : Int) * (((w :: es).map fun (e : Nat) => ((e : Int).fdiv (t : Int)) + 1).sum) := by
  rw [il_col _ _ _ h]
  unfold wsR
  dsimp only
  rw [fold_col]
  have e : ∀ l : List Nat, (l.map fun (e : Nat) => ((e : Int).fdiv (t : Int)) + 1).sum = (l.map fun (e : Nat) => ((e : Int).fdiv (t : Int))).sum + l.length := by
    intro l
    induction l with
    | nil => rfl
    | cons a r ih => simp only [List.map_cons, List.sum_cons, List.length_cons, ih]; omega
  rw [e, List.length_cons]
  simp [colS]
/-- the number of signs read is the column at tab size one -/
theorem n_wsR (w : Nat) (es : List Nat) (b : Int) : (wsR w es b).n = ilOf (wsR w es b).cnt (wsR w es b).b (wsR w es b).nt 1 := by
  have := il_wsR w es b (t := 1) (Nat.le_refl _)
  rw [show ((1 : Nat) : Int) = 1 from rfl] at this
  rw [this]
  unfold wsR
  simp only [List.map_cons, List.sum_cons, Int.fdiv_one, Int.one_mul]
  omega
end Mine
end
section -- LD
open PySem PySem.W PyProof.Rows PySem.Spec PySem.Calls
set_option maxRecDepth 100000
namespace Mine
noncomputable def tabsL (gs : List Int) (c7 size : Int) : Nat → Int
  | 0 => 1 + c7.fmod 2 * (1 : Int).fdiv size
  | k + 1 => tabsL gs c7 size k + (if gs.getD (k + 1) 0 < 0 then -gs.getD (k + 1) 0 else gs.getD (k + 1) 0) * (1 + (1 + (k : Int) - (if 0 < gs.getD (k + 1) 0 then 1 else 0)).fdiv size)
noncomputable def lowL (gs : List Int) (mo c7 size : Int) : Int := size * tabsL gs c7 size 6 + (if mo < 0 then 2 else 1)
noncomputable def dueL (gs ws : List Int) (mo c7 : Int) : Nat → List Row
  | 0 => []
  | i + 1 => dueL gs ws mo c7 i ++ [(1 + (i : Int), lowL gs mo c7 (1 + (i : Int)) + (1 + (i : Int)) * ws.getD (i + 1) 0 + mo, lowL gs mo c7 (1 + (i : Int)))]
theorem dueL_len (gs ws : List Int) (mo c7 : Int) : ∀ i, (dueL gs ws mo c7 i).length ≤ i
  | 0 => Nat.le_refl _
  | i + 1 => by rw [dueL, List.length_append]; have := dueL_len gs ws mo c7 i; simp only [List.length_cons, List.length_nil]; omega
end Mine
end
section -- PL8
open PySem PySem.W PyProof.Rows PySem.Spec PySem.Calls
set_option maxRecDepth 100000
namespace Mine
theorem sum_rep (f : Nat → Int) (e : Nat) : ∀ n : Nat, ((List.replicate n e).map f).sum = (n : Int) * f e
  | 0 => by simp
  | n + 1 => by
    rw [List.replicate_succ, List.map_cons, List.sum_cons, sum_rep f e n]
    have : ((n + 1 : Nat) : Int) * f e = (n : Int) * f e + f e := by rw [show ((n + 1 : Nat) : Int) = (n : Int) + 1 from rfl, Int.add_mul, Int.one_mul]
    omega
noncomputable def textS (f : Nat → Int) (gs : List Int) (seen : Bool) : Nat → Int
  | 0 => 0
  | i + 1 => textS f gs seen i + ((gs.getD (i + 1) 0).natAbs : Int) * f (eRow (gs.getD (i + 1) 0) seen (i + 1))
theorem sum_text (f : Nat → Int) (gs : List Int) (seen : Bool) : ∀ i, ((textE gs seen i).map f).sum = textS f gs seen i
  | 0 => rfl
  | i + 1 => by rw [textE, List.map_append, List.sum_append, sum_text f gs seen i, sum_rep, textS]
theorem abs_eq (g : Int) : (g.natAbs : Int) = if g < 0 then -g else g := by split <;> omega
theorem eRow_second (g : Int) (k : Nat) : ((eRow g false (k + 1) : Nat) : Int) = 1 + (k : Int) - (if 0 < g then 1 else 0) := by
  unfold eRow
  by_cases h : 0 < g
  · rw [if_neg (by simp [h]), if_pos h]; omega
  · rw [if_pos (by simp [h]), if_neg h]; omega
theorem text_tabs (gs : List Int) (c7 t : Int) : ∀ i, 1 + c7.fmod 2 * (1 : Int).fdiv t + textS (fun e => (e : Int).fdiv t + 1) gs false i = tabsL gs c7 t i
  | 0 => by rw [textS, tabsL]; omega
  | i + 1 => by
    rw [textS, tabsL, ← text_tabs gs c7 t i, abs_eq, eRow_second, Int.add_comm (Int.fdiv _ t) 1]
    omega
/-- the second lead's column is the law's low -/
theorem low_eq (gs : List Int) {c7 : Int} (h7 : 0 ≤ c7) (b : Int) {t : Nat} (ht : 1 ≤ t) : ilOf (wsR (c7.fmod 2).toNat (textE gs false 6) b).cnt (wsR (c7.fmod 2).toNat (textE gs false 6) b).b (wsR (c7.fmod 2).toNat (textE gs false 6) b).nt (t : Int) = b + (t : Int) * tabsL gs c7 (t : Int) 6 := by
  rw [il_wsR _ _ _ ht, List.map_cons, List.sum_cons, sum_text (fun e => (e : Int).fdiv (t : Int) + 1), ← text_tabs gs c7 (t : Int) 6]
  have h0 : 0 ≤ c7.fmod 2 := Int.fmod_nonneg h7 (by decide)
  have h1 : c7.fmod 2 < 2 := Int.fmod_lt_of_pos _ (by decide)
  have hw : (((c7.fmod 2).toNat : Nat) : Int).fdiv (t : Int) = c7.fmod 2 * (1 : Int).fdiv (t : Int) := by
    have : c7.fmod 2 = 0 ∨ c7.fmod 2 = 1 := by omega
    rcases this with h | h
    · rw [h]; simp
    · rw [h]; simp
  rw [hw, Int.add_comm (c7.fmod 2 * _) 1]
end Mine
end
local macro_rules | `(tactic| k_mem) => `(tactic| assumption)
section -- G2
open PySem PySem.W PyProof.Rows PySem.Spec PySem.Calls
set_option maxRecDepth 100000
set_option maxHeartbeats 8000000
namespace Mine
noncomputable def GainsOk (w1 w2 w3 w4 w5 w6 g1 g2 g3 g4 g5 g6 : Int) : Prop := w1 = g1 + g2 + g3 + g4 + g5 + g6 ∧ w2 = g2 + g4 + g6 ∧ w3 = g3 + g6 ∧ w4 = g4 ∧ w5 = g5 ∧ w6 = g6
theorem fr_agreeG {h₀ h : Heap} {L : Addr} {m : Str → Option Value} {vs : List (Str × Value)} (F : Fr h₀ L h m) (ha : agree vs m) : Fr h₀ L h (ovr vs m) := by
  have e : ovr vs m = m := funext (ovr_agree ha)
  rw [e]; exact F
noncomputable def cntM (i : Nat) : Nat := [0, 0, 0, 1, 2, 5].getD i 0
theorem cntM_small : ∀ i : Nat, i < 6 → Builtin.Range.small (2 * (6 + (i : Int) * -1)) 7 (6 + (i : Int) * -1) = true := by decide
theorem cntM_size : ∀ i : Nat, i < 6 → Builtin.Range.rangeSize (2 * (6 + (i : Int) * -1)) 7 (6 + (i : Int) * -1) = ((cntM i : Nat) : Int) := by decide
theorem cntM_le : ∀ i : Nat, i < 6 → cntM i ≤ 5 := by decide
noncomputable def idxM (i q : Nat) : Nat := 2 * (6 - i) + q * (6 - i)
theorem idxM_eq : ∀ i : Nat, i < 6 → ∀ q : Nat, q < 5 → 2 * (6 + (i : Int) * -1) + (q : Int) * (6 + (i : Int) * -1) = (idxM i q : Int) := by decide
theorem idxM_lt : ∀ i : Nat, i < 6 → ∀ q : Nat, q < 5 → q < cntM i → idxM i q < 7 := by decide
noncomputable def mulL (ns : List Int) (i : Nat) : Nat → List Int
  | 0 => []
  | q + 1 => mulL ns i q ++ [ns.getD (idxM i q) 0]
/-- what the sizes that are done say -/
noncomputable def GInv (w1 w2 w3 w4 w5 w6 : Int) (i : Nat) (ns : List Int) : Prop := ∃ a1 a2 a3 a4 a5 a6, ns = [0, a1, a2, a3, a4, a5, a6] ∧ (1 ≤ i → w6 = a6) ∧ (2 ≤ i → w5 = a5) ∧ (3 ≤ i → w4 = a4) ∧ (4 ≤ i → w3 = a3 + a6) ∧ (5 ≤ i → w2 = a2 + a4 + a6) ∧ (6 ≤ i → w1 = a1 + a2 + a3 + a4 + a5 + a6)
theorem GInv.step {w1 w2 w3 w4 w5 w6 : Int} {i : Nat} (hi : i < 6) {ns : List Int} (h : GInv w1 w2 w3 w4 w5 w6 i ns) : GInv w1 w2 w3 w4 w5 w6 (i + 1) (ns.set (6 - i) ([0, w1, w2, w3, w4, w5, w6, 0].getD (6 - i) 0 - (mulL ns i (cntM i)).sum)) := by
  obtain ⟨a1, a2, a3, a4, a5, a6, rfl, h1, h2, h3, h4, h5, h6⟩ := h
  match i, hi with
  | 0, _ => exact ⟨a1, a2, a3, a4, a5, _, rfl, fun _ => (Int.sub_zero _).symm, fun q => absurd q (by decide), fun q => absurd q (by decide), fun q => absurd q (by decide), fun q => absurd q (by decide), fun q => absurd q (by decide)⟩
  | 1, _ => exact ⟨a1, a2, a3, a4, _, a6, rfl, fun _ => h1 (by decide), fun _ => (Int.sub_zero _).symm, fun q => absurd q (by decide), fun q => absurd q (by decide), fun q => absurd q (by decide), fun q => absurd q (by decide)⟩
  | 2, _ => exact ⟨a1, a2, a3, _, a5, a6, rfl, fun _ => h1 (by decide), fun _ => h2 (by decide), fun _ => (Int.sub_zero _).symm, fun q => absurd q (by decide), fun q => absurd q (by decide), fun q => absurd q (by decide)⟩
  | 3, _ => exact ⟨a1, a2, _, a4, a5, a6, rfl, fun _ => h1 (by decide), fun _ => h2 (by decide), fun _ => h3 (by decide), fun _ => by show w3 = w3 - (a6 + 0) + a6; clear h1 h2 h3 h4 h5 h6; omega, fun q => absurd q (by decide), fun q => absurd q (by decide)⟩
  | 4, _ => exact ⟨a1, _, a3, a4, a5, a6, rfl, fun _ => h1 (by decide), fun _ => h2 (by decide), fun _ => h3 (by decide), fun _ => h4 (by decide), fun _ => by show w2 = w2 - (a4 + (a6 + 0)) + a4 + a6; clear h1 h2 h3 h4 h5 h6; omega, fun q => absurd q (by decide)⟩
  | 5, _ => exact ⟨_, a2, a3, a4, a5, a6, rfl, fun _ => h1 (by decide), fun _ => h2 (by decide), fun _ => h3 (by decide), fun _ => h4 (by decide), fun _ => h5 (by decide), fun _ => by show w1 = w1 - (a2 + (a3 + (a4 + (a5 + (a6 + 0))))) + a2 + a3 + a4 + a5 + a6; clear h1 h2 h3 h4 h5 h6; omega⟩
theorem GInv.ok {w1 w2 w3 w4 w5 w6 : Int} {ns : List Int} (h : GInv w1 w2 w3 w4 w5 w6 6 ns) : ∃ a1 a2 a3 a4 a5 a6, ns = [0, a1, a2, a3, a4, a5, a6] ∧ GainsOk w1 w2 w3 w4 w5 w6 a1 a2 a3 a4 a5 a6 := by
  obtain ⟨a1, a2, a3, a4, a5, a6, rfl, h1, h2, h3, h4, h5, h6⟩ := h
  exact ⟨a1, a2, a3, a4, a5, a6, rfl, h6 (by decide), h5 (by decide), h4 (by decide), h3 (by decide), h2 (by decide), h1 (by decide)⟩
theorem compEnd_sameG {h₀ h' : Heap} {L I C D : Addr} {m : Str → Option Value} {s₁ : Shared} {oI oC oD : Obj} {S : List (Addr × Obj) → Prop} {rest : Value → List (Addr × Obj) → Prop} {y : Value} {tk : Nat} {news : List (Addr × Obj)}
    (F : Fr h₀ L h' m) (N : News h₀ L h' ((I, oI) :: (C, oC) :: (D, oD) :: news)) (off : LCg.Off3 I C D news) (hS : S news) (r : rest y news) : LCg.CompEnd h₀ L m s₁ I oI C oC D oD S rest y { s₁ with heap := h', toks := tk } := ⟨h', tk, news, rfl, F, N, off, hS, r⟩
theorem kw0_G2 : True := by
  k_with_none
  k_with "storeName" => (k_here; k_dflt (first | (refine storeX_Ui (by k_asm) (by k_asm) ?_ (by rfl) (by rfl); k_whole; intro _ _ _ _ _) | (refine storeX_Us (by k_asm) (by k_asm) ?_ (by rfl) (by rfl); k_whole; intro _ _ _ _ _) | (refine storeX_U (by k_asm) (by k_asm) ?_ (by rfl) (by rfl); k_whole; intro _ _ _ _)); (try k_sweep))
  k_with "eval Constant int" => (refine int_l ?_)
  k_with "binaryOp Add int int" => (refine add_l ?_)
  k_with "binaryOp Sub int int" => (refine sub_l ?_)
  k_with "enterNC" => (refine' enterNC ?zNC_k1 ?zNC_k2 ?zNC_k3 ?zNC_k4 ?zNC_k5 ?zNC_kA ?zNC_kF ?zNC_kK ?zNC_k6 ?zNC_k7 ?zNC_k8 ?zNC_k9 ?zNC_kB ?zNC_kD ?_ ?zNC_kR ?zNC_c2 ?zNC_c3 ?zNC_c4; (case zNC_kA => exact rfl); (case zNC_kF => exact rfl); (case zNC_kK => assumption); (case zNC_k1 => k_asm); (case zNC_k2 => k_asm); (case zNC_k3 => k_asm); (case zNC_k4 => k_asm); (case zNC_k5 => k_asm); (case zNC_kR => assumption); (case zNC_k6 => k_is); (case zNC_k7 => k_is); (case zNC_k8 => ktr_room); (case zNC_k9 => exact BindsTo.of_eq rfl); (case zNC_kB => exact rfl); (case zNC_kD => decide +kernel); (case zNC_c2 => exact rfl); (case zNC_c3 => exact rfl); (case zNC_c4 => exact rfl); k_whole; intro g' L' h' tk' cells' F' N' Y' B' X' T' G' l1; (try k_lt l1); k_cells Y'; (try simp only [List.cons_append, List.nil_append] at N'); (try dsimp only); (try k_lift B'); (try k_fold))
  k_with "eval ListComp" => (k_here; k_dflt (refine ListComp_S (F₀ := by k_asm) (by rfl) (by decide) (by rfl) (by decide) (by rfl) ?_))
  k_with "SrcS" => (k_here; refine Held.out ?_)
  k_with "pyIter ref" => ((with_reducible show wpAny _ _ (pyIter (Value.ref _)) (fun it s₂ => LoopAtV _ _ _ _ _ _ _ _ _ it s₂) _ _); k_here; refine Held.out ?_)
  k_with "setItem ref int" => (k_here; refine Held.out ?_)
  k_with "storeName" => (k_here; k_dflt (refine' storeX_C ?zs_F ?zs_N ?zs_c ?zs_U ?zs_d ?_ ?zs_a ?zs_b; (case zs_a => rfl); (case zs_b => rfl); (case zs_F => k_asm); (case zs_N => k_asm); (case zs_c => rfl); (case zs_U => k_updF); (case zs_d => k_asm); k_whole; intro h' o' F' N' d'; (try simp only [show Int.toNat 7 = 7 from rfl, List.replicate_succ, List.replicate_zero, List.flatten_cons, List.flatten_nil, List.cons_append, List.nil_append] at N'); (try dsimp only at N'); (try k_sweep)))
  k_with "subscriptTail Name Name ref int" => (k_here; refine item_listI (by k_asm) (by k_mem) (by assumption) (by omega) (by omega) (by omega) ?_; intro _)
  k_with "CompEnd" => (refine compEnd_sameG (by assumption) (by assumption) (by assumption) (by exact trivial) ?_; refine ⟨rfl, ?_⟩)
  trivial
noncomputable abbrev gPost (GI : Nat → List Int → Prop) (H : Heap) (v : Value) (h' : Heap) : Prop := ∃ l us ns, v = .ref l ∧ NewTo H h' [(l, W.listOf us.toArray 0)] ∧ IntsAre us ns ∧ GI 6 ns
noncomputable abbrev gLed (D : Addr) (nw : List (Addr × Obj)) (c : List Value) : List (Addr × Obj) := (D, W.listOf c.toArray 0) :: nw
noncomputable abbrev gTurn (GI : Nat → List Int → Prop) (i : Nat) (c : List Value) : Prop := ∃ ns, IntsAre c ns ∧ GI i ns
/-- the walk, whatever is kept of the sizes -/
theorem gains_w (w : World) (wl : Addr) (W8 : List Int) (wv : List Value) (k : Nat) (hW : IntsAre wv W8) (hl8 : (W8.length : Int) = 8) (GI : Nat → List Int → Prop) (hlen : ∀ i ns, GI i ns → (ns.length : Int) = 7) (hz : GI 0 [0, 0, 0, 0, 0, 0, 0])
    (hst : ∀ i ns, i < 6 → GI i ns → GI (i + 1) (ns.set (6 - i) (W8.getD (6 - i) 0 - (mulL ns i (cntM i)).sum))) :
    PX w 190 2 (fun _ => True) [(wl, W.listOf wv.toArray k)] [.ref wl] (gPost GI) := by
  w_on
  dsimp only [PX]
  k_fill
  intro mean mg mb dp un gd cn cs a ccd cl outer A₀ base h₀ L m s R B F X T hk hd hu N hpre hret
  k_dflt (walk_at "enterNC")
  w_strict k_steps
  refine ⟨?_⟩
  rename_i R1 F1 N1 S1
  clear S1
  dsimp only at R1 F1 N1 ⊢
  obtain ⟨D, nw, N2, mc, mw, hne, dc⟩ : ∃ D nw, News g' L' _ ((D, W.listOf [Value.int 0 tk', Value.int 0 tk', Value.int 0 tk', Value.int 0 tk', Value.int 0 tk', Value.int 0 tk', Value.int 0 tk'].toArray 0) :: nw) ∧ (L' + 1, o') ∈ nw ∧ (wl, W.listOf wv.toArray k) ∈ nw ∧
      (∀ p ∈ nw, @Ne Nat p.1 D) ∧ o'.data = .cell (some (.ref D)) := ⟨_, _, N1, by k_mem, by k_mem, fun p hp => by
        simp only [List.mem_cons, List.not_mem_nil, or_false] at hp
        rcases hp with rfl | rfl | rfl <;> (refine neN ?_; dsimp only; omega), d'⟩
  obtain ⟨m1, F2⟩ : ∃ m1, Fr g' L' _ (ovr [(Str.ofString "wanted", .ref wl)] m1) := ⟨_, fr_agreeG F1 ⟨by with_unfolding_all exact rfl, trivial⟩⟩
  clear F1 N1 hpre
  refine' range_objs (σ := List Value) (fun _ => []) (gLed D nw) (gTurn GI) [.int 0 tk', .int 0 tk', .int 0 tk', .int 0 tk', .int 0 tk', .int 0 tk', .int 0 tk'] ?hh ?hr ?hs ?hn ?F ?N ?hsub ?hm ?hp ?turn ?done
  case hh => rfl
  case hr => exact R1
  case hn => exact (rfl : _ = ((6 : Nat) : Int))
  case hs => decide
  case F => exact F2
  case N => exact N2
  case hsub => exact fun p hp => hp
  case hm => exact trivial
  case hp => exact ⟨_, .cons _ _ (.cons _ _ (.cons _ _ (.cons _ _ (.cons _ _ (.cons _ _ (.cons _ _ .nil)))))), hz⟩
  case turn =>
    intro i t c h tk I oI hi hc hI F3 N3
    obtain ⟨ns, hns, hinv⟩ := hc
    have hl7 := hlen _ _ hinv
    dsimp only [gLed] at N3
    dsimp only [ovr] at F3
    clear F2 N2 R1
    w_strict k_steps
    refine ⟨?_⟩
    rename_i R4 F4 N4 S4
    clear S4
    dsimp only at R4 F4 N4 ⊢
    have c5 := cntM_le i hi
    refine SrcS.range rfl F4 N4 R4 (cntM_small i hi) (cntM_size i hi) (Nat.le_trans c5 (by decide)) ?_
    intro gg
    refine rest_ind (J := fun q ys => IntsAre ys (mulL ns i q)) ?tC ?fC IntsAre.nil
    case tC =>
      intro q ys v I2 oI2 C oC D2 m₂ h2 tk2 E' hq hJ hv hC hx F5 N5 off ne
      obtain ⟨t9, rfl⟩ := hv
      have q5 : q < 5 := Nat.lt_of_lt_of_le hq c5
      have e1 := idxM_eq i hi q q5
      have e2 := idxM_lt i hi q q5 hq
      rw [e1] at hx
      w_strict k_steps
      show IntsAre _ (mulL ns i q ++ [_])
      exact ints_app hJ (.cons _ _ .nil)
    case fC =>
      intro ys hJ
      unfold LCg.FinE
      intro D3 h3 tk3 F5 N5 o3
      w_strict k_steps
      have eT : (6 + (i : Int) * -1).toNat = 6 - i := by clear hne hinv hl8 hJ; omega
      refine ⟨set_listI (keep := (I, oI) :: nw) (by assumption) (by assumption) (.tail _ (.tail _ (.head _))) (fun p hp => ?_) hns (by omega) (by omega) (by omega) ?_⟩
      · rcases List.mem_cons.mp hp with rfl | hp
        · exact ⟨.tail _ (.head _), Ne.symm (hI _ (.head _))⟩
        · exact ⟨.tail _ (.tail _ (.tail _ hp)), hne p hp⟩
      intro h6 ws6 F6 i6 N6
      w_strict k_steps
      refine TurnL.intro (by assumption) (by assumption) ws6 (fun p hp => ?_) (fun p hp => ?_) (fun y hy => by simp only [upd, ovr, if_neg hy]) ?_
      · rcases List.mem_cons.mp hp with hp | hp
        · rw [hp]; exact .tail _ (.head _)
        · rcases List.mem_cons.mp hp with hp | hp
          · rw [hp]; exact .head _
          · exact .tail _ (.tail _ hp)
      · rcases List.mem_cons.mp hp with rfl | hp
        · exact hI (D, W.listOf c.toArray 0) (.head _)
        · exact hI p (.tail _ hp)
      · rw [eT] at i6
        exact ⟨_, i6, hst _ _ hi hinv⟩
  case done =>
    intro c u h tk hc F3 N3
    dsimp only [ovr] at F3
    w_strict k_steps
    obtain ⟨ns, hns, hinv⟩ := hc
    rename GSub _ _ _ => G
    refine endN G (by assumption) F3 N3 (fun p hp => ?_) ?_
    · rw [List.mem_singleton.mp hp]; exact .tail _ mw
    exact ⟨D, c, ns, rfl, ⟨new_of G N3 (.head _) fun p hp => by rw [List.mem_singleton.mp hp]; exact Ne.symm (hne _ mw), trivial⟩, hns, hinv⟩
/-- what the gains are, of lists -/
noncomputable def GOk (wls gs : List Int) : Prop := ∃ w g : Nat → Int, wls = [0, w 1, w 2, w 3, w 4, w 5, w 6, 0] ∧ gs = [0, g 1, g 2, g 3, g 4, g 5, g 6] ∧ GainsOk (w 1) (w 2) (w 3) (w 4) (w 5) (w 6) (g 1) (g 2) (g 3) (g 4) (g 5) (g 6)
noncomputable abbrev gainsP (W8 : List Int) (H : Heap) (v : Value) (h' : Heap) : Prop := ∃ l us ns, v = .ref l ∧ NewTo H h' [(l, W.listOf us.toArray 0)] ∧ IntsAre us ns ∧ GOk W8 ns
theorem gains_c (w : World) (wl : Addr) (W8 : List Int) (wv : List Value) (k : Nat) (hsh : ∃ w : Nat → Int, W8 = [0, w 1, w 2, w 3, w 4, w 5, w 6, 0]) (hW : IntsAre wv W8) :
    PX w 190 2 (fun _ => True) [(wl, W.listOf wv.toArray k)] [.ref wl] (gainsP W8) := by
  obtain ⟨wf, rfl⟩ := hsh
  intro mean mg mb dp un gd cn cs a ccd cl outer A₀ base h₀ L m s R B F X T hk hd hu N hpre hret
  refine gains_w w wl _ wv k hW rfl (GInv (wf 1) (wf 2) (wf 3) (wf 4) (wf 5) (wf 6)) ?_ ?_ (fun i ns hi h => h.step hi) mean mg mb dp un gd cn cs a ccd cl outer A₀ base h₀ L m s R B F X T hk hd hu N hpre fun h' tk' v st hp => hret h' tk' v st ?_
  · rintro i ns ⟨_, _, _, _, _, _, rfl, _⟩; rfl
  · exact ⟨0, 0, 0, 0, 0, 0, rfl, fun q => absurd q (by decide), fun q => absurd q (by decide), fun q => absurd q (by decide), fun q => absurd q (by decide), fun q => absurd q (by decide), fun q => absurd q (by decide)⟩
  obtain ⟨l, us, ns, hv, hN, hns, hG⟩ := hp
  obtain ⟨a1, a2, a3, a4, a5, a6, e, hok⟩ := hG.ok
  exact ⟨l, us, ns, hv, hN, hns, wf, fun n => ([0, a1, a2, a3, a4, a5, a6] : List Int).getD n 0, rfl, e, hok⟩
end Mine
end
section -- PL9
open PySem PySem.W PyProof.Rows PySem.Spec PySem.Calls
set_option maxRecDepth 100000
namespace Mine
noncomputable def dS (f : Nat → Int) (gs : List Int) : Nat → Int
  | 0 => 0
  | i + 1 => dS f gs i + gs.getD (i + 1) 0 * (f (i + 1) - f i)
theorem text_diff (f : Nat → Int) (gs : List Int) : ∀ i, textS f gs true i = textS f gs false i + dS f gs i
  | 0 => rfl
  | i + 1 => by
    rw [textS, textS, dS, text_diff f gs i, abs_eq]
    generalize gs.getD (i + 1) 0 = g
    by_cases h : 0 < g
    · have e1 : eRow g true (i + 1) = i + 1 := by unfold eRow; rw [if_pos (by simp [h])]
      have e2 : eRow g false (i + 1) = i := by unfold eRow; rw [if_neg (by simp [h])]; rfl
      rw [e1, e2, if_neg (by omega), Int.mul_sub]; omega
    · have e1 : eRow g true (i + 1) = i := by unfold eRow; rw [if_neg (by simp [h])]; rfl
      have e2 : eRow g false (i + 1) = i + 1 := by unfold eRow; rw [if_pos (by simp [h])]
      rw [e1, e2]
      by_cases h2 : g < 0
      · rw [if_pos h2, Int.neg_mul, Int.neg_mul, Int.mul_sub]; omega
      · have : g = 0 := by omega
        subst this; simp
theorem dS_at {w1 w2 w3 w4 w5 w6 g1 g2 g3 g4 g5 g6 : Int} (h : GainsOk w1 w2 w3 w4 w5 w6 g1 g2 g3 g4 g5 g6) {t : Nat} (h1 : 1 ≤ t) (h7 : t ≤ 7) :
    dS (fun e => (e : Int).fdiv (t : Int) + 1) [0, g1, g2, g3, g4, g5, g6] 6 = [0, w1, w2, w3, w4, w5, w6, 0].getD t 0 := by
  unfold GainsOk at h
  have h' : t = 1 ∨ t = 2 ∨ t = 3 ∨ t = 4 ∨ t = 5 ∨ t = 6 ∨ t = 7 := by omega
  simp only [dS, List.getD_cons_succ, List.getD_cons_zero]
  rcases h' with rfl | rfl | rfl | rfl | rfl | rfl | rfl
  all_goals first | (simp [Int.fdiv]; done) | (simp [Int.fdiv]; omega)
/-- the first lead's column -/
theorem high_eq {w1 w2 w3 w4 w5 w6 g1 g2 g3 g4 g5 g6 : Int} (h : GainsOk w1 w2 w3 w4 w5 w6 g1 g2 g3 g4 g5 g6) {c7 : Int} (hc : 0 ≤ c7) (b : Int) {t : Nat} (h1 : 1 ≤ t) (h7 : t ≤ 7) :
    ilOf (wsR (c7.fmod 2).toNat (textE [0, g1, g2, g3, g4, g5, g6] true 6) b).cnt (wsR (c7.fmod 2).toNat (textE [0, g1, g2, g3, g4, g5, g6] true 6) b).b (wsR (c7.fmod 2).toNat (textE [0, g1, g2, g3, g4, g5, g6] true 6) b).nt (t : Int) =
      b + (t : Int) * (tabsL [0, g1, g2, g3, g4, g5, g6] c7 (t : Int) 6 + [0, w1, w2, w3, w4, w5, w6, 0].getD t 0) := by
  have lo := low_eq [0, g1, g2, g3, g4, g5, g6] hc b h1
  rw [il_wsR _ _ _ h1, List.map_cons, List.sum_cons, sum_text (fun e => (e : Int).fdiv (t : Int) + 1)] at lo ⊢
  rw [text_diff, dS_at h h1 h7]
  generalize [0, w1, w2, w3, w4, w5, w6, 0].getD t 0 = x
  rw [Int.mul_add (t : Int) (tabsL _ _ _ _) x, ← Int.add_assoc b, ← lo, ← Int.add_assoc _ (textS _ _ _ _) x, Int.mul_add]
  omega
end Mine
end
section -- PL10
open PySem PySem.W PyProof.Rows PySem.Spec PySem.Calls
set_option maxRecDepth 100000
namespace Mine
theorem mx_ge : ∀ (es : List Nat) (m : Nat), m ≤ es.foldl (fun m e => max m (e + 1)) m ∧ ∀ e ∈ es, e + 1 ≤ es.foldl (fun m e => max m (e + 1)) m
  | [], m => ⟨Nat.le_refl _, fun _ h => nomatch h⟩
  | a :: r, m => by
    obtain ⟨h1, h2⟩ := mx_ge r (max m (a + 1))
    rw [List.foldl_cons]
    refine ⟨by omega, fun e he => ?_⟩
    rcases List.mem_cons.mp he with rfl | he
    · omega
    · exact h2 e he
theorem mx_mem : ∀ (es : List Nat) (m : Nat), es.foldl (fun m e => max m (e + 1)) m = m ∨ ∃ e ∈ es, es.foldl (fun m e => max m (e + 1)) m = e + 1
  | [], _ => .inl rfl
  | a :: r, m => by
    rw [List.foldl_cons]
    rcases mx_mem r (max m (a + 1)) with h | ⟨e, he, h⟩
    · rw [h]
      by_cases q : m ≤ a + 1
      · exact .inr ⟨a, .head _, by omega⟩
      · exact .inl (by omega)
    · exact .inr ⟨e, .tail _ he, h⟩
theorem textE_mem {gs : List Int} {seen : Bool} {e : Nat} : ∀ {i : Nat}, e ∈ textE gs seen i ↔ ∃ k, k < i ∧ gs.getD (k + 1) 0 ≠ 0 ∧ e = eRow (gs.getD (k + 1) 0) seen (k + 1)
  | 0 => by
    constructor
    · intro h; cases h
    · rintro ⟨k, h, _⟩; exact absurd h (Nat.not_lt_zero _)
  | i + 1 => by
    rw [textE, List.mem_append, textE_mem, List.mem_replicate]
    constructor
    · rintro (⟨k, h1, h2, h3⟩ | ⟨h1, h2⟩)
      · exact ⟨k, by omega, h2, h3⟩
      · exact ⟨i, by omega, by omega, h2⟩
    · rintro ⟨k, h1, h2, h3⟩
      by_cases q : k = i
      · subst q; exact .inr ⟨by omega, h3⟩
      · exact .inl ⟨k, by omega, h2, h3⟩
theorem eRow_le (g : Int) (seen : Bool) (k : Nat) : eRow g seen k ≤ k := by unfold eRow; split <;> omega
theorem cnt_len (w : Nat) (es : List Nat) (b : Int) : (wsR w es b).cnt.length = (w :: es).foldl (fun m e => max m (e + 1)) 0 := by
  unfold wsR
  rw [fold_len]
  rfl
theorem cnt_le (w : Nat) (hw : w ≤ 1) (gs : List Int) (seen : Bool) (b : Int) : 1 ≤ (wsR w (textE gs seen 6) b).cnt.length ∧ (wsR w (textE gs seen 6) b).cnt.length ≤ 7 := by
  rw [cnt_len]
  refine ⟨Nat.le_trans (by omega) ((mx_ge (w :: textE gs seen 6) 0).2 w (.head _)), ?_⟩
  rcases mx_mem (w :: textE gs seen 6) 0 with h | ⟨e, he, h⟩
  · omega
  · rw [h]
    rcases List.mem_cons.mp he with rfl | he
    · omega
    · obtain ⟨k, h1, _, rfl⟩ := textE_mem.mp he
      have := eRow_le (gs.getD (k + 1) 0) seen (k + 1)
      omega
end Mine
end
section -- M5
open PySem PySem.W PyProof.Rows PySem.Spec PySem.Calls
set_option maxRecDepth 100000
set_option maxHeartbeats 8000000
namespace Mine
noncomputable def topN (ns ns2 : List Int) (b b2 : Int) : Int := (if lrOf ns2 b2 > lrOf ns b then lrOf ns2 b2 else lrOf ns b) + 1
noncomputable def neRows (ns ns2 : List Int) (b b2 nt nt2 : Int) : List Row := rowsP (fun ts => decide (ilOf ns b nt ts ≠ ilOf ns2 b2 nt2 ts)) (ilOf ns b nt) (ilOf ns2 b2 nt2) (topN ns ns2 b b2).toNat
theorem lr_le {ns : List Int} {b : Int} (hz : ns.length ≤ 100000) (hb : b ≤ 100000) : lrOf ns b ≤ 100000 := by unfold lrOf; split <;> omega
theorem top_le {ns ns2 : List Int} {b b2 : Int} (hz : ns.length ≤ 100000) (hb : b ≤ 100000) (hz2 : ns2.length ≤ 100000) (hb2 : b2 ≤ 100000) : topN ns ns2 b b2 ≤ 100001 := by
  have := lr_le hz hb; have := lr_le hz2 hb2; unfold topN; split <;> omega
theorem top_pos {ns ns2 : List Int} {b b2 : Int} (hb : 0 ≤ b) : 1 ≤ topN ns ns2 b b2 := by
  have h : 0 ≤ lrOf ns b := by unfold lrOf; split <;> omega
  unfold topN; split <;> omega
noncomputable abbrev neLd (l' : Addr) (nw : List (Addr × Obj)) (c : RowSt) : List (Addr × Obj) := (l', W.listOf c.vs.toArray c.k) :: (c.tups ++ nw)
noncomputable abbrev neT (l' : Addr) (ns ns2 : List Int) (b b2 nt nt2 : Int) (i : Nat) (c : RowSt) : Prop := RowsIn c.tups c.vs (rowsP (fun ts => decide (ilOf ns b nt ts ≠ ilOf ns2 b2 nt2 ts)) (ilOf ns b nt) (ilOf ns2 b2 nt2) i) ∧ ∀ p ∈ c.tups, l' < p.1
theorem kw0_M5 : True := by
  k_with_none
  k_with "storeName" => (k_here; k_dflt (first | (refine storeX_Ui (by k_asm) (by k_asm) ?_ (by rfl) (by rfl); k_whole; intro _ _ _ _ _) | (refine storeX_Us (by k_asm) (by k_asm) ?_ (by rfl) (by rfl); k_whole; intro _ _ _ _ _) | (refine storeX_U (by k_asm) (by k_asm) ?_ (by rfl) (by rfl); k_whole; intro _ _ _ _)); (try k_sweep))
  k_with "eval Constant int" => (refine int_l ?_)
  k_with "binaryOp Add int int" => (refine add_l ?_)
  k_with "binaryOp Sub int int" => (refine sub_l ?_)
  k_with "enterN" => (refine' enterN ?zN_k1 ?zN_k2 ?zN_k3 ?zN_k4 ?zN_k5 ?zN_kA ?zN_kF ?zN_kK ?zN_k6 ?zN_k7 ?zN_k8 ?zN_k9 ?zN_kB ?_ ?zN_kR ?zN_c2 ?zN_c3 ?zN_c4 ?zN_c5; (case zN_kA => exact rfl); (case zN_kF => exact rfl); (case zN_kK => assumption); (case zN_k1 => k_asm); (case zN_k2 => k_asm); (case zN_k3 => k_asm); (case zN_k4 => k_asm); (case zN_k5 => k_asm); (case zN_kR => assumption); (case zN_k6 => k_is); (case zN_k7 => k_is); (case zN_k8 => ktr_room); (case zN_k9 => exact BindsTo.of_eq rfl); (case zN_c5 => decide); (case zN_kB => exact locs rfl); (case zN_c2 => exact rfl); (case zN_c3 => exact rfl); (case zN_c4 => exact rfl); k_whole; intro g' L' h' tk' F' N' B' X' T' G' l1; (try dsimp only); (try k_lift B'); (try k_fold))
  k_with "pyIter ref" => ((with_reducible show wpAny _ _ (pyIter (Value.ref _)) (fun it s₂ => LoopAtV _ _ _ _ _ _ _ _ _ it s₂) _ _); k_here; refine Held.out ?_)
  k_with "call builtin:list.append" => (k_here; refine Held.out ?_)
  k_with "call ref" => (k_here; (with_reducible show wpAny _ _ (call (Value.ref 62) _) _ _ _); refine useIl (by k_asm) (by k_asm) (by k_asm) (by k_asm) (by first | exact rfl | assumption) (by ktr_room) (by ktr_units) (by k_asm) (by exact ⟨by k_mem, by k_mem, by k_mem, by k_mem, trivial⟩) (by assumption) (by omega) (by omega) (by omega) ?_; k_whole; rintro _ _ _ _ _ ⟨_, rfl⟩; (try dsimp only); (try k_fold))
  k_with "call ref" => (k_here; (with_reducible show wpAny _ _ (call (Value.ref 55) _) _ _ _); refine useLr (by k_asm) (by k_asm) (by k_asm) (by k_asm) (by first | exact rfl | assumption) (by ktr_room) (by ktr_units) (by k_asm) (by exact ⟨by k_mem, by k_mem, by k_mem, by k_mem, trivial⟩) (by assumption) (by omega) ?_; k_whole; rintro _ _ _ _ _ ⟨_, rfl⟩; (try dsimp only); (try k_fold))
  k_with "rloop" => ((case hh => rfl); (case hr => assumption); (case hn => exact rangeSize_nat _ _); (case hs => exact small_one (by omega) (by omega) (by omega) (by omega)); (case F => assumption); (case N => assumption))
  trivial
theorem ne_c (w : World) (q q2 : WsT) (raw raw2 : Str) (n nt b n2 nt2 b2 : Int) (tb tb2 : Tok) (self d norm cnt self2 d2 norm2 cnt2 : Addr) (sim sim2 : Bool) (vs vs2 : List Value) (ns ns2 : List Int) (hi : IntsAre vs ns) (hi2 : IntsAre vs2 ns2)
    (hz : ns.length ≤ 100000) (hb0 : 0 ≤ b) (hb : b ≤ 100000) (hz2 : ns2.length ≤ 100000) (hb20 : 0 ≤ b2) (hb2 : b2 ≤ 100000) :
    PN w 76 2 [(self, instObj 93 d), (d, wsD w q raw n nt norm sim), (norm, tupO [.ref cnt, .int b tb]), (cnt, tupO vs), (self2, instObj 93 d2), (d2, wsD w q2 raw2 n2 nt2 norm2 sim2), (norm2, tupO [.ref cnt2, .int b2 tb2]), (cnt2, tupO vs2)] [.ref self, .ref self2]
      (rowsPost (neRows ns ns2 b b2 nt nt2)) := by
  have hTop := top_le hz hb hz2 hb2
  have hPos := top_pos (ns := ns) (ns2 := ns2) (b2 := b2) hb0
  w_on
  dsimp only [PN]
  k_fill
  intro mean mg mb dp un gd cn cs a ccd cl outer A₀ base h₀ L m s R B F X T hk hd hu N hret
  refine opaque8 N fun nw m1 m2 m3 m4 m5 m6 m7 m8 N8 => ?_
  clear N
  k_dflt (walk_at "enterN")
  change Fr _ _ _ (fun y => List.lookup y [(Str.ofString "other", .ref self2), (Str.ofString "self", .ref self)]) at F'
  w_strict k_steps
  refine ⟨?_⟩
  rename_i l' h2 l9 h1 F0 N0 e0 h3 tk3 t1 u1 v1 R1 F1 N1 S1
  refine' range_objs (σ := RowSt) (fun _ => []) (neLd l' nw) (neT l' ns ns2 b b2 nt nt2) ⟨[], 0, []⟩ ?hh ?hr ?hs ?hn ?F ?N ?hsub ?hm ?hp ?turn ?done
  case hh => rfl
  case hr => exact R1
  case hn => exact rangeSize_nat _ _
  case hs => unfold topN at hTop hPos; exact small_one (by omega) (by omega) (by omega) (by omega)
  case F => exact F1
  case N => exact N1
  case hsub => exact fun p hp => hp
  case hm => exact trivial
  case hp => exact ⟨.nil, fun _ hp => nomatch hp⟩
  case turn =>
    intro i t c h tk I oI hi0 hc hI F2 N2
    dsimp only [ovr] at F2
    dsimp only [neLd] at N2
    simp only [Int.mul_one] at F2
    have hiT : (i : Int) < topN ns ns2 b b2 := by unfold topN at hTop hPos ⊢; omega
    have hvl : c.vs.length ≤ 1000000 := by rw [hc.1.len]; exact Nat.le_trans (rowsP_len _ _ _ _) (by omega)
    have hIl : l' ≠ I := hI _ (.head _)
    have n1 := List.mem_append_right c.tups m1
    have n2 := List.mem_append_right c.tups m2
    have n3 := List.mem_append_right c.tups m3
    have n4 := List.mem_append_right c.tups m4
    have n5 := List.mem_append_right c.tups m5
    have n6 := List.mem_append_right c.tups m6
    have n7 := List.mem_append_right c.tups m7
    have n8 := List.mem_append_right c.tups m8
    refine post_genM fun QT hQT => ?_
    w_strict k_steps
    · rename_i hcond h4 tk4 t4 q4 e4 h5 tk5 t5 D' h6 F6 N6 l6
      refine ⟨append_my (keep := (I, oI) :: (D', rowO (1 + (i : Int), ilOf ns b nt (1 + (i : Int)), ilOf ns2 b2 nt2 (1 + (i : Int))) t t4 t5) :: (c.tups ++ nw)) F6 N6 (by k_mem) ?hk hvl ?_⟩
      case hk =>
        intro p hp
        rcases List.mem_cons.mp hp with rfl | hp
        · exact ⟨.tail _ (.head _), fun e => hIl e.symm⟩
        · rcases List.mem_cons.mp hp with rfl | hp
          · exact ⟨.head _, Nat.ne_of_gt l6.2.1⟩
          · refine ⟨.tail _ (.tail _ (.tail _ hp)), ?_⟩
            rcases List.mem_append.mp hp with hp | hp
            · exact Nat.ne_of_gt (hc.2 _ hp)
            · exact Nat.ne_of_lt (l9 _ hp)
      intro h7 F7 N7
      w_strict k_steps
      refine hQT _ _ (TurnL.intro (by assumption) (by assumption) ⟨c.vs ++ [.ref D'], c.k + 1, (D', rowO (1 + (i : Int), ilOf ns b nt (1 + (i : Int)), ilOf ns2 b2 nt2 (1 + (i : Int))) t t4 t5) :: c.tups⟩ ?hs ?hI ?hm ⟨?hp, ?hq⟩)
      case hs =>
        intro p hp
        rcases List.mem_cons.mp hp with hp | hp
        · rw [hp]; exact .tail _ (.head _)
        · rcases List.mem_cons.mp hp with hp | hp
          · rw [hp]; exact .head _
          · exact .tail _ (.tail _ hp)
      case hI =>
        intro p hp
        rcases List.mem_cons.mp hp with rfl | hp
        · exact hIl
        · rcases List.mem_cons.mp hp with rfl | hp
          · exact Nat.ne_of_gt l6.1
          · exact hI _ (.tail _ hp)
      case hm => intro y hy; simp only [upd, ovr, if_neg hy]
      case hp =>
        show RowsIn _ _ (rowsP _ _ _ (i + 1))
        rw [rowsP, if_pos (by simpa using hcond)]
        exact (hc.1.mono fun p hp => .tail _ hp).snoc ⟨D', _, _, _, rfl, .head _⟩
      case hq =>
        intro p hp
        rcases List.mem_cons.mp hp with rfl | hp
        · exact l6.2.1
        · exact hc.2 p hp
    · rename_i hcond
      refine hQT _ _ (TurnL.intro (by assumption) (by assumption) c (fun p hp => hp) hI ?hm ⟨?hp, hc.2⟩)
      case hm => intro y hy; simp only [upd, ovr, if_neg hy]
      case hp =>
        show RowsIn _ _ (rowsP _ _ _ (i + 1))
        rw [rowsP, if_neg (by simpa using hcond), List.append_nil]
        exact hc.1
  case done =>
    intro c u h tk hc F2 N2
    dsimp only [ovr] at F2
    dsimp only [neLd] at N2
    w_strict k_steps
    rw [Int.add_sub_cancel] at hc
    refine endN (by assumption) (by assumption) F2 N2 (fun p hp => .tail _ (List.mem_append_right _ hp)) ⟨l', c.vs, c.k, c.tups, rfl, newTo_of (by assumption) N2 fun p hp => ?_, hc.1⟩
    rcases List.mem_cons.mp hp with rfl | hp
    · exact ⟨.head _, fun q hq => Nat.ne_of_gt (l9 _ hq)⟩
    · exact ⟨.tail _ (List.mem_append_left _ hp), fun q hq => Nat.ne_of_gt (Nat.lt_trans (l9 _ hq) (hc.2 p hp))⟩
end Mine
end
section -- PL11
open PySem PySem.W PyProof.Rows PySem.Spec PySem.Calls
set_option maxRecDepth 100000
namespace Mine
theorem len_le {w : Nat} (hw : w ≤ 1) {gs : List Int} {seen : Bool} {b M : Int} (hM : 1 ≤ M) (hx : ∀ k : Nat, k < 6 → gs.getD (k + 1) 0 ≠ 0 → 1 + (k : Int) ≤ M) : ((wsR w (textE gs seen 6) b).cnt.length : Int) - 1 ≤ M := by
  rw [cnt_len]
  rcases mx_mem (w :: textE gs seen 6) 0 with h | ⟨e, he, h⟩
  · omega
  · rw [h]
    rcases List.mem_cons.mp he with rfl | he
    · omega
    · obtain ⟨k, h1, h2, rfl⟩ := textE_mem.mp he
      have := eRow_le (gs.getD (k + 1) 0) seen (k + 1)
      have := hx k h1 h2
      omega
theorem len_ge {w : Nat} {gs : List Int} {k : Nat} (hk : k < 6) (hg : gs.getD (k + 1) 0 ≠ 0) (b b' : Int) : 1 + (k : Int) ≤ ((wsR w (textE gs true 6) b).cnt.length : Int) - 1 ∨ 1 + (k : Int) ≤ ((wsR w (textE gs false 6) b').cnt.length : Int) - 1 := by
  have g1 := (mx_ge (w :: textE gs true 6) 0).2
  have g2 := (mx_ge (w :: textE gs false 6) 0).2
  rw [cnt_len, cnt_len]
  by_cases h : 0 < gs.getD (k + 1) 0
  · have e1 : eRow (gs.getD (k + 1) 0) true (k + 1) = k + 1 := by unfold eRow; rw [if_pos (by rw [decide_eq_true (show gs.getD (k + 1) 0 > 0 from h)]; rfl)]
    have := g1 (k + 1) (.tail _ (textE_mem.mpr ⟨k, hk, hg, e1.symm⟩))
    exact .inl (by omega)
  · have e2 : eRow (gs.getD (k + 1) 0) false (k + 1) = k + 1 := by unfold eRow; rw [if_pos (by rw [decide_eq_false (show ¬ (gs.getD (k + 1) 0 > 0) from h)]; rfl)]
    have := g2 (k + 1) (.tail _ (textE_mem.mpr ⟨k, hk, hg, e2.symm⟩))
    exact .inr (by omega)
theorem mx4 {b6 b7 l6 l7 M : Int} (m6 : b6 ≤ M) (m7 : b7 ≤ M) (h6 : l6 ≤ M) (h7 : l7 ≤ M) (key : M ≤ l6 ∨ M ≤ l7 ∨ M = b6 ∨ M = b7) : (if (if b7 > l7 then b7 else l7) > (if b6 > l6 then b6 else l6) then (if b7 > l7 then b7 else l7) else (if b6 > l6 then b6 else l6)) = M := by
  have e : ∀ b l : Int, b ≤ M → l ≤ M → (if b > l then b else l) ≤ M ∧ b ≤ (if b > l then b else l) ∧ l ≤ (if b > l then b else l) := fun b l h1 h2 => by
    clear key m6 m7 h6 h7
    split <;> omega
  obtain ⟨a1, a2, a3⟩ := e b6 l6 m6 h6
  obtain ⟨c1, c2, c3⟩ := e b7 l7 m7 h7
  clear e m6 m7 h6 h7
  generalize (if b7 > l7 then b7 else l7) = x at *
  generalize (if b6 > l6 then b6 else l6) = y at *
  split <;> omega
/-- the sizes that are looked at -/
theorem top_eq {w : Nat} (hw : w ≤ 1) {gs : List Int} {b6 b7 M : Int} (hb6 : 1 ≤ b6) (hb7 : 1 ≤ b7) (m6 : b6 ≤ M) (m7 : b7 ≤ M) (hx : ∀ k : Nat, k < 6 → gs.getD (k + 1) 0 ≠ 0 → 1 + (k : Int) ≤ M)
    (hM : M = b6 ∨ M = b7 ∨ ∃ k : Nat, k < 6 ∧ gs.getD (k + 1) 0 ≠ 0 ∧ M = 1 + (k : Int)) :
    topN (wsR w (textE gs true 6) b6).cnt (wsR w (textE gs false 6) b7).cnt b6 b7 = M + 1 ∧ topN (wsR w (textE gs false 6) b7).cnt (wsR w (textE gs true 6) b6).cnt b7 b6 = M + 1 := by
  have l6 := len_le hw (gs := gs) (seen := true) (b := b6) (by omega) hx
  have l7 := len_le hw (gs := gs) (seen := false) (b := b7) (by omega) hx
  have key : M ≤ ((wsR w (textE gs true 6) b6).cnt.length : Int) - 1 ∨ M ≤ ((wsR w (textE gs false 6) b7).cnt.length : Int) - 1 ∨ M = b6 ∨ M = b7 := by
    rcases hM with h | h | ⟨k, h1, h2, rfl⟩
    · exact .inr (.inr (.inl h))
    · exact .inr (.inr (.inr h))
    · rcases len_ge (w := w) h1 h2 b6 b7 with h | h
      · exact .inl h
      · exact .inr (.inl h)
  have k2 : M ≤ ((wsR w (textE gs false 6) b7).cnt.length : Int) - 1 ∨ M ≤ ((wsR w (textE gs true 6) b6).cnt.length : Int) - 1 ∨ M = b7 ∨ M = b6 := by
    rcases key with h | h | h | h
    · exact .inr (.inl h)
    · exact .inl h
    · exact .inr (.inr (.inr h))
    · exact .inr (.inr (.inl h))
  unfold topN lrOf
  exact ⟨congrArg (· + 1) (mx4 m6 m7 l6 l7 key), congrArg (· + 1) (mx4 m7 m6 l7 l6 k2)⟩
end Mine
end
section -- PL12
open PySem PySem.W PyProof.Rows PySem.Spec PySem.Calls
set_option maxRecDepth 100000
namespace Mine
/-- a witness list is the law's list, filtered -/
theorem rowsP_due {p : Int → Bool} {f g : Int → Int} {q : Row → Bool} {gs ws : List Int} {mo c7 : Int} : ∀ n : Nat,
    (∀ i : Nat, i < n → g (1 + (i : Int)) = lowL gs mo c7 (1 + (i : Int)) ∧ f (1 + (i : Int)) = lowL gs mo c7 (1 + (i : Int)) + (1 + (i : Int)) * ws.getD (i + 1) 0 + mo ∧ q (1 + (i : Int), f (1 + (i : Int)), g (1 + (i : Int))) = p (1 + (i : Int))) →
    rowsP p f g n = (dueL gs ws mo c7 n).filter q
  | 0, _ => rfl
  | n + 1, h => by
    obtain ⟨h1, h2, h3⟩ := h n (Nat.lt_succ_self n)
    rw [rowsP, dueL, List.filter_append, rowsP_due n fun i hi => h i (Nat.lt_succ_of_lt hi), ← h2, ← h1]
    congr 1
    rw [List.filter_cons, h3]
    rfl
end Mine
end
section -- M6
open PySem PySem.W PyProof.Rows PySem.Spec PySem.Calls
set_option maxRecDepth 100000
set_option maxHeartbeats 8000000
namespace Mine
noncomputable def leRows (ns ns2 : List Int) (b b2 nt nt2 : Int) : List Row := rowsP (fun ts => decide (ilOf ns b nt ts ≥ ilOf ns2 b2 nt2 ts)) (ilOf ns b nt) (ilOf ns2 b2 nt2) (topN ns ns2 b b2).toNat
noncomputable abbrev leLd (l' : Addr) (nw : List (Addr × Obj)) (c : RowSt) : List (Addr × Obj) := (l', W.listOf c.vs.toArray c.k) :: (c.tups ++ nw)
noncomputable abbrev leT (l' : Addr) (ns ns2 : List Int) (b b2 nt nt2 : Int) (i : Nat) (c : RowSt) : Prop := RowsIn c.tups c.vs (rowsP (fun ts => decide (ilOf ns b nt ts ≥ ilOf ns2 b2 nt2 ts)) (ilOf ns b nt) (ilOf ns2 b2 nt2) i) ∧ ∀ p ∈ c.tups, l' < p.1
theorem kw0_M6 : True := by
  k_with_none
  k_with "storeName" => (k_here; k_dflt (first | (refine storeX_Ui (by k_asm) (by k_asm) ?_ (by rfl) (by rfl); k_whole; intro _ _ _ _ _) | (refine storeX_Us (by k_asm) (by k_asm) ?_ (by rfl) (by rfl); k_whole; intro _ _ _ _ _) | (refine storeX_U (by k_asm) (by k_asm) ?_ (by rfl) (by rfl); k_whole; intro _ _ _ _)); (try k_sweep))
  k_with "eval Constant int" => (refine int_l ?_)
  k_with "binaryOp Add int int" => (refine add_l ?_)
  k_with "binaryOp Sub int int" => (refine sub_l ?_)
  k_with "enterN" => (refine' enterN ?zN_k1 ?zN_k2 ?zN_k3 ?zN_k4 ?zN_k5 ?zN_kA ?zN_kF ?zN_kK ?zN_k6 ?zN_k7 ?zN_k8 ?zN_k9 ?zN_kB ?_ ?zN_kR ?zN_c2 ?zN_c3 ?zN_c4 ?zN_c5; (case zN_kA => exact rfl); (case zN_kF => exact rfl); (case zN_kK => assumption); (case zN_k1 => k_asm); (case zN_k2 => k_asm); (case zN_k3 => k_asm); (case zN_k4 => k_asm); (case zN_k5 => k_asm); (case zN_kR => assumption); (case zN_k6 => k_is); (case zN_k7 => k_is); (case zN_k8 => ktr_room); (case zN_k9 => exact BindsTo.of_eq rfl); (case zN_c5 => decide); (case zN_kB => exact locs rfl); (case zN_c2 => exact rfl); (case zN_c3 => exact rfl); (case zN_c4 => exact rfl); k_whole; intro g' L' h' tk' F' N' B' X' T' G' l1; (try dsimp only); (try k_lift B'); (try k_fold))
  k_with "pyIter ref" => ((with_reducible show wpAny _ _ (pyIter (Value.ref _)) (fun it s₂ => LoopAtV _ _ _ _ _ _ _ _ _ it s₂) _ _); k_here; refine Held.out ?_)
  k_with "call builtin:list.append" => (k_here; refine Held.out ?_)
  k_with "call ref" => (k_here; (with_reducible show wpAny _ _ (call (Value.ref 62) _) _ _ _); refine useIl (by k_asm) (by k_asm) (by k_asm) (by k_asm) (by first | exact rfl | assumption) (by ktr_room) (by ktr_units) (by k_asm) (by exact ⟨by k_mem, by k_mem, by k_mem, by k_mem, trivial⟩) (by assumption) (by omega) (by omega) (by omega) ?_; k_whole; rintro _ _ _ _ _ ⟨_, rfl⟩; (try dsimp only); (try k_fold))
  k_with "call ref" => (k_here; (with_reducible show wpAny _ _ (call (Value.ref 55) _) _ _ _); refine useLr (by k_asm) (by k_asm) (by k_asm) (by k_asm) (by first | exact rfl | assumption) (by ktr_room) (by ktr_units) (by k_asm) (by exact ⟨by k_mem, by k_mem, by k_mem, by k_mem, trivial⟩) (by assumption) (by omega) ?_; k_whole; rintro _ _ _ _ _ ⟨_, rfl⟩; (try dsimp only); (try k_fold))
  k_with "rloop" => ((case hh => rfl); (case hr => assumption); (case hn => exact rangeSize_nat _ _); (case hs => exact small_one (by omega) (by omega) (by omega) (by omega)); (case F => assumption); (case N => assumption))
  trivial
theorem le_c (w : World) (q q2 : WsT) (raw raw2 : Str) (n nt b n2 nt2 b2 : Int) (tb tb2 : Tok) (self d norm cnt self2 d2 norm2 cnt2 : Addr) (sim sim2 : Bool) (vs vs2 : List Value) (ns ns2 : List Int) (hi : IntsAre vs ns) (hi2 : IntsAre vs2 ns2)
    (hz : ns.length ≤ 100000) (hb0 : 0 ≤ b) (hb : b ≤ 100000) (hz2 : ns2.length ≤ 100000) (hb20 : 0 ≤ b2) (hb2 : b2 ≤ 100000) :
    PN w 90 2 [(self, instObj 93 d), (d, wsD w q raw n nt norm sim), (norm, tupO [.ref cnt, .int b tb]), (cnt, tupO vs), (self2, instObj 93 d2), (d2, wsD w q2 raw2 n2 nt2 norm2 sim2), (norm2, tupO [.ref cnt2, .int b2 tb2]), (cnt2, tupO vs2)] [.ref self, .ref self2]
      (rowsPost (leRows ns ns2 b b2 nt nt2)) := by
  have hTop := top_le hz hb hz2 hb2
  have hPos := top_pos (ns := ns) (ns2 := ns2) (b2 := b2) hb0
  w_on
  dsimp only [PN]
  k_fill
  intro mean mg mb dp un gd cn cs a ccd cl outer A₀ base h₀ L m s R B F X T hk hd hu N hret
  refine opaque8 N fun nw m1 m2 m3 m4 m5 m6 m7 m8 N8 => ?_
  clear N
  k_dflt (walk_at "enterN")
  change Fr _ _ _ (fun y => List.lookup y [(Str.ofString "other", .ref self2), (Str.ofString "self", .ref self)]) at F'
  w_strict k_steps
  refine ⟨?_⟩
  rename_i l' h2 l9 h1 F0 N0 e0 h3 tk3 t1 u1 v1 R1 F1 N1 S1
  refine' range_objs (σ := RowSt) (fun _ => []) (leLd l' nw) (leT l' ns ns2 b b2 nt nt2) ⟨[], 0, []⟩ ?hh ?hr ?hs ?hn ?F ?N ?hsub ?hm ?hp ?turn ?done
  case hh => rfl
  case hr => exact R1
  case hn => exact rangeSize_nat _ _
  case hs => unfold topN at hTop hPos; exact small_one (by omega) (by omega) (by omega) (by omega)
  case F => exact F1
  case N => exact N1
  case hsub => exact fun p hp => hp
  case hm => exact trivial
  case hp => exact ⟨.nil, fun _ hp => nomatch hp⟩
  case turn =>
    intro i t c h tk I oI hi0 hc hI F2 N2
    dsimp only [ovr] at F2
    dsimp only [leLd] at N2
    simp only [Int.mul_one] at F2
    have hiT : (i : Int) < topN ns ns2 b b2 := by unfold topN at hTop hPos ⊢; omega
    have hvl : c.vs.length ≤ 1000000 := by rw [hc.1.len]; exact Nat.le_trans (rowsP_len _ _ _ _) (by omega)
    have hIl : l' ≠ I := hI _ (.head _)
    have n1 := List.mem_append_right c.tups m1
    have n2 := List.mem_append_right c.tups m2
    have n3 := List.mem_append_right c.tups m3
    have n4 := List.mem_append_right c.tups m4
    have n5 := List.mem_append_right c.tups m5
    have n6 := List.mem_append_right c.tups m6
    have n7 := List.mem_append_right c.tups m7
    have n8 := List.mem_append_right c.tups m8
    refine post_genM fun QT hQT => ?_
    w_strict k_steps
    · rename_i hcond h4 tk4 t4 q4 e4 h5 tk5 t5 D' h6 F6 N6 l6
      refine ⟨append_my (keep := (I, oI) :: (D', rowO (1 + (i : Int), ilOf ns b nt (1 + (i : Int)), ilOf ns2 b2 nt2 (1 + (i : Int))) t t4 t5) :: (c.tups ++ nw)) F6 N6 (by k_mem) ?hk hvl ?_⟩
      case hk =>
        intro p hp
        rcases List.mem_cons.mp hp with rfl | hp
        · exact ⟨.tail _ (.head _), fun e => hIl e.symm⟩
        · rcases List.mem_cons.mp hp with rfl | hp
          · exact ⟨.head _, Nat.ne_of_gt l6.2.1⟩
          · refine ⟨.tail _ (.tail _ (.tail _ hp)), ?_⟩
            rcases List.mem_append.mp hp with hp | hp
            · exact Nat.ne_of_gt (hc.2 _ hp)
            · exact Nat.ne_of_lt (l9 _ hp)
      intro h7 F7 N7
      w_strict k_steps
      refine hQT _ _ (TurnL.intro (by assumption) (by assumption) ⟨c.vs ++ [.ref D'], c.k + 1, (D', rowO (1 + (i : Int), ilOf ns b nt (1 + (i : Int)), ilOf ns2 b2 nt2 (1 + (i : Int))) t t4 t5) :: c.tups⟩ ?hs ?hI ?hm ⟨?hp, ?hq⟩)
      case hs =>
        intro p hp
        rcases List.mem_cons.mp hp with hp | hp
        · rw [hp]; exact .tail _ (.head _)
        · rcases List.mem_cons.mp hp with hp | hp
          · rw [hp]; exact .head _
          · exact .tail _ (.tail _ hp)
      case hI =>
        intro p hp
        rcases List.mem_cons.mp hp with rfl | hp
        · exact hIl
        · rcases List.mem_cons.mp hp with rfl | hp
          · exact Nat.ne_of_gt l6.1
          · exact hI _ (.tail _ hp)
      case hm => intro y hy; simp only [upd, ovr, if_neg hy]
      case hp =>
        show RowsIn _ _ (rowsP _ _ _ (i + 1))
        rw [rowsP, if_pos (by simpa using hcond)]
        exact (hc.1.mono fun p hp => .tail _ hp).snoc ⟨D', _, _, _, rfl, .head _⟩
      case hq =>
        intro p hp
        rcases List.mem_cons.mp hp with rfl | hp
        · exact l6.2.1
        · exact hc.2 p hp
    · rename_i hcond
      refine hQT _ _ (TurnL.intro (by assumption) (by assumption) c (fun p hp => hp) hI ?hm ⟨?hp, hc.2⟩)
      case hm => intro y hy; simp only [upd, ovr, if_neg hy]
      case hp =>
        show RowsIn _ _ (rowsP _ _ _ (i + 1))
        rw [rowsP, if_neg (by simpa using hcond), List.append_nil]
        exact hc.1
  case done =>
    intro c u h tk hc F2 N2
    dsimp only [ovr] at F2
    dsimp only [leLd] at N2
    w_strict k_steps
    rw [Int.add_sub_cancel] at hc
    refine endN (by assumption) (by assumption) F2 N2 (fun p hp => .tail _ (List.mem_append_right _ hp)) ⟨l', c.vs, c.k, c.tups, rfl, newTo_of (by assumption) N2 fun p hp => ?_, hc.1⟩
    rcases List.mem_cons.mp hp with rfl | hp
    · exact ⟨.head _, fun q hq => Nat.ne_of_gt (l9 _ hq)⟩
    · exact ⟨.tail _ (List.mem_append_left _ hp), fun q hq => Nat.ne_of_gt (Nat.lt_trans (l9 _ hq) (hc.2 p hp))⟩
end Mine
end
section -- M7
open PySem PySem.W PyProof.Rows PySem.Spec PySem.Calls
set_option maxRecDepth 100000
set_option maxHeartbeats 8000000
namespace Mine
noncomputable def allLess (f g : Int → Int) (k : Nat) : Bool := (List.range k).all fun j => decide (f (2 + (j : Int)) < g (2 + (j : Int)))
noncomputable def lessOf (n n2 : Int) (sim sim2 : Bool) (ns ns2 : List Int) (b b2 nt nt2 : Int) : Bool :=
  if n ≥ n2 then false else if sim && sim2 then decide (nt ≤ nt2) else allLess (ilOf ns b nt) (ilOf ns2 b2 nt2) (topN ns ns2 b b2 + 1 - 2).toNat
theorem join_boolM {M : Model} {A : Around} {a : Sem Bool} {E : Value → Shared → Prop} {s : Shared} {Q : Bool → Shared → Prop} (b : Bool) (h1 : wpAny M A a (fun c s' => c = b ∧ ∃ tk, s' = { s with toks := tk }) E s)
    (h2 : ∀ tk, Q b { s with toks := tk }) : wpAny M A a Q E s :=
  wpAny_mono h1 (fun c s' h => by obtain ⟨rfl, tk, rfl⟩ := h; exact h2 tk) fun _ _ e => e
theorem kw0_M7 : True := by
  k_with_none
  k_with "storeName" => (k_here; k_dflt (first | (refine storeX_Ui (by k_asm) (by k_asm) ?_ (by rfl) (by rfl); k_whole; intro _ _ _ _ _) | (refine storeX_Us (by k_asm) (by k_asm) ?_ (by rfl) (by rfl); k_whole; intro _ _ _ _ _) | (refine storeX_U (by k_asm) (by k_asm) ?_ (by rfl) (by rfl); k_whole; intro _ _ _ _)); (try k_sweep))
  k_with "eval Constant int" => (refine int_l ?_)
  k_with "binaryOp Add int int" => (refine add_l ?_)
  k_with "binaryOp Sub int int" => (refine sub_l ?_)
  k_with "enterN" => (refine' enterN ?zN_k1 ?zN_k2 ?zN_k3 ?zN_k4 ?zN_k5 ?zN_kA ?zN_kF ?zN_kK ?zN_k6 ?zN_k7 ?zN_k8 ?zN_k9 ?zN_kB ?_ ?zN_kR ?zN_c2 ?zN_c3 ?zN_c4 ?zN_c5; (case zN_kA => exact rfl); (case zN_kF => exact rfl); (case zN_kK => assumption); (case zN_k1 => k_asm); (case zN_k2 => k_asm); (case zN_k3 => k_asm); (case zN_k4 => k_asm); (case zN_k5 => k_asm); (case zN_kR => assumption); (case zN_k6 => k_is); (case zN_k7 => k_is); (case zN_k8 => ktr_room); (case zN_k9 => exact BindsTo.of_eq rfl); (case zN_c5 => decide); (case zN_kB => exact locs rfl); (case zN_c2 => exact rfl); (case zN_c3 => exact rfl); (case zN_c4 => exact rfl); k_whole; intro g' L' h' tk' F' N' B' X' T' G' l1; (try dsimp only); (try k_lift B'); (try k_fold))
  k_with "pyIter ref" => ((with_reducible show wpAny _ _ (pyIter (Value.ref _)) (fun it s₂ => LoopAtV _ _ _ _ _ _ _ _ _ it s₂) _ _); k_here; refine Held.out ?_)
  k_with "call ref" => (k_here; (with_reducible show wpAny _ _ (call (Value.ref 62) _) _ _ _); refine useIl (by k_asm) (by k_asm) (by k_asm) (by k_asm) (by first | exact rfl | assumption) (by ktr_room) (by ktr_units) (by k_asm) (by exact ⟨by k_mem, by k_mem, by k_mem, by k_mem, trivial⟩) (by assumption) (by omega) (by omega) (by omega) ?_; k_whole; rintro _ _ _ _ _ ⟨_, rfl⟩; (try dsimp only); (try k_fold))
  k_with "call ref" => (k_here; (with_reducible show wpAny _ _ (call (Value.ref 55) _) _ _ _); refine useLr (by k_asm) (by k_asm) (by k_asm) (by k_asm) (by first | exact rfl | assumption) (by ktr_room) (by ktr_units) (by k_asm) (by exact ⟨by k_mem, by k_mem, by k_mem, by k_mem, trivial⟩) (by assumption) (by omega) ?_; k_whole; rintro _ _ _ _ _ ⟨_, rfl⟩; (try dsimp only); (try k_fold))
  k_with "isTrue BoolOp" => ((with_reducible show wpAny _ _ (isTrue (Expr.BoolOp _ [_, _] _) _ _) _ _ _); k_here; refine Held.out ?_)
  trivial
theorem less_c (w : World) (q q2 : WsT) (raw raw2 : Str) (n nt b n2 nt2 b2 : Int) (tb tb2 : Tok) (self d norm cnt self2 d2 norm2 cnt2 : Addr) (sim sim2 : Bool) (vs vs2 : List Value) (ns ns2 : List Int) (hi : IntsAre vs ns) (hi2 : IntsAre vs2 ns2)
    (hz : ns.length ≤ 100000) (hb0 : 0 ≤ b) (hb : b ≤ 100000) (hz2 : ns2.length ≤ 100000) (hb20 : 0 ≤ b2) (hb2 : b2 ≤ 100000) :
    PN w 83 2 [(self, instObj 93 d), (d, wsD w q raw n nt norm sim), (norm, tupO [.ref cnt, .int b tb]), (cnt, tupO vs), (self2, instObj 93 d2), (d2, wsD w q2 raw2 n2 nt2 norm2 sim2), (norm2, tupO [.ref cnt2, .int b2 tb2]), (cnt2, tupO vs2)] [.ref self, .ref self2]
      (fun _ v _ => v = .bool (lessOf n n2 sim sim2 ns ns2 b b2 nt nt2)) := by
  have hTop := top_le hz hb hz2 hb2
  have hPos := top_pos (ns := ns) (ns2 := ns2) (b2 := b2) hb0
  w_on
  dsimp only [PN]
  k_fill
  intro mean mg mb dp un gd cn cs a ccd cl outer A₀ base h₀ L m s R B F X T hk hd hu N hret
  refine opaque8 N fun nw m1 m2 m3 m4 m5 m6 m7 m8 N8 => ?_
  clear N
  k_dflt (walk_at "enterN")
  change Fr _ _ _ (fun y => List.lookup y [(Str.ofString "other", .ref self2), (Str.ofString "self", .ref self)]) at F'
  w_strict k_steps
  · rename_i ha
    refine endN (by assumption) (by assumption) (by assumption) (by assumption) (fun p hp => hp) ?_
    rw [lessOf, if_pos ha]
  refine ⟨join_boolM (sim && sim2) ?cj ?mn⟩
  case mn =>
    intro tk9
    have hn : ¬ (n ≥ n2) := ‹¬ (n2 ≤ n)›
    cases hsim : (sim && sim2)
    case true =>
      rw [if_pos rfl]
      w_strict k_steps
      refine endN (by assumption) (by assumption) (by assumption) (by assumption) (fun p hp => hp) ?_
      rw [lessOf, if_neg hn, hsim]
      rfl
    rw [if_neg (by decide)]
    w_strict k_steps
    refine ⟨?_⟩
    rename_i R1 F1 N1 S1
    refine' range_objs (σ := Unit) (fun _ => []) (fun _ => nw)
      (fun i _ => allLess (ilOf ns b nt) (ilOf ns2 b2 nt2) i = true) () ?hh ?hr ?hs ?hn ?F ?N ?hsub ?hm ?hp ?turn ?done
    case hh => rfl
    case hr => exact R1
    case hn => exact rangeSize_nat _ _
    case hs => unfold topN at hTop hPos; exact small_one (by omega) (by omega) (by omega) (by omega)
    case F => exact F1
    case N => exact N1
    case hsub => exact fun p hp => hp
    case hm => exact trivial
    case hp => rfl
    case turn =>
      intro i t c h tk I oI hi0 hc hI F2 N2
      dsimp only [ovr] at F2
      simp only [Int.mul_one] at F2
      have hiT : 2 + (i : Int) < topN ns ns2 b b2 + 1 := by unfold topN at hTop hPos ⊢; omega
      w_strict k_steps
      · rename_i hcond
        change TurnL _ _ _ _ _ _ _ _ _ _ _ _
        dsimp only [TurnL]
        refine endN (by assumption) (by assumption) (by assumption) (by assumption) (fun p hp => .tail _ hp) ?_
        rw [lessOf, if_neg hn, hsim]
        show Value.bool false = Value.bool (allLess _ _ _)
        congr 1
        symm
        rw [Bool.eq_false_iff]
        intro hall
        have hall2 := List.all_eq_true.mp hall i (List.mem_range.mpr (by omega))
        simp only [decide_eq_true_eq] at hall2
        omega
      · rename_i hcond
        refine TurnL.intro (by assumption) (by assumption) c (fun p hp => hp) hI ?hm ?hp
        case hm => intro y hy; simp only [upd, ovr, if_neg hy]
        case hp =>
          show allLess _ _ (i + 1) = true
          have hc' : allLess (ilOf ns b nt) (ilOf ns2 b2 nt2) i = true := hc
          unfold allLess at hc' ⊢
          rw [List.range_succ, List.all_append, hc']
          simp only [List.all_cons, List.all_nil, Bool.and_true, Bool.true_and, decide_eq_true_eq]
          omega
    case done =>
      intro c u h tk hc F2 N2
      dsimp only [ovr] at F2
      w_strict k_steps
      refine endN (by assumption) (by assumption) F2 N2 (fun p hp => hp) ?_
      rw [lessOf, if_neg hn, hsim]
      show Value.bool true = Value.bool (allLess _ _ _)
      congr 1
      exact hc.symm
  case cj =>
    k_with_none
    w_strict k_steps
    · rename_i h1 h2; rw [h1, h2]; rfl
    · rename_i h1 h2; first | (rw [h2, Bool.and_false]) | (rw [h1, Bool.and_false]) | (rw [h1]; rfl)
    · rename_i h1; rw [h1]; rfl
end Mine
end
section -- T1
open PySem PySem.W PyProof.Rows PySem.Spec PySem.Calls
set_option maxRecDepth 100000
set_option maxHeartbeats 8000000
namespace Mine
open LCg LCp
noncomputable abbrev lObj (its : Array Value) (k : Nat) : Obj := { cls := .type "list", data := .seq its k }
/-- a comprehension over a list of triples in the ledger, by what holds between its turns -/
noncomputable def Src3 (prog : Program) (w : World) (A : Around) (h₀ : Heap) (L : Addr) (m : Str → Option Value) (env : Env) (elt : Expr) (x y z : Str) (scope : Scope) (cl : List (Str × Addr)) (b : Str) (Q : Flow → Shared → Prop) (xv : Value) (s₁ : Shared) : Prop :=
  ∃ (ax : Addr) (its : Array Value) (kx : Nat) (news : List (Addr × Obj)) (J : Nat → List Value → List (Addr × Obj) → Prop), xv = .ref ax ∧ A.handled = none ∧ Fr h₀ L s₁.heap m ∧ News h₀ L s₁.heap news ∧ (ax, lObj its kx) ∈ news ∧ its.size ≤ sizeLine ∧ J 0 [] news ∧
    (∀ i ys nw, J i ys nw → ∀ p ∈ news, p ∈ nw) ∧
    (∀ (i : Nat) (v : Value), its[i]? = some v → ∃ t v₁ v₂ v₃, v = .ref t ∧ (t, tupO [v₁, v₂, v₃]) ∈ news ∧
      ∀ ys nw I oI C oC D m₂ h tk (E' : Value → Shared → Prop), i < its.size → J i ys nw → NsObj oC m₂ → m₂ x = some v₁ → m₂ y = some v₂ → m₂ z = some v₃ → Fr h₀ L h m → News h₀ L h ((I, oI) :: (C, oC) :: (D, lst ys) :: nw) → Off3 I C D nw → ((@Ne Nat I C) ∧ (@Ne Nat I D) ∧ (@Ne Nat C D)) →
        wpAny (model prog w) A (eval elt (compEnvC scope cl C env)) (CompEnd h₀ L m { s₁ with heap := h, toks := tk } I oI C oC D (lst ys) (fun _ => True) (fun e nw' => J (i + 1) (ys ++ [e]) nw')) E' { s₁ with heap := h, toks := tk }) ∧
    (∀ ys nw, J its.size ys nw → FinA h₀ L m s₁ b Q ys nw)
/-- where the loop of a comprehension over triples stands -/
noncomputable def Inv3 (s₁ : Shared) (h₀ : Heap) (L : Addr) (m : Str → Option Value) (D C I ax : Addr) (its : Array Value) (J : Nat → List Value → List (Addr × Obj) → Prop) (k : Nat) (s' : Shared) : Prop :=
  ∃ h tk i ys nw mc, s' = { s₁ with heap := h, toks := tk } ∧ i ≤ its.size ∧ k = its.size + 1 - i ∧ ys.length = i ∧ (h.IsListIter I ax i ∧ h.IsList ax its) ∧ Fr h₀ L h m ∧ h.Ns C mc ∧ News h₀ L h ((D, lst ys) :: nw) ∧ Off3 I C D nw ∧ J i ys nw
section
variable {prog : Program} {w : World} {A : Around} {E : Value → Shared → Prop} {s : Shared} {h₀ : Heap} {L : Addr} {m : Str → Option Value} {env : Env}
theorem newsIn {h : Heap} {a : Addr} {o : Obj} {nw : List (Addr × Obj)} (N : News h₀ L h nw) (hm : (a, o) ∈ nw) : h.get? a = some o := (N _ hm).1
theorem loop3 {elt iter : Expr} {x y z b : Str} {px py pz pb tp : Pos} {kt} {scope : Scope} {cl : List (Str × Addr)} {pos : Pos} {Q : Flow → Shared → Prop} {s₁ : Shared} {g : Heap} {I C D ax : Addr} {its : Array Value} {kx : Nat} {news : List (Addr × Obj)} {mc : Str → Option Value} {J : Nat → List Value → List (Addr × Obj) → Prop}
    (hh : A.handled = none) (hx : scope.names.lookup x = some .local) (hy : scope.names.lookup y = some .local) (hz : scope.names.lookup z = some .local) (d1 : x ≠ y) (d2 : x ≠ z) (d3 : y ≠ z) (hb : env.kindOf b = some .local)
    (hp : (env.scope.kind == .class || (env.scope.kind == .module && env.locals != env.globals)) = false) (hpC : ((compEnvC scope cl C env).scope.kind == .class || ((compEnvC scope cl C env).scope.kind == .module && (compEnvC scope cl C env).locals != (compEnvC scope cl C env).globals)) = false)
    (hax : (ax, lObj its kx) ∈ news) (hsz : its.size ≤ sizeLine) (hne : @Ne Nat ax I) (J0 : J 0 [] news) (Jn : ∀ i ys nw, J i ys nw → ∀ p ∈ news, p ∈ nw)
    (turn : ∀ (i : Nat) (v : Value), its[i]? = some v → ∃ t v₁ v₂ v₃, v = .ref t ∧ (t, tupO [v₁, v₂, v₃]) ∈ news ∧
      ∀ ys nw I oI C oC D m₂ h tk (E' : Value → Shared → Prop), i < its.size → J i ys nw → NsObj oC m₂ → m₂ x = some v₁ → m₂ y = some v₂ → m₂ z = some v₃ → Fr h₀ env.locals h m → News h₀ env.locals h ((I, oI) :: (C, oC) :: (D, lst ys) :: nw) → Off3 I C D nw → ((@Ne Nat I C) ∧ (@Ne Nat I D) ∧ (@Ne Nat C D)) →
        wpAny (model prog w) A (eval elt (compEnvC scope cl C env)) (CompEnd h₀ env.locals m { s₁ with heap := h, toks := tk } I oI C oC D (lst ys) (fun _ => True) (fun e nw' => J (i + 1) (ys ++ [e]) nw')) E' { s₁ with heap := h, toks := tk })
    (fin : ∀ ys nw, J its.size ys nw → FinA h₀ env.locals m s₁ b Q ys nw)
    (hIC : @Ne Nat I C) (hID : @Ne Nat I D) (hCD : @Ne Nat C D) (hLI' : @Ne Nat env.locals I) (hLC : @Ne Nat C env.locals) (hLD : @Ne Nat D env.locals) (zI : h₀.get? I = none) (zC : h₀.get? C = none) (zD : h₀.get? D = none)
    (st1 : g.IsListIter I ax 0 ∧ g.IsList ax its) (F1 : Fr h₀ env.locals g m) (hns : g.Ns C mc) (N1 : News h₀ env.locals g ((D, lst []) :: news)) (off : Off3 I C D news) (tk : Nat) :
    codeAny (model prog w) A (.compLoop (.ListComp elt [⟨.Tuple [.Name x px, .Name y py, .Name z pz] kt tp, iter, [], 0⟩] scope pos) 0 (.ref I) (.ref D) (compEnvC scope cl C env))
      (compPost (model prog w) A E (some (assign (.Name b pb) env)) (fun _ s' => Q .next s') (.ref D) C) { s₁ with heap := g, toks := tk } := by
  have W := Walks.list (prog := prog) (w := w) hh I ax hne its
  refine codeAny_compLoop_pair (Inv3 s₁ h₀ env.locals m D C I ax its J) ?_ (its.size + 1) ⟨g, tk, 0, [], news, _, rfl, Nat.zero_le _, rfl, rfl, st1, F1, hns, N1, off, J0⟩
  rintro k _ ⟨h, tk, i, ys, nw, mc, rfl, hi, rfl, hyl, st, F2, hn2, N2, off2, hJ⟩
  have o2 := off2.mem
  by_cases hlt2 : i < its.size
  · refine W.item i _ _ _ hlt2 st fun v h3 tk3 hv st3 k3 => ?_
    obtain ⟨t, v₁, v₂, v₃, rfl, hmt, turn'⟩ := turn i v hv
    have F3 := fr_but F2 k3 hLI' zI
    have N3 : News h₀ env.locals h3 ((D, lst ys) :: nw) := news_but N2 k3 fun p hp => by
      rcases List.mem_cons.mp hp with rfl | hp
      · exact Ne.symm hID
      · exact (o2 p hp).1
    refine wpAny_letOwnedTupleGo_listiter st3.1 ?_
    have ht : IsTup h3 t #[v₁, v₂, v₃] := ⟨_, newsIn N3 (.tail _ (Jn _ _ _ hJ _ hmt)), rfl, _, rfl⟩
    refine assign_Tuple_tuple hh ht rfl rfl fun h4 e4 => ?_
    have k4 : ∀ b o, h3.get? b = some o → h4.get? b = some o := fun b o e => e4 b o (Nat.ne_of_lt (Heap.lt_size e)) e
    have hn4 := (hn2.at' fun o e => k3 C o (by simpa using Ne.symm hIC) e).at' fun o e => k4 C o e
    refine assignInOrder_cons (wpAny_assign_Name (wpAny_storeName_local (lookup_relabel_local hx) hn4 (fun h5 hn5 s5 => ?_) hpC))
    refine assignInOrder_cons (wpAny_assign_Name (wpAny_storeName_local (lookup_relabel_local hy) hn5 (fun h6 hn6 s6 => ?_) hpC))
    refine assignInOrder_cons (wpAny_assign_Name (wpAny_storeName_local (lookup_relabel_local hz) hn6 (fun h7 hn7 s7 => ?_) hpC))
    refine assignInOrder_nil ?_
    have k7 : ∀ b o, b ≠ C → h3.get? b = some o → h7.get? b = some o := fun b o hb e => s7.extBut b o hb (s6.extBut b o hb (s5.extBut b o hb (k4 b o e)))
    have F7 : Fr h₀ env.locals h7 m := (((F3.keeps k4).change s5 hLC zC).change s6 hLC zC).change s7 hLC zC
    obtain ⟨oC, eC, nC⟩ := ns_obj hn7
    obtain ⟨oI, eI, rI⟩ := st3.1
    have eI7 := k7 I oI hIC eI
    have N7 : News h₀ env.locals h7 ((I, oI) :: (C, oC) :: (D, lst ys) :: nw) := fun p hp => by
      rcases List.mem_cons.mp hp with rfl | hp
      · exact ⟨eI7, Ne.symm hLI', zI⟩
      rcases List.mem_cons.mp hp with rfl | hp
      · exact ⟨eC, hLC, zC⟩
      refine ⟨k7 _ _ ?_ (N3 p hp).1, (N3 p hp).2⟩
      rcases List.mem_cons.mp hp with rfl | hp
      · exact Ne.symm hCD
      · exact (o2 p hp).2.1
    refine wpAny_mono (turn' ys nw I oI C oC D _ h7 _ _ hlt2 hJ nC (by simp [d1, d2]) (by simp [d3]) (by simp) F7 N7 off2 ⟨hIC, hID, hCD⟩) (fun e s' q => ?_) fun _ _ e => e
    obtain ⟨h8, tk8, nw8, rfl, F8, N8, off8, _, J8⟩ := q
    have o8 := off8.mem
    have N8' : News h₀ env.locals h8 nw8 := fun p hp => N8 p (.tail _ (.tail _ (.tail _ hp)))
    refine append_at (hsz := by rw [List.size_toArray, hyl]; omega) (newsIn N8 (.tail _ (.tail _ (.head _)))) fun h9 s9 g9 => ?_
    have a9 : ∀ b o, b ≠ D → h8.get? b = some o → h9.get? b = some o := fun b o hb e => s9.extBut b o hb e
    refine ⟨its.size + 1 - (i + 1), by omega, h9, tk8, i + 1, ys ++ [e], nw8, _, rfl, hlt2, rfl, by rw [List.length_append, List.length_singleton, hyl], ⟨⟨oI, a9 _ _ hID (newsIn N8 (.head _)), rI⟩, ?_⟩, F8.change s9 hLD zD,
      (nC.ns (newsIn N8 (.tail _ (.head _)))).sameBut s9 hCD, fun p hp => ?_, off8, J8⟩
    · have hm8 := Jn _ _ _ J8 _ hax
      exact ⟨_, a9 _ _ (o8 _ hm8).2.2 (N8' _ hm8).1, rfl, _, rfl⟩
    · rcases List.mem_cons.mp hp with rfl | hp
      · exact ⟨g9.trans (congrArg some (lst_snoc ys e)), hLD, zD⟩
      · exact ⟨a9 _ _ (o8 p hp).2.2 (N8' p hp).1, (N8' p hp).2⟩
  · obtain rfl : i = its.size := Nat.le_antisymm hi (Nat.not_lt.mp hlt2)
    refine W.done _ _ _ st fun h3 tk3 k3 => ?_
    have F3 := fr_but F2 k3 hLI' zI
    have N3 : News h₀ env.locals h3 ((D, lst ys) :: nw) := news_but N2 k3 fun p hp => by
      rcases List.mem_cons.mp hp with rfl | hp
      · exact Ne.symm hID
      · exact (o2 p hp).1
    show wpAny _ A (assign (.Name b pb) env (.ref D)) _ _ _
    refine wpAny_assign_Name (wpAny_storeName_local hb F3.ns (fun h5 n5 s5 => ?_) hp)
    have z5 : h₀.get? env.locals = none := Heap.get?_none_of_le F3.above
    have F5 : Fr h₀ env.locals h5 (fun q => if q = b then some (.ref D) else m q) := ⟨n5, fun a o e => s5.extBut a o (fun q => by rw [q, z5] at e; cases e) (F3.keep a o e), F3.above⟩
    refine ⟨mc, (hn2.at' fun o e => k3 C o (by simpa using Ne.symm hIC) e).sameBut s5 hLC, fun h4 s4 => fin ys nw hJ D h4 _ (F5.change s4 hLC zC) (fun p hp => ⟨s4.extBut _ _ ?_ (s5.extBut _ _ (N3 p hp).2.1 (N3 p hp).1), (N3 p hp).2⟩) off2.one⟩
    rcases List.mem_cons.mp hp with rfl | hp
    · exact Ne.symm hCD
    · exact (o2 p hp).2.1
theorem AssignComp3 {elt iter : Expr} {x y z b : Str} {px py pz pb tp : Pos} {kt} {scope : Scope} {cl : List (Str × Addr)} {pos spos : Pos} {Q : Flow → Shared → Prop} (hF₀ : Fr h₀ L s.heap m) (hLe : env.locals = L)
    (hsw : swapsWith (.ListComp elt [⟨.Tuple [.Name x px, .Name y py, .Name z pz] kt tp, iter, [], 0⟩] scope pos) (some (.Name b pb)) spos.line env = pure true)
    (hclos : closureFor scope env = pure cl) (hcell : ∀ q ∈ scope.names, q.2 ≠ .cell) (hkind : scope.kind = .function)
    (hnames : ∀ q ∈ scope.names, q.2 = .local → scope.names.lookup q.1 = some .local) (hx : scope.names.lookup x = some .local) (hy : scope.names.lookup y = some .local) (hz : scope.names.lookup z = some .local)
    (d1 : x ≠ y) (d2 : x ≠ z) (d3 : y ≠ z) (hb : env.kindOf b = some .local) (hp : (env.scope.kind == .class || (env.scope.kind == .module && env.locals != env.globals)) = false)
    (h : wpAny (model prog w) A (eval iter env) (Src3 prog w A h₀ L m env elt x y z scope cl b Q) E s)
    (hs : ∀ x, foldedSetIterable iter env x = pure x := by intro _; rfl) :
    wpAny (model prog w) A (exec (.Assign [.Name b pb] (.ListComp elt [⟨.Tuple [.Name x px, .Name y py, .Name z pz] kt tp, iter, [], 0⟩] scope pos) spos) env) Q E s := by
  subst hLe
  rw [exec_Assign_Name_used _ _ _ _ hsw]
  refine wpAny_bind (wpAny_standAt (wpAny_bind ?_))
  show wpAny _ A (do let _ ← comprehension (.ListComp elt [⟨.Tuple [.Name x px, .Name y py, .Name z pz] kt tp, iter, [], 0⟩] scope pos) scope env _ (newList []) false (eval iter env) (some (assign (.Name b pb) env))) _ _ s
  refine wpAny_bind (wpAny_mono (wpAny_comprehension_free (use := some (assign (.Name b pb) env)) (Q := fun _ s' => Q .next s') rfl hs hclos hkind hnames (wpAny_mono h (fun xv s₁ h₁ => ?_) fun _ _ e => e)) (fun _ s' hq => wpAny_pure (wpAny_pure hq)) fun _ _ e => e)
  obtain ⟨ax, its, kx, news, J, rfl, hh, F, N, hax, hsz, J0, Jn, turn, fin⟩ := h₁
  have hlt : ax < s₁.heap.objs.size := Heap.lt_size (newsIn N hax)
  refine wpAny_pyIter_list ⟨_, newsIn N hax, rfl, _, rfl⟩ ?_
  have W := Walks.list (prog := prog) (w := w) hh s₁.heap.objs.size ax (Nat.ne_of_lt hlt) its
  have k0 : ∀ b o, s₁.heap.get? b = some o → (s₁.heap.push { cls := .type "list_iterator", data := .fields #[.ref ax, .int 0 0] }).get? b = some o := fun b o e => Heap.get?_push_of_some _ e
  have s0 : (s₁.heap.push { cls := .type "list_iterator", data := .fields #[.ref ax, .int 0 0] }).objs.size = s₁.heap.objs.size + 1 := Heap.size_push ..
  have i0 : (s₁.heap.push { cls := .type "list_iterator", data := .fields #[.ref ax, .int 0 0] }).IsListIter s₁.heap.objs.size ax 0 := ⟨_, Heap.get?_push_size _ rfl, rfl, rfl⟩
  generalize s₁.heap.push { cls := .type "list_iterator", data := .fields #[.ref ax, .int 0 0] } = H0 at k0 s0 i0 ⊢
  have hLI := F.ns.lt
  have hnI : ∀ p ∈ news, p.1 < s₁.heap.objs.size := fun p hp => Heap.lt_size (N p hp).1
  have new₀ : ∀ a, s₁.heap.objs.size ≤ a → h₀.get? a = none := fun a ha => by
    cases e : h₀.get? a with
    | none => rfl
    | some o => exact absurd (Heap.lt_size (F.keep a o e)) (Nat.not_lt.mpr ha)
  have hlt0 : ∀ b o, s₁.heap.get? b = some o → b < s₁.heap.objs.size := fun b o e => Heap.lt_size e
  generalize s₁.heap.objs.size = I at *
  refine wpAny_newObj_type (wpAny_newFunctionEnv hcell (by intro q hq; cases hq) (fun g hns sb => ?_) hkind)
  dsimp only at hns sb ⊢
  have k1 : ∀ b o, H0.get? b = some o → (H0.push { cls := .type "list", dict := none, data := .seq ([] : List Value).toArray }).get? b = some o := fun b o e => Heap.get?_push_of_some _ e
  have s1 : (H0.push { cls := .type "list", dict := none, data := .seq ([] : List Value).toArray }).objs.size = H0.objs.size + 1 := Heap.size_push ..
  have g1 : (H0.push { cls := .type "list", dict := none, data := .seq ([] : List Value).toArray }).get? H0.objs.size = some (lst []) := Heap.get?_push_size _ rfl
  generalize H0.push { cls := .type "list", dict := none, data := .seq ([] : List Value).toArray } = H1 at *
  rw [s0] at g1 s1 ⊢
  generalize hC : H1.objs.size = C at *
  have hCI : C = I + 2 := by omega
  have kg : ∀ b o, b ≠ C → H1.get? b = some o → g.get? b = some o := fun b o hb e => sb.extBut b o hb (Heap.get?_push_of_some _ e)
  have lt3 : ∀ b : Nat, b < I → b ≠ I ∧ b ≠ I + 1 ∧ b ≠ C := fun b hb => by omega
  have old : ∀ b o, s₁.heap.get? b = some o → b < I → g.get? b = some o := fun b o e hb => kg b o (lt3 b hb).2.2 (k1 _ _ (k0 _ _ e))
  have hIC : @Ne Nat I C := by omega
  have hID : @Ne Nat I (I + 1) := by omega
  have hCD : @Ne Nat C (I + 1) := by omega
  have gD : g.get? (I + 1) = some (lst []) := kg _ _ (Ne.symm hCD) g1
  have gI : g.IsListIter I ax 0 := by
    obtain ⟨o, e, r⟩ := i0
    exact ⟨o, kg _ _ hIC (k1 _ _ e), r⟩
  have F1 : Fr h₀ env.locals g m := F.keeps fun b o e => old b o e (hlt0 b o e)
  have hLD : @Ne Nat (I + 1) env.locals := Ne.symm (lt3 _ hLI).2.1
  have hLC : @Ne Nat C env.locals := Ne.symm (lt3 _ hLI).2.2
  have hLI' : @Ne Nat env.locals I := (lt3 _ hLI).1
  have zI : h₀.get? I = none := new₀ _ (Nat.le_refl _)
  have zD : h₀.get? (I + 1) = none := new₀ _ (Nat.le_succ _)
  have zC : h₀.get? C = none := new₀ _ (by omega)
  have N1 : News h₀ env.locals g ((I + 1, lst []) :: news) := fun p hp => by
    rcases List.mem_cons.mp hp with rfl | hp
    · exact ⟨gD, hLD, zD⟩
    · exact ⟨old _ _ (N p hp).1 (hnI p hp), (N p hp).2⟩
  have off : Off3 I C (I + 1) news := Off3.of fun p hp => ⟨(lt3 _ (hnI p hp)).1, (lt3 _ (hnI p hp)).2.2, (lt3 _ (hnI p hp)).2.1⟩
  have st1 : g.IsListIter I ax 0 ∧ g.IsList ax its := ⟨gI, ⟨_, newsIn N1 (.tail _ hax), rfl, _, rfl⟩⟩
  generalize hD : I + 1 = D at *
  have hpC : ((compEnvC scope cl C env).scope.kind == .class || ((compEnvC scope cl C env).scope.kind == .module && (compEnvC scope cl C env).locals != (compEnvC scope cl C env).globals)) = false := by simp [compEnvC, relabel, hkind]
  exact codeAny_compStart_list (loop3 hh hx hy hz d1 d2 d3 hb hp hpC hax hsz (Nat.ne_of_lt hlt) J0 Jn turn fin hIC hID hCD hLI' hLC hLD zI zC zD st1 F1 hns N1 off _) (W.self 0 _ _ _ st1 (loop3 hh hx hy hz d1 d2 d3 hb hp hpC hax hsz (Nat.ne_of_lt hlt) J0 Jn turn fin hIC hID hCD hLI' hLC hLD zI zC zD st1 F1 hns N1 off _))
end
end Mine
end
section -- T2
open PySem PySem.W PyProof.Rows PySem.Spec PySem.Calls
set_option maxRecDepth 100000
set_option maxHeartbeats 8000000
namespace Mine
noncomputable abbrev fnProp {st : Stmt} {n : Str} {a : Arguments} {b : List Stmt} {ds : List Expr} {re : Option Expr} {tp : List TypeParam} {sc : Scope} {ts : Option Scope} {bi : Str} {po : Pos}
    (_ : st = .FunctionDef n a b ds re tp sc ts bi po) (f : List Stmt → Scope → Prop) : Prop := f b sc
noncomputable def lawB : List Stmt := match stT 16 with
  | .FunctionDef _ _ b _ _ _ _ _ _ _ => b
  | _ => []
noncomputable def lawSc : Scope := match stT 16 with
  | .FunctionDef _ _ _ _ _ _ sc _ _ _ => sc
  | _ => default
theorem lawSc_eq : lawSc = { kind := ScopeKind.function, names := [(Str.ofString "script", NameKind.local), (Str.ofString "cells", NameKind.local), (Str.ofString "wanted", NameKind.local), (Str.ofString "more", NameKind.local), (Str.ofString "gains", NameKind.cell), (Str.ofString "first", NameKind.local), (Str.ofString "second", NameKind.local), (Str.ofString "size", NameKind.local), (Str.ofString "longest", NameKind.local), (Str.ofString "due", NameKind.local), (Str.ofString "tabs", NameKind.local), (Str.ofString "k", NameKind.local), (Str.ofString "low", NameKind.local), (Str.ofString "back", NameKind.local), (Str.ofString "_law_cells", NameKind.globalImplicit), (Str.ofString "_law_gains", NameKind.globalImplicit), (Str.ofString "_law_lead", NameKind.globalImplicit), (Str.ofString "max", NameKind.globalImplicit), (Str.ofString "abs", NameKind.globalImplicit), (Str.ofString "range", NameKind.globalImplicit)], isGenerator := false, isCoroutine := false, more := [(Str.ofString "fast", Const.str (Str.ofString "script")), (Str.ofString "fast", Const.str (Str.ofString "cells")), (Str.ofString "fast", Const.str (Str.ofString "cell")), (Str.ofString "fast", Const.str (Str.ofString "wanted")), (Str.ofString "fast", Const.str (Str.ofString "more")), (Str.ofString "fast", Const.str (Str.ofString "gains")), (Str.ofString "fast", Const.str (Str.ofString "first")), (Str.ofString "fast", Const.str (Str.ofString "second")), (Str.ofString "fast", Const.str (Str.ofString "size")), (Str.ofString "fast", Const.str (Str.ofString "longest")), (Str.ofString "fast", Const.str (Str.ofString "due")), (Str.ofString "fast", Const.str (Str.ofString "tabs")), (Str.ofString "fast", Const.str (Str.ofString "k")), (Str.ofString "fast", Const.str (Str.ofString "low")), (Str.ofString "fast", Const.str (Str.ofString "high")), (Str.ofString "fast", Const.str (Str.ofString "back")), (Str.ofString "fast", Const.str (Str.ofString "row"))] } := rfl
noncomputable def conjOf (body : List Stmt) (i : Nat) : Expr := match body.drop 10 with
  | [.Return (some (.BoolOp _ vs _)) _] => vs.getD i (.Name (Str.ofString "first") default)
  | _ => .Name (Str.ofString "first") default
theorem RowsIn.at {t : List (Addr × Obj)} {vs : List Value} {rs : List Row} (h : RowsIn t vs rs) : ∀ {i : Nat} {v : Value}, vs[i]? = some v → ∃ r, rs[i]? = some r ∧ RowIn t v r := by
  induction h with
  | nil => intro i v e; cases e
  | cons h _ ih =>
    intro i v e
    cases i with
    | zero => cases e; exact ⟨_, rfl, h⟩
    | succ i => exact ih e
noncomputable def FilJ (tups : List (Addr × Obj)) (rs : List Row) (p : Row → Bool) (i : Nat) (ys : List Value) : Prop := RowsIn tups ys ((rs.take i).filter p)
theorem FilJ.step1 {t : List (Addr × Obj)} {rs : List Row} {p : Row → Bool} {i : Nat} {ys : List Value} {r : Row} {v : Value} (h : FilJ t rs p i ys) (hr : rs[i]? = some r) (hv : RowIn t v r) (hp : p r = true) : FilJ t rs p (i + 1) (ys ++ [v]) := by
  unfold FilJ at h ⊢
  rw [List.take_add_one, hr, List.filter_append]
  show RowsIn t _ (_ ++ List.filter p [r])
  rw [List.filter_cons, hp]
  exact h.snoc hv
theorem FilJ.step2 {t : List (Addr × Obj)} {rs : List Row} {p : Row → Bool} {i : Nat} {ys : List Value} {r : Row} (h : FilJ t rs p i ys) (hr : rs[i]? = some r) (hp : p r = false) : FilJ t rs p (i + 1) ys := by
  unfold FilJ at h ⊢
  rw [List.take_add_one, hr, List.filter_append]
  show RowsIn t _ (_ ++ List.filter p [r])
  rw [List.filter_cons, hp]
  simpa using h
theorem FilJ.done {t : List (Addr × Obj)} {vs : List Value} {rs : List Row} {p : Row → Bool} {ys : List Value} (hr : RowsIn t vs rs) (h : FilJ t rs p vs.toArray.size ys) : RowsIn t ys (rs.filter p) := by
  unfold FilJ at h
  rw [List.size_toArray, hr.len, List.take_length] at h
  exact h
noncomputable def datR (r : Row) : Dat := .tuple [.int r.1, .int r.2.1, .int r.2.2]
theorem datR_inj {a b : Row} (h : datR a = datR b) : a = b := by
  obtain ⟨a1, a2, a3⟩ := a
  obtain ⟨b1, b2, b3⟩ := b
  simp only [datR, Dat.tuple.injEq, List.cons.injEq, Dat.int.injEq, and_true] at h
  obtain ⟨rfl, rfl, rfl⟩ := h
  rfl
theorem RowsIn.dat {t : List (Addr × Obj)} {vs : List Value} {rs : List Row} (h : RowsIn t vs rs) : DatAll t vs (rs.map datR) := by
  induction h with
  | nil => exact .nil
  | cons h _ ih =>
    obtain ⟨x, a, b, c, rfl, hm⟩ := h
    exact .cons (.tuple hm (.cons (.int _ _) (.cons (.int _ _) (.cons (.int _ _) .nil)))) ih
theorem dat_eq {a b : List Row} : (a.map datR = b.map datR) ↔ a = b := by
  constructor
  · intro h
    exact List.map_inj_right (fun x y e => datR_inj e) |>.mp h
  · rintro rfl; rfl
theorem datOk {a : List Row} : ∀ d ∈ a.map datR, kqdOk 8 d = true := by
  intro d hd
  obtain ⟨r, _, rfl⟩ := List.mem_map.mp hd
  rfl
section
variable {prog : Program} {w : World} {A : Around} {E : Value → Shared → Prop} {s : Shared} {h₀ : Heap} {L : Addr} {news : List (Addr × Obj)}
theorem rows_eq {a b : Addr} {va vb : List Value} {ka kb : Nat} {ra rb : List Row} {ta tb : List (Addr × Obj)} {Q : Value → Shared → Prop} (N : News h₀ L s.heap news) (ma : (a, listOf va.toArray ka) ∈ news) (Ra : RowsIn ta va ra) (sa : ∀ p ∈ ta, p ∈ news)
    (mb : (b, listOf vb.toArray kb) ∈ news) (Rb : RowsIn tb vb rb) (sb : ∀ p ∈ tb, p ∈ news) (hu : A.units + 64 < cLine) (h : Q (.bool (decide (ra = rb))) s) : wpAny (model prog w) A (compareOp .Eq (.ref a) (.ref b)) Q E s := by
  refine kqd_eq N ma rfl rfl Ra.dat sa mb rfl rfl Rb.dat sb datOk datOk hu ?_
  have e : ∀ i : Decidable (ra.map datR = rb.map datR), @decide (ra.map datR = rb.map datR) i = decide (ra = rb) := by
    intro i
    rw [Bool.eq_iff_iff, decide_eq_true_iff, decide_eq_true_iff]
    exact dat_eq
  rw [e]
  exact h
theorem item_row1 {value slice : Expr} {x : Addr} {r : Row} {a b c u : Tok} {Q : Value → Shared → Prop} (N : News h₀ L s.heap news) (hm : (x, rowO r a b c) ∈ news) (h : ∀ t, Q (.int r.2.1 t) s)
    (hs : subscripted slice false (.ref x) (.int 1 u) = operate [.ref x, .int 1 u] (getItem (.ref x) (.int 1 u)) := by with_unfolding_all rfl) (hg : ∀ r, letTemporaryGo value (.ref x) r = pure () := by intro _; with_unfolding_all rfl) :
    wpAny (model prog w) A (subscriptTail value slice (.ref x) (.int 1 u)) Q E s := item_tupI N hm (.cons r.1 a (.cons r.2.1 b (.cons r.2.2 c .nil))) (by decide) (by show _ < (3 : Int); decide) (by decide) h hs hg
theorem item_row2 {value slice : Expr} {x : Addr} {r : Row} {a b c u : Tok} {Q : Value → Shared → Prop} (N : News h₀ L s.heap news) (hm : (x, rowO r a b c) ∈ news) (h : ∀ t, Q (.int r.2.2 t) s)
    (hs : subscripted slice false (.ref x) (.int 2 u) = operate [.ref x, .int 2 u] (getItem (.ref x) (.int 2 u)) := by with_unfolding_all rfl) (hg : ∀ r, letTemporaryGo value (.ref x) r = pure () := by intro _; with_unfolding_all rfl) :
    wpAny (model prog w) A (subscriptTail value slice (.ref x) (.int 2 u)) Q E s := item_tupI N hm (.cons r.1 a (.cons r.2.1 b (.cons r.2.2 c .nil))) (by decide) (by show _ < (3 : Int); decide) (by decide) h hs hg
end
theorem compEnd_same {h₀ h' : Heap} {L I C D : Addr} {m : Str → Option Value} {s₁ : Shared} {oI oC oD : Obj} {S : List (Addr × Obj) → Prop} {rest : Value → List (Addr × Obj) → Prop} {y : Value} {tk : Nat} {news : List (Addr × Obj)}
    (F : Fr h₀ L h' m) (N : News h₀ L h' ((I, oI) :: (C, oC) :: (D, oD) :: news)) (off : LCg.Off3 I C D news) (hS : S news) (r : rest y news) : LCg.CompEnd h₀ L m s₁ I oI C oC D oD S rest y { s₁ with heap := h', toks := tk } := ⟨h', tk, news, rfl, F, N, off, hS, r⟩
theorem newTo_news {h₀ H h' : Heap} {L : Addr} {m : Str → Option Value} {l : List (Addr × Obj)} (F : Fr h₀ L H m) (nt : NewTo H h' l) : News h₀ L h' l :=
  NewTo.news F.keep (by obtain ⟨o, _, _, ho, _⟩ := F.ns; rw [ho]; rfl) nt
theorem news_ins {h₀ h : Heap} {L : Addr} {a : Addr × Obj} {t c tl : List (Addr × Obj)} (N1 : News h₀ L h (a :: t)) (N2 : News h₀ L h (c ++ tl)) : News h₀ L h (a :: (c ++ (tl ++ t))) := fun p hp => by
  rcases List.mem_cons.mp hp with rfl | hp
  · exact N1 _ (.head _)
  rcases List.mem_append.mp hp with hp | hp
  · exact N2 p (List.mem_append_left _ hp)
  rcases List.mem_append.mp hp with hp | hp
  · exact N2 p (List.mem_append_right _ hp)
  · exact N1 p (.tail _ hp)
theorem news_drop {h₀ h : Heap} {L : Addr} {pre c tA tl : List (Addr × Obj)} (N : News h₀ L h (pre ++ (c ++ tA))) (hs : ∀ p ∈ tl, p ∈ tA) : News h₀ L h (c ++ tl) := fun p hp => by
  rcases List.mem_append.mp hp with hp | hp
  · exact N p (List.mem_append_right _ (List.mem_append_left _ hp))
  · exact N p (List.mem_append_right _ (List.mem_append_right _ (hs p hp)))
/-- the frame of the answer's parts -/
noncomputable def frK (bl dl s7 s6 : Addr) (m : Str → Option Value) : Str → Option Value := ovr [(Str.ofString "back", .ref bl), (Str.ofString "due", .ref dl), (Str.ofString "second", .ref s7), (Str.ofString "first", .ref s6)] m
end Mine
end
section -- K1
open PySem PySem.W PyProof.Rows PySem.Spec PySem.Calls
set_option maxRecDepth 100000
set_option maxHeartbeats 8000000
namespace Mine
theorem kw0_K1 : True := by
  k_with_none
  k_with "storeName" => (k_here; k_dflt (first | (refine storeX_Ui (by k_asm) (by k_asm) ?_ (by rfl) (by rfl); k_whole; intro _ _ _ _ _) | (refine storeX_Us (by k_asm) (by k_asm) ?_ (by rfl) (by rfl); k_whole; intro _ _ _ _ _) | (refine storeX_U (by k_asm) (by k_asm) ?_ (by rfl) (by rfl); k_whole; intro _ _ _ _)); (try k_sweep))
  k_with "eval Constant int" => (refine int_l ?_)
  k_with "binaryOp Add int int" => (refine add_l ?_)
  k_with "binaryOp Sub int int" => (refine sub_l ?_)
  k_with "call ref" => (k_here; (with_reducible show wpAny _ _ (call (Value.ref _) _) _ _ _); refine Held.out ?_)
  k_with "subscriptTail Name Constant ref int" => (k_here; first | (refine item_row1 (by k_asm) (by assumption) ?_; intro _) | (refine item_row2 (by k_asm) (by assumption) ?_; intro _))
  k_with "compareOp Eq ref ref" => (k_here; refine Held.out ?_)
  k_with "eval ListComp" => ((with_reducible show wpAny _ _ (eval (Expr.ListComp _ [⟨_, _, [], _⟩] _ _) _) _ _ _); k_here; k_dflt (refine LCg.ListComp_U (F₀ := by k_asm) (by rfl) (by decide) (by rfl) (by decide) (by rfl) ?_))
  k_with "eval ListComp" => ((with_reducible show wpAny _ _ (eval (Expr.ListComp _ [⟨_, _, [_], _⟩] _ _) _) _ _ _); k_here; k_dflt (refine LCt.ListComp_T (F₀ := by k_asm) (by rfl) (by decide) (by rfl) (by decide) (by rfl) ?_))
  k_with "CompSrcT" => (k_here; refine Held.out ?_)
  k_with "CompEnd" => (refine compEnd_same (by assumption) (by assumption) (by assumption) (by exact .inr ⟨_, by k_mem, rfl, _, rfl⟩) ?_; refine ⟨rfl, ?_⟩)
  trivial
theorem conj1 (w : World) (dl bl self6 d6 norm6 cnt6 self7 d7 norm7 cnt7 : Addr) (q6 q7 : WsT) (R6 R7 : Str) (W6 W7 : WS) (tb6 tb7 : Tok) (vs6 vs7 dvs bvs : List Value) (iv6 : IntsAre vs6 W6.cnt) (iv7 : IntsAre vs7 W7.cnt)
    (hz6 : W6.cnt.length ≤ 100000) (hz7 : W7.cnt.length ≤ 100000) (hb60 : 0 ≤ W6.b) (hb6 : W6.b ≤ 100000) (hb70 : 0 ≤ W7.b) (hb7 : W7.b ≤ 100000) (nw : List (Addr × Obj)) (kd kb : Nat) (due : List Row) (hd : RowsIn nw dvs due) (hdz : due.length ≤ 1000)
    (md : (dl, W.listOf dvs.toArray kd) ∈ nw) (m1 : (self6, instObj 93 d6) ∈ nw) (m2 : (d6, wsD w q6 R6 W6.n W6.nt norm6 (decide ((W6.cnt.length : Int) ≤ 1))) ∈ nw) (m3 : (norm6, tupO [.ref cnt6, .int W6.b tb6]) ∈ nw) (m4 : (cnt6, tupO vs6) ∈ nw) (m5 : (self7, instObj 93 d7) ∈ nw) (m6 : (d7, wsD w q7 R7 W7.n W7.nt norm7 (decide ((W7.cnt.length : Int) ≤ 1))) ∈ nw) (m7 : (norm7, tupO [.ref cnt7, .int W7.b tb7]) ∈ nw) (m8 : (cnt7, tupO vs7) ∈ nw) :
    ∀ (mean : ExcName → Option Value) (mg mb : Str → Option Value) (L fa : Addr) (cdv : Value) (h₀ : Heap) (m : Str → Option Value) (s : Shared) (Q : Value → Shared → Prop),
      Below callerA h₀ [] h₀ → Fr h₀ L s.heap (frK bl dl self7 self6 m) → (kH w.params).In h₀ → Top viewT looseX mean mg mb h₀ → News h₀ L s.heap nw →
      (∀ h' tk', Fr h₀ L h' (frK bl dl self7 self6 m) → News h₀ L h' nw → Q (.bool (decide (neRows W6.cnt W7.cnt W6.b W7.b W6.nt W7.nt = due.filter fun r => decide (r.2.1 ≠ r.2.2)))) { s with heap := h', toks := tk' }) →
      wpAny (model PySem.Challenge.rw_rl0124_01.row.prog w) (callerA.deeper (envOfC (Str.ofString "law") lawSc L fa cdv)) (eval (conjOf lawB 0) (envOfC (Str.ofString "law") lawSc L fa cdv)) Q (fun _ _ => False) s := by
  w_top off
  rw [lawSc_eq, show conjOf lawB 0 = .Compare _ _ _ _ from rfl]
  intro mean mg mb' L fa cdv h₀ m s Q B F
  k_fill
  intro X T N hQ
  w_strict k_steps
  refine ⟨?_⟩
  refine' useN (ne_c w q6 q7 R6 R7 W6.n W6.nt W6.b W7.n W7.nt W7.b tb6 tb7 self6 d6 norm6 cnt6 self7 d7 norm7 cnt7 (decide ((W6.cnt.length : Int) ≤ 1)) (decide ((W7.cnt.length : Int) ≤ 1)) vs6 vs7 W6.cnt W7.cnt iv6 iv7 hz6 hb60 hb6 hz7 hb70 hb7) ?B ?F ?X ?T ?K ?D ?U ?N ?S ?_
  case B => k_asm
  case F => k_asm
  case X => k_asm
  case T => k_asm
  case K => exact rfl
  case D => ktr_room
  case U => ktr_units
  case N => k_asm
  case S => exact ⟨m1, m2, m3, m4, m5, m6, m7, m8, trivial⟩
  intro h1 tk1 v1 F1 N1 p1
  obtain ⟨l1, ws1, k1, tu1, rfl, nt1, r1⟩ := p1
  have N2 := news_app (newTo_news F nt1) N1
  have hdA : RowsIn (tu1 ++ nw) dvs due := hd.mono fun p hp => List.mem_append_right _ hp
  have r1A : RowsIn (tu1 ++ nw) ws1 _ := r1.mono fun p hp => List.mem_append_left _ hp
  have hsub : ∀ p ∈ nw, p ∈ tu1 ++ nw := fun p hp => List.mem_append_right _ hp
  clear N1 nt1 r1
  simp only [List.cons_append] at N2
  generalize tu1 ++ nw = tA at N2 hdA r1A hsub
  have mv := hsub _ md
  w_strict k_steps
  refine ⟨?_⟩
  refine LCt.CompSrcT.ledger rfl F1 N2 (.tail _ (hsub _ md)) (by rw [List.size_toArray, hd.len]; exact Nat.le_trans hdz (by decide)) ?_
  intro gg
  refine rest_indT (J := FilJ tA due fun r => decide (r.2.1 ≠ r.2.2)) ?turnC ?finC RowsIn.nil
  case turnC =>
    intro i ys v I oI C oC D m₂ h tk E' hi hJ hv hC hx F N off ne
    obtain ⟨r, hr, x, a, b, c, rfl, hm⟩ := hdA.at (by simpa using hv)
    have hmx : (x, rowO r a b c) ∈ (I, oI) :: (C, oC) :: (D, LCg.lst ys) :: (l1, W.listOf ws1.toArray k1) :: tA := .tail _ (.tail _ (.tail _ (.tail _ hm)))
    w_strict k_steps
    · exact hJ.step1 hr ⟨x, a, b, c, rfl, hm⟩ (decide_eq_true (by assumption))
    · exact hJ.step2 hr (decide_eq_false (by simpa using ‹_ = _›))
  case finC =>
    intro ys hJ
    unfold LCg.FinE
    intro D2 h2 tk2 F2 N3 o2
    w_strict k_steps
    refine ⟨rows_eq N3 (.tail _ (.head _)) r1A (fun p hp => .tail _ (.tail _ hp)) (.head _) (FilJ.done hdA hJ) (fun p hp => .tail _ (.tail _ hp)) (by ke_room) ?_⟩
    w_strict k_steps
    exact hQ _ _ F2 (news_sub N3 fun p hp => .tail _ (.tail _ (hsub p hp)))
end Mine
end
section -- K2
open PySem PySem.W PyProof.Rows PySem.Spec PySem.Calls
set_option maxRecDepth 100000
set_option maxHeartbeats 8000000
namespace Mine
theorem kw0_K2 : True := by
  k_with_none
  k_with "storeName" => (k_here; k_dflt (first | (refine storeX_Ui (by k_asm) (by k_asm) ?_ (by rfl) (by rfl); k_whole; intro _ _ _ _ _) | (refine storeX_Us (by k_asm) (by k_asm) ?_ (by rfl) (by rfl); k_whole; intro _ _ _ _ _) | (refine storeX_U (by k_asm) (by k_asm) ?_ (by rfl) (by rfl); k_whole; intro _ _ _ _)); (try k_sweep))
  k_with "eval Constant int" => (refine int_l ?_)
  k_with "binaryOp Add int int" => (refine add_l ?_)
  k_with "binaryOp Sub int int" => (refine sub_l ?_)
  k_with "call ref" => (k_here; (with_reducible show wpAny _ _ (call (Value.ref _) _) _ _ _); refine Held.out ?_)
  k_with "subscriptTail Name Constant ref int" => (k_here; first | (refine item_row1 (by k_asm) (by assumption) ?_; intro _) | (refine item_row2 (by k_asm) (by assumption) ?_; intro _))
  k_with "compareOp Eq ref ref" => (k_here; refine Held.out ?_)
  k_with "eval ListComp" => ((with_reducible show wpAny _ _ (eval (Expr.ListComp _ [⟨_, _, [], _⟩] _ _) _) _ _ _); k_here; k_dflt (refine LCg.ListComp_U (F₀ := by k_asm) (by rfl) (by decide) (by rfl) (by decide) (by rfl) ?_))
  k_with "eval ListComp" => ((with_reducible show wpAny _ _ (eval (Expr.ListComp _ [⟨_, _, [_], _⟩] _ _) _) _ _ _); k_here; k_dflt (refine LCt.ListComp_T (F₀ := by k_asm) (by rfl) (by decide) (by rfl) (by decide) (by rfl) ?_))
  k_with "CompSrcT" => (k_here; refine Held.out ?_)
  k_with "CompEnd" => (refine compEnd_same (by assumption) (by assumption) (by assumption) (by exact .inr ⟨_, by k_mem, rfl, _, rfl⟩) ?_; refine ⟨rfl, ?_⟩)
  trivial
theorem conj2 (w : World) (dl bl self6 d6 norm6 cnt6 self7 d7 norm7 cnt7 : Addr) (q6 q7 : WsT) (R6 R7 : Str) (W6 W7 : WS) (tb6 tb7 : Tok) (vs6 vs7 dvs bvs : List Value) (iv6 : IntsAre vs6 W6.cnt) (iv7 : IntsAre vs7 W7.cnt)
    (hz6 : W6.cnt.length ≤ 100000) (hz7 : W7.cnt.length ≤ 100000) (hb60 : 0 ≤ W6.b) (hb6 : W6.b ≤ 100000) (hb70 : 0 ≤ W7.b) (hb7 : W7.b ≤ 100000) (nw : List (Addr × Obj)) (kd kb : Nat) (due : List Row) (hd : RowsIn nw dvs due) (hdz : due.length ≤ 1000)
    (md : (dl, W.listOf dvs.toArray kd) ∈ nw) (m1 : (self6, instObj 93 d6) ∈ nw) (m2 : (d6, wsD w q6 R6 W6.n W6.nt norm6 (decide ((W6.cnt.length : Int) ≤ 1))) ∈ nw) (m3 : (norm6, tupO [.ref cnt6, .int W6.b tb6]) ∈ nw) (m4 : (cnt6, tupO vs6) ∈ nw) (m5 : (self7, instObj 93 d7) ∈ nw) (m6 : (d7, wsD w q7 R7 W7.n W7.nt norm7 (decide ((W7.cnt.length : Int) ≤ 1))) ∈ nw) (m7 : (norm7, tupO [.ref cnt7, .int W7.b tb7]) ∈ nw) (m8 : (cnt7, tupO vs7) ∈ nw) :
    ∀ (mean : ExcName → Option Value) (mg mb : Str → Option Value) (L fa : Addr) (cdv : Value) (h₀ : Heap) (m : Str → Option Value) (s : Shared) (Q : Value → Shared → Prop),
      Below callerA h₀ [] h₀ → Fr h₀ L s.heap (frK bl dl self7 self6 m) → (kH w.params).In h₀ → Top viewT looseX mean mg mb h₀ → News h₀ L s.heap nw →
      (∀ h' tk', Fr h₀ L h' (frK bl dl self7 self6 m) → News h₀ L h' nw → Q (.bool (decide (leRows W6.cnt W7.cnt W6.b W7.b W6.nt W7.nt = due.filter fun r => decide (r.2.1 ≥ r.2.2)))) { s with heap := h', toks := tk' }) →
      wpAny (model PySem.Challenge.rw_rl0124_01.row.prog w) (callerA.deeper (envOfC (Str.ofString "law") lawSc L fa cdv)) (eval (conjOf lawB 1) (envOfC (Str.ofString "law") lawSc L fa cdv)) Q (fun _ _ => False) s := by
  w_top off
  rw [lawSc_eq, show conjOf lawB 1 = .Compare _ _ _ _ from rfl]
  intro mean mg mb' L fa cdv h₀ m s Q B F
  k_fill
  intro X T N hQ
  w_strict k_steps
  refine ⟨?_⟩
  refine' useN (le_c w q6 q7 R6 R7 W6.n W6.nt W6.b W7.n W7.nt W7.b tb6 tb7 self6 d6 norm6 cnt6 self7 d7 norm7 cnt7 (decide ((W6.cnt.length : Int) ≤ 1)) (decide ((W7.cnt.length : Int) ≤ 1)) vs6 vs7 W6.cnt W7.cnt iv6 iv7 hz6 hb60 hb6 hz7 hb70 hb7) ?B ?F ?X ?T ?K ?D ?U ?N ?S ?_
  case B => k_asm
  case F => k_asm
  case X => k_asm
  case T => k_asm
  case K => exact rfl
  case D => ktr_room
  case U => ktr_units
  case N => k_asm
  case S => exact ⟨m1, m2, m3, m4, m5, m6, m7, m8, trivial⟩
  intro h1 tk1 v1 F1 N1 p1
  obtain ⟨l1, ws1, k1, tu1, rfl, nt1, r1⟩ := p1
  have N2 := news_app (newTo_news F nt1) N1
  have hdA : RowsIn (tu1 ++ nw) dvs due := hd.mono fun p hp => List.mem_append_right _ hp
  have r1A : RowsIn (tu1 ++ nw) ws1 _ := r1.mono fun p hp => List.mem_append_left _ hp
  have hsub : ∀ p ∈ nw, p ∈ tu1 ++ nw := fun p hp => List.mem_append_right _ hp
  clear N1 nt1 r1
  simp only [List.cons_append] at N2
  generalize tu1 ++ nw = tA at N2 hdA r1A hsub
  have mv := hsub _ md
  w_strict k_steps
  refine ⟨?_⟩
  refine LCt.CompSrcT.ledger rfl F1 N2 (.tail _ (hsub _ md)) (by rw [List.size_toArray, hd.len]; exact Nat.le_trans hdz (by decide)) ?_
  intro gg
  refine rest_indT (J := FilJ tA due fun r => decide (r.2.1 ≥ r.2.2)) ?turnC ?finC RowsIn.nil
  case turnC =>
    intro i ys v I oI C oC D m₂ h tk E' hi hJ hv hC hx F N off ne
    obtain ⟨r, hr, x, a, b, c, rfl, hm⟩ := hdA.at (by simpa using hv)
    have hmx : (x, rowO r a b c) ∈ (I, oI) :: (C, oC) :: (D, LCg.lst ys) :: (l1, W.listOf ws1.toArray k1) :: tA := .tail _ (.tail _ (.tail _ (.tail _ hm)))
    w_strict k_steps
    · exact hJ.step1 hr ⟨x, a, b, c, rfl, hm⟩ (decide_eq_true (by assumption))
    · exact hJ.step2 hr (decide_eq_false (by assumption))
  case finC =>
    intro ys hJ
    unfold LCg.FinE
    intro D2 h2 tk2 F2 N3 o2
    w_strict k_steps
    refine ⟨rows_eq N3 (.tail _ (.head _)) r1A (fun p hp => .tail _ (.tail _ hp)) (.head _) (FilJ.done hdA hJ) (fun p hp => .tail _ (.tail _ hp)) (by ke_room) ?_⟩
    w_strict k_steps
    exact hQ _ _ F2 (news_sub N3 fun p hp => .tail _ (.tail _ (hsub p hp)))
end Mine
end
section -- K3
open PySem PySem.W PyProof.Rows PySem.Spec PySem.Calls
set_option maxRecDepth 100000
set_option maxHeartbeats 8000000
namespace Mine
theorem kw0_K3 : True := by
  k_with_none
  k_with "storeName" => (k_here; k_dflt (first | (refine storeX_Ui (by k_asm) (by k_asm) ?_ (by rfl) (by rfl); k_whole; intro _ _ _ _ _) | (refine storeX_Us (by k_asm) (by k_asm) ?_ (by rfl) (by rfl); k_whole; intro _ _ _ _ _) | (refine storeX_U (by k_asm) (by k_asm) ?_ (by rfl) (by rfl); k_whole; intro _ _ _ _)); (try k_sweep))
  k_with "eval Constant int" => (refine int_l ?_)
  k_with "binaryOp Add int int" => (refine add_l ?_)
  k_with "binaryOp Sub int int" => (refine sub_l ?_)
  k_with "call ref" => (k_here; (with_reducible show wpAny _ _ (call (Value.ref _) _) _ _ _); refine Held.out ?_)
  k_with "subscriptTail Name Constant ref int" => (k_here; first | (refine item_row1 (by k_asm) (by assumption) ?_; intro _) | (refine item_row2 (by k_asm) (by assumption) ?_; intro _))
  k_with "compareOp Eq ref ref" => (k_here; refine Held.out ?_)
  k_with "eval ListComp" => ((with_reducible show wpAny _ _ (eval (Expr.ListComp _ [⟨_, _, [], _⟩] _ _) _) _ _ _); k_here; k_dflt (refine LCg.ListComp_U (F₀ := by k_asm) (by rfl) (by decide) (by rfl) (by decide) (by rfl) ?_))
  k_with "eval ListComp" => ((with_reducible show wpAny _ _ (eval (Expr.ListComp _ [⟨_, _, [_], _⟩] _ _) _) _ _ _); k_here; k_dflt (refine LCt.ListComp_T (F₀ := by k_asm) (by rfl) (by decide) (by rfl) (by decide) (by rfl) ?_))
  k_with "CompSrcT" => (k_here; refine Held.out ?_)
  k_with "CompEnd" => (refine compEnd_same (by assumption) (by assumption) (by assumption) (by exact .inr ⟨_, by k_mem, rfl, _, rfl⟩) ?_; refine ⟨rfl, ?_⟩)
  trivial
theorem conj3 (w : World) (dl bl self6 d6 norm6 cnt6 self7 d7 norm7 cnt7 : Addr) (q6 q7 : WsT) (R6 R7 : Str) (W6 W7 : WS) (tb6 tb7 : Tok) (vs6 vs7 dvs bvs : List Value) (iv6 : IntsAre vs6 W6.cnt) (iv7 : IntsAre vs7 W7.cnt)
    (hz6 : W6.cnt.length ≤ 100000) (hz7 : W7.cnt.length ≤ 100000) (hb60 : 0 ≤ W6.b) (hb6 : W6.b ≤ 100000) (hb70 : 0 ≤ W7.b) (hb7 : W7.b ≤ 100000) (nw : List (Addr × Obj)) (kd kb : Nat) (back : List Row) (hd : RowsIn nw bvs back) (hdz : back.length ≤ 1000)
    (mb : (bl, W.listOf bvs.toArray kb) ∈ nw) (m1 : (self6, instObj 93 d6) ∈ nw) (m2 : (d6, wsD w q6 R6 W6.n W6.nt norm6 (decide ((W6.cnt.length : Int) ≤ 1))) ∈ nw) (m3 : (norm6, tupO [.ref cnt6, .int W6.b tb6]) ∈ nw) (m4 : (cnt6, tupO vs6) ∈ nw) (m5 : (self7, instObj 93 d7) ∈ nw) (m6 : (d7, wsD w q7 R7 W7.n W7.nt norm7 (decide ((W7.cnt.length : Int) ≤ 1))) ∈ nw) (m7 : (norm7, tupO [.ref cnt7, .int W7.b tb7]) ∈ nw) (m8 : (cnt7, tupO vs7) ∈ nw) :
    ∀ (mean : ExcName → Option Value) (mg mb : Str → Option Value) (L fa : Addr) (cdv : Value) (h₀ : Heap) (m : Str → Option Value) (s : Shared) (Q : Value → Shared → Prop),
      Below callerA h₀ [] h₀ → Fr h₀ L s.heap (frK bl dl self7 self6 m) → (kH w.params).In h₀ → Top viewT looseX mean mg mb h₀ → News h₀ L s.heap nw →
      (∀ h' tk', Fr h₀ L h' (frK bl dl self7 self6 m) → News h₀ L h' nw → Q (.bool (decide (leRows W7.cnt W6.cnt W7.b W6.b W7.nt W6.nt = back.filter fun r => decide (r.2.1 ≥ r.2.2)))) { s with heap := h', toks := tk' }) →
      wpAny (model PySem.Challenge.rw_rl0124_01.row.prog w) (callerA.deeper (envOfC (Str.ofString "law") lawSc L fa cdv)) (eval (conjOf lawB 2) (envOfC (Str.ofString "law") lawSc L fa cdv)) Q (fun _ _ => False) s := by
  w_top off
  rw [lawSc_eq, show conjOf lawB 2 = .Compare _ _ _ _ from rfl]
  intro mean mg mb' L fa cdv h₀ m s Q B F
  k_fill
  intro X T N hQ
  w_strict k_steps
  refine ⟨?_⟩
  refine' useN (le_c w q7 q6 R7 R6 W7.n W7.nt W7.b W6.n W6.nt W6.b tb7 tb6 self7 d7 norm7 cnt7 self6 d6 norm6 cnt6 (decide ((W7.cnt.length : Int) ≤ 1)) (decide ((W6.cnt.length : Int) ≤ 1)) vs7 vs6 W7.cnt W6.cnt iv7 iv6 hz7 hb70 hb7 hz6 hb60 hb6) ?B ?F ?X ?T ?K ?D ?U ?N ?S ?_
  case B => k_asm
  case F => k_asm
  case X => k_asm
  case T => k_asm
  case K => exact rfl
  case D => ktr_room
  case U => ktr_units
  case N => k_asm
  case S => exact ⟨m5, m6, m7, m8, m1, m2, m3, m4, trivial⟩
  intro h1 tk1 v1 F1 N1 p1
  obtain ⟨l1, ws1, k1, tu1, rfl, nt1, r1⟩ := p1
  have N2 := news_app (newTo_news F nt1) N1
  have hdA : RowsIn (tu1 ++ nw) bvs back := hd.mono fun p hp => List.mem_append_right _ hp
  have r1A : RowsIn (tu1 ++ nw) ws1 _ := r1.mono fun p hp => List.mem_append_left _ hp
  have hsub : ∀ p ∈ nw, p ∈ tu1 ++ nw := fun p hp => List.mem_append_right _ hp
  clear N1 nt1 r1
  simp only [List.cons_append] at N2
  generalize tu1 ++ nw = tA at N2 hdA r1A hsub
  have mv := hsub _ mb
  w_strict k_steps
  refine ⟨?_⟩
  refine LCt.CompSrcT.ledger rfl F1 N2 (.tail _ (hsub _ mb)) (by rw [List.size_toArray, hd.len]; exact Nat.le_trans hdz (by decide)) ?_
  intro gg
  refine rest_indT (J := FilJ tA back fun r => decide (r.2.1 ≥ r.2.2)) ?turnC ?finC RowsIn.nil
  case turnC =>
    intro i ys v I oI C oC D m₂ h tk E' hi hJ hv hC hx F N off ne
    obtain ⟨r, hr, x, a, b, c, rfl, hm⟩ := hdA.at (by simpa using hv)
    have hmx : (x, rowO r a b c) ∈ (I, oI) :: (C, oC) :: (D, LCg.lst ys) :: (l1, W.listOf ws1.toArray k1) :: tA := .tail _ (.tail _ (.tail _ (.tail _ hm)))
    w_strict k_steps
    · exact hJ.step1 hr ⟨x, a, b, c, rfl, hm⟩ (decide_eq_true (by assumption))
    · exact hJ.step2 hr (decide_eq_false (by assumption))
  case finC =>
    intro ys hJ
    unfold LCg.FinE
    intro D2 h2 tk2 F2 N3 o2
    w_strict k_steps
    refine ⟨rows_eq N3 (.tail _ (.head _)) r1A (fun p hp => .tail _ (.tail _ hp)) (.head _) (FilJ.done hdA hJ) (fun p hp => .tail _ (.tail _ hp)) (by ke_room) ?_⟩
    w_strict k_steps
    exact hQ _ _ F2 (news_sub N3 fun p hp => .tail _ (.tail _ (hsub p hp)))
end Mine
end
section -- K4
open PySem PySem.W PyProof.Rows PySem.Spec PySem.Calls
set_option maxRecDepth 100000
set_option maxHeartbeats 8000000
namespace Mine
theorem kw0_K4 : True := by
  k_with_none
  k_with "storeName" => (k_here; k_dflt (first | (refine storeX_Ui (by k_asm) (by k_asm) ?_ (by rfl) (by rfl); k_whole; intro _ _ _ _ _) | (refine storeX_Us (by k_asm) (by k_asm) ?_ (by rfl) (by rfl); k_whole; intro _ _ _ _ _) | (refine storeX_U (by k_asm) (by k_asm) ?_ (by rfl) (by rfl); k_whole; intro _ _ _ _)); (try k_sweep))
  k_with "eval Constant int" => (refine int_l ?_)
  k_with "binaryOp Add int int" => (refine add_l ?_)
  k_with "binaryOp Sub int int" => (refine sub_l ?_)
  k_with "call ref" => (k_here; (with_reducible show wpAny _ _ (call (Value.ref _) _) _ _ _); refine Held.out ?_)
  k_with "subscriptTail Name Constant ref int" => (k_here; first | (refine item_row1 (by k_asm) (by assumption) ?_; intro _) | (refine item_row2 (by k_asm) (by assumption) ?_; intro _))
  k_with "compareOp Eq ref ref" => (k_here; refine Held.out ?_)
  k_with "eval ListComp" => ((with_reducible show wpAny _ _ (eval (Expr.ListComp _ [⟨_, _, [], _⟩] _ _) _) _ _ _); k_here; k_dflt (refine LCg.ListComp_U (F₀ := by k_asm) (by rfl) (by decide) (by rfl) (by decide) (by rfl) ?_))
  k_with "eval ListComp" => ((with_reducible show wpAny _ _ (eval (Expr.ListComp _ [⟨_, _, [_], _⟩] _ _) _) _ _ _); k_here; k_dflt (refine LCt.ListComp_T (F₀ := by k_asm) (by rfl) (by decide) (by rfl) (by decide) (by rfl) ?_))
  k_with "CompSrcT" => (k_here; refine Held.out ?_)
  k_with "CompEnd" => (refine compEnd_same (by assumption) (by assumption) (by assumption) (by exact .inr ⟨_, by k_mem, rfl, _, rfl⟩) ?_; refine ⟨rfl, ?_⟩)
  trivial
theorem conj4 (w : World) (dl bl self6 d6 norm6 cnt6 self7 d7 norm7 cnt7 : Addr) (q6 q7 : WsT) (R6 R7 : Str) (W6 W7 : WS) (tb6 tb7 : Tok) (vs6 vs7 dvs bvs : List Value) (iv6 : IntsAre vs6 W6.cnt) (iv7 : IntsAre vs7 W7.cnt)
    (hz6 : W6.cnt.length ≤ 100000) (hz7 : W7.cnt.length ≤ 100000) (hb60 : 0 ≤ W6.b) (hb6 : W6.b ≤ 100000) (hb70 : 0 ≤ W7.b) (hb7 : W7.b ≤ 100000) (nw : List (Addr × Obj)) (kd kb : Nat) (due : List Row) (hd : RowsIn nw dvs due) (hdz : due.length ≤ 1000)
    (md : (dl, W.listOf dvs.toArray kd) ∈ nw) (m1 : (self6, instObj 93 d6) ∈ nw) (m2 : (d6, wsD w q6 R6 W6.n W6.nt norm6 (decide ((W6.cnt.length : Int) ≤ 1))) ∈ nw) (m3 : (norm6, tupO [.ref cnt6, .int W6.b tb6]) ∈ nw) (m4 : (cnt6, tupO vs6) ∈ nw) (m5 : (self7, instObj 93 d7) ∈ nw) (m6 : (d7, wsD w q7 R7 W7.n W7.nt norm7 (decide ((W7.cnt.length : Int) ≤ 1))) ∈ nw) (m7 : (norm7, tupO [.ref cnt7, .int W7.b tb7]) ∈ nw) (m8 : (cnt7, tupO vs7) ∈ nw) :
    ∀ (mean : ExcName → Option Value) (mg mb : Str → Option Value) (L fa : Addr) (cdv : Value) (h₀ : Heap) (m : Str → Option Value) (s : Shared) (Q : Value → Shared → Prop),
      Below callerA h₀ [] h₀ → Fr h₀ L s.heap (frK bl dl self7 self6 m) → (kH w.params).In h₀ → Top viewT looseX mean mg mb h₀ → News h₀ L s.heap nw →
      (∀ h' tk', Fr h₀ L h' (frK bl dl self7 self6 m) → News h₀ L h' nw → Q (.bool (lessOf W6.n W7.n (decide ((W6.cnt.length : Int) ≤ 1)) (decide ((W7.cnt.length : Int) ≤ 1)) W6.cnt W7.cnt W6.b W7.b W6.nt W7.nt == decide ((due.filter fun r => decide (r.2.1 ≥ r.2.2)) = []))) { s with heap := h', toks := tk' }) →
      wpAny (model PySem.Challenge.rw_rl0124_01.row.prog w) (callerA.deeper (envOfC (Str.ofString "law") lawSc L fa cdv)) (eval (conjOf lawB 3) (envOfC (Str.ofString "law") lawSc L fa cdv)) Q (fun _ _ => False) s := by
  w_top off
  rw [lawSc_eq, show conjOf lawB 3 = .Compare _ _ _ _ from rfl]
  intro mean mg mb' L fa cdv h₀ m s Q B F
  k_fill
  intro X T N hQ
  w_strict k_steps
  refine ⟨?_⟩
  refine' useN (less_c w q6 q7 R6 R7 W6.n W6.nt W6.b W7.n W7.nt W7.b tb6 tb7 self6 d6 norm6 cnt6 self7 d7 norm7 cnt7 (decide ((W6.cnt.length : Int) ≤ 1)) (decide ((W7.cnt.length : Int) ≤ 1)) vs6 vs7 W6.cnt W7.cnt iv6 iv7 hz6 hb60 hb6 hz7 hb70 hb7) ?B ?F ?X ?T ?K ?D ?U ?N ?S ?_
  case B => k_asm
  case F => k_asm
  case X => k_asm
  case T => k_asm
  case K => exact rfl
  case D => ktr_room
  case U => ktr_units
  case N => k_asm
  case S => exact ⟨m1, m2, m3, m4, m5, m6, m7, m8, trivial⟩
  intro h1 tk1 v1 F1 N2 p1
  subst p1
  have hdA := hd
  have hsub : ∀ p ∈ nw, p ∈ nw := fun p hp => hp
  have mv := hsub _ md
  w_strict k_steps
  refine ⟨?_⟩
  refine LCt.CompSrcT.ledger rfl F1 N2 md (by rw [List.size_toArray, hd.len]; exact Nat.le_trans hdz (by decide)) ?_
  intro gg
  refine rest_indT (J := FilJ nw due fun r => decide (r.2.1 ≥ r.2.2)) ?turnC ?finC RowsIn.nil
  case turnC =>
    intro i ys v I oI C oC D m₂ h tk E' hi hJ hv hC hx F N off ne
    obtain ⟨r, hr, x, a, b, c, rfl, hm⟩ := hdA.at (by simpa using hv)
    have hmx : (x, rowO r a b c) ∈ (I, oI) :: (C, oC) :: (D, LCg.lst ys) :: nw := .tail _ (.tail _ (.tail _ hm))
    w_strict k_steps
    · exact hJ.step1 hr ⟨x, a, b, c, rfl, hm⟩ (decide_eq_true (by assumption))
    · exact hJ.step2 hr (decide_eq_false (by assumption))
  case finC =>
    intro ys hJ
    unfold LCg.FinE
    intro D2 h2 tk2 F2 N3 o2
    w_strict k_steps
    refine ⟨?_⟩
    rename_i D3 h3 F3 N4 l3
    refine rows_eq N4 (.tail _ (.head _)) (FilJ.done hdA hJ) (fun p hp => .tail _ (.tail _ hp)) (.head _) (vb := []) (rb := []) (tb := []) RowsIn.nil (fun _ hp => nomatch hp) (by ke_room) ?_
    w_strict k_steps
    exact hQ _ _ F3 (news_sub N4 fun p hp => .tail _ (.tail _ hp))
end Mine
end
section -- K5
open PySem PySem.W PyProof.Rows PySem.Spec PySem.Calls
set_option maxRecDepth 100000
set_option maxHeartbeats 8000000
namespace Mine
theorem kw0_K5 : True := by
  k_with_none
  k_with "storeName" => (k_here; k_dflt (first | (refine storeX_Ui (by k_asm) (by k_asm) ?_ (by rfl) (by rfl); k_whole; intro _ _ _ _ _) | (refine storeX_Us (by k_asm) (by k_asm) ?_ (by rfl) (by rfl); k_whole; intro _ _ _ _ _) | (refine storeX_U (by k_asm) (by k_asm) ?_ (by rfl) (by rfl); k_whole; intro _ _ _ _)); (try k_sweep))
  k_with "eval Constant int" => (refine int_l ?_)
  k_with "binaryOp Add int int" => (refine add_l ?_)
  k_with "binaryOp Sub int int" => (refine sub_l ?_)
  k_with "call ref" => (k_here; (with_reducible show wpAny _ _ (call (Value.ref _) _) _ _ _); refine Held.out ?_)
  k_with "subscriptTail Name Constant ref int" => (k_here; first | (refine item_row1 (by k_asm) (by assumption) ?_; intro _) | (refine item_row2 (by k_asm) (by assumption) ?_; intro _))
  k_with "compareOp Eq ref ref" => (k_here; refine Held.out ?_)
  k_with "eval ListComp" => ((with_reducible show wpAny _ _ (eval (Expr.ListComp _ [⟨_, _, [], _⟩] _ _) _) _ _ _); k_here; k_dflt (refine LCg.ListComp_U (F₀ := by k_asm) (by rfl) (by decide) (by rfl) (by decide) (by rfl) ?_))
  k_with "eval ListComp" => ((with_reducible show wpAny _ _ (eval (Expr.ListComp _ [⟨_, _, [_], _⟩] _ _) _) _ _ _); k_here; k_dflt (refine LCt.ListComp_T (F₀ := by k_asm) (by rfl) (by decide) (by rfl) (by decide) (by rfl) ?_))
  k_with "CompSrcT" => (k_here; refine Held.out ?_)
  k_with "CompEnd" => (refine compEnd_same (by assumption) (by assumption) (by assumption) (by exact .inr ⟨_, by k_mem, rfl, _, rfl⟩) ?_; refine ⟨rfl, ?_⟩)
  trivial
theorem conj5 (w : World) (dl bl self6 d6 norm6 cnt6 self7 d7 norm7 cnt7 : Addr) (q6 q7 : WsT) (R6 R7 : Str) (W6 W7 : WS) (tb6 tb7 : Tok) (vs6 vs7 dvs bvs : List Value) (iv6 : IntsAre vs6 W6.cnt) (iv7 : IntsAre vs7 W7.cnt)
    (hz6 : W6.cnt.length ≤ 100000) (hz7 : W7.cnt.length ≤ 100000) (hb60 : 0 ≤ W6.b) (hb6 : W6.b ≤ 100000) (hb70 : 0 ≤ W7.b) (hb7 : W7.b ≤ 100000) (nw : List (Addr × Obj)) (kd kb : Nat) (back : List Row) (hd : RowsIn nw bvs back) (hdz : back.length ≤ 1000)
    (mb : (bl, W.listOf bvs.toArray kb) ∈ nw) (m1 : (self6, instObj 93 d6) ∈ nw) (m2 : (d6, wsD w q6 R6 W6.n W6.nt norm6 (decide ((W6.cnt.length : Int) ≤ 1))) ∈ nw) (m3 : (norm6, tupO [.ref cnt6, .int W6.b tb6]) ∈ nw) (m4 : (cnt6, tupO vs6) ∈ nw) (m5 : (self7, instObj 93 d7) ∈ nw) (m6 : (d7, wsD w q7 R7 W7.n W7.nt norm7 (decide ((W7.cnt.length : Int) ≤ 1))) ∈ nw) (m7 : (norm7, tupO [.ref cnt7, .int W7.b tb7]) ∈ nw) (m8 : (cnt7, tupO vs7) ∈ nw) :
    ∀ (mean : ExcName → Option Value) (mg mb : Str → Option Value) (L fa : Addr) (cdv : Value) (h₀ : Heap) (m : Str → Option Value) (s : Shared) (Q : Value → Shared → Prop),
      Below callerA h₀ [] h₀ → Fr h₀ L s.heap (frK bl dl self7 self6 m) → (kH w.params).In h₀ → Top viewT looseX mean mg mb h₀ → News h₀ L s.heap nw →
      (∀ h' tk', Fr h₀ L h' (frK bl dl self7 self6 m) → News h₀ L h' nw → Q (.bool (lessOf W7.n W6.n (decide ((W7.cnt.length : Int) ≤ 1)) (decide ((W6.cnt.length : Int) ≤ 1)) W7.cnt W6.cnt W7.b W6.b W7.nt W6.nt == decide ((back.filter fun r => decide (r.2.1 ≥ r.2.2)) = []))) { s with heap := h', toks := tk' }) →
      wpAny (model PySem.Challenge.rw_rl0124_01.row.prog w) (callerA.deeper (envOfC (Str.ofString "law") lawSc L fa cdv)) (eval (conjOf lawB 4) (envOfC (Str.ofString "law") lawSc L fa cdv)) Q (fun _ _ => False) s := by
  w_top off
  rw [lawSc_eq, show conjOf lawB 4 = .Compare _ _ _ _ from rfl]
  intro mean mg mb' L fa cdv h₀ m s Q B F
  k_fill
  intro X T N hQ
  w_strict k_steps
  refine ⟨?_⟩
  refine' useN (less_c w q7 q6 R7 R6 W7.n W7.nt W7.b W6.n W6.nt W6.b tb7 tb6 self7 d7 norm7 cnt7 self6 d6 norm6 cnt6 (decide ((W7.cnt.length : Int) ≤ 1)) (decide ((W6.cnt.length : Int) ≤ 1)) vs7 vs6 W7.cnt W6.cnt iv7 iv6 hz7 hb70 hb7 hz6 hb60 hb6) ?B ?F ?X ?T ?K ?D ?U ?N ?S ?_
  case B => k_asm
  case F => k_asm
  case X => k_asm
  case T => k_asm
  case K => exact rfl
  case D => ktr_room
  case U => ktr_units
  case N => k_asm
  case S => exact ⟨m5, m6, m7, m8, m1, m2, m3, m4, trivial⟩
  intro h1 tk1 v1 F1 N2 p1
  subst p1
  have hdA := hd
  have hsub : ∀ p ∈ nw, p ∈ nw := fun p hp => hp
  have mv := hsub _ mb
  w_strict k_steps
  refine ⟨?_⟩
  refine LCt.CompSrcT.ledger rfl F1 N2 mb (by rw [List.size_toArray, hd.len]; exact Nat.le_trans hdz (by decide)) ?_
  intro gg
  refine rest_indT (J := FilJ nw back fun r => decide (r.2.1 ≥ r.2.2)) ?turnC ?finC RowsIn.nil
  case turnC =>
    intro i ys v I oI C oC D m₂ h tk E' hi hJ hv hC hx F N off ne
    obtain ⟨r, hr, x, a, b, c, rfl, hm⟩ := hdA.at (by simpa using hv)
    have hmx : (x, rowO r a b c) ∈ (I, oI) :: (C, oC) :: (D, LCg.lst ys) :: nw := .tail _ (.tail _ (.tail _ hm))
    w_strict k_steps
    · exact hJ.step1 hr ⟨x, a, b, c, rfl, hm⟩ (decide_eq_true (by assumption))
    · exact hJ.step2 hr (decide_eq_false (by assumption))
  case finC =>
    intro ys hJ
    unfold LCg.FinE
    intro D2 h2 tk2 F2 N3 o2
    w_strict k_steps
    refine ⟨?_⟩
    rename_i D3 h3 F3 N4 l3
    refine rows_eq N4 (.tail _ (.head _)) (FilJ.done hdA hJ) (fun p hp => .tail _ (.tail _ hp)) (.head _) (vb := []) (rb := []) (tb := []) RowsIn.nil (fun _ hp => nomatch hp) (by ke_room) ?_
    w_strict k_steps
    exact hQ _ _ F3 (news_sub N4 fun p hp => .tail _ (.tail _ hp))
end Mine
end
section -- K6
open PySem PySem.W PyProof.Rows PySem.Spec PySem.Calls
set_option maxRecDepth 100000
set_option maxHeartbeats 8000000
namespace Mine
theorem kw0_K6 : True := by
  k_with_none
  k_with "storeName" => (k_here; k_dflt (first | (refine storeX_Ui (by k_asm) (by k_asm) ?_ (by rfl) (by rfl); k_whole; intro _ _ _ _ _) | (refine storeX_Us (by k_asm) (by k_asm) ?_ (by rfl) (by rfl); k_whole; intro _ _ _ _ _) | (refine storeX_U (by k_asm) (by k_asm) ?_ (by rfl) (by rfl); k_whole; intro _ _ _ _)); (try k_sweep))
  k_with "eval Constant int" => (refine int_l ?_)
  k_with "binaryOp Add int int" => (refine add_l ?_)
  k_with "binaryOp Sub int int" => (refine sub_l ?_)
  k_with "call ref" => (k_here; (with_reducible show wpAny _ _ (call (Value.ref _) _) _ _ _); refine Held.out ?_)
  k_with "subscriptTail Name Constant ref int" => (k_here; first | (refine item_row1 (by k_asm) (by assumption) ?_; intro _) | (refine item_row2 (by k_asm) (by assumption) ?_; intro _))
  k_with "compareOp Eq ref ref" => (k_here; refine Held.out ?_)
  k_with "eval ListComp" => ((with_reducible show wpAny _ _ (eval (Expr.ListComp _ [⟨_, _, [], _⟩] _ _) _) _ _ _); k_here; k_dflt (refine LCg.ListComp_U (F₀ := by k_asm) (by rfl) (by decide) (by rfl) (by decide) (by rfl) ?_))
  k_with "eval ListComp" => ((with_reducible show wpAny _ _ (eval (Expr.ListComp _ [⟨_, _, [_], _⟩] _ _) _) _ _ _); k_here; k_dflt (refine LCt.ListComp_T (F₀ := by k_asm) (by rfl) (by decide) (by rfl) (by decide) (by rfl) ?_))
  k_with "CompSrcT" => (k_here; refine Held.out ?_)
  k_with "CompEnd" => (refine compEnd_same (by assumption) (by assumption) (by assumption) (by exact .inr ⟨_, by k_mem, rfl, _, rfl⟩) ?_; refine ⟨rfl, ?_⟩)
  trivial
theorem conj6 (w : World) (dl bl self6 d6 norm6 cnt6 self7 d7 norm7 cnt7 : Addr) (q6 q7 : WsT) (R6 R7 : Str) (W6 W7 : WS) (tb6 tb7 : Tok) (vs6 vs7 dvs bvs : List Value) (iv6 : IntsAre vs6 W6.cnt) (iv7 : IntsAre vs7 W7.cnt)
    (hz6 : W6.cnt.length ≤ 100000) (hz7 : W7.cnt.length ≤ 100000) (hb60 : 0 ≤ W6.b) (hb6 : W6.b ≤ 100000) (hb70 : 0 ≤ W7.b) (hb7 : W7.b ≤ 100000) (hne : @Ne Nat cnt6 cnt7) (nw : List (Addr × Obj)) (kd kb : Nat) (due : List Row) (hd : RowsIn nw dvs due) (hdz : due.length ≤ 1000)
    (md : (dl, W.listOf dvs.toArray kd) ∈ nw) (m1 : (self6, instObj 93 d6) ∈ nw) (m2 : (d6, wsD w q6 R6 W6.n W6.nt norm6 (decide ((W6.cnt.length : Int) ≤ 1))) ∈ nw) (m3 : (norm6, tupO [.ref cnt6, .int W6.b tb6]) ∈ nw) (m4 : (cnt6, tupO vs6) ∈ nw) (m5 : (self7, instObj 93 d7) ∈ nw) (m6 : (d7, wsD w q7 R7 W7.n W7.nt norm7 (decide ((W7.cnt.length : Int) ≤ 1))) ∈ nw) (m7 : (norm7, tupO [.ref cnt7, .int W7.b tb7]) ∈ nw) (m8 : (cnt7, tupO vs7) ∈ nw) :
    ∀ (mean : ExcName → Option Value) (mg mb : Str → Option Value) (L fa : Addr) (cdv : Value) (h₀ : Heap) (m : Str → Option Value) (s : Shared) (Q : Value → Shared → Prop),
      Below callerA h₀ [] h₀ → Fr h₀ L s.heap (frK bl dl self7 self6 m) → (kH w.params).In h₀ → Top viewT looseX mean mg mb h₀ → News h₀ L s.heap nw →
      (∀ h' tk', Fr h₀ L h' (frK bl dl self7 self6 m) → News h₀ L h' nw → Q (.bool ((decide (W6.cnt = W7.cnt) && (W6.b == W7.b)) == decide ((due.filter fun r => decide (r.2.1 ≠ r.2.2)) = []))) { s with heap := h', toks := tk' }) →
      wpAny (model PySem.Challenge.rw_rl0124_01.row.prog w) (callerA.deeper (envOfC (Str.ofString "law") lawSc L fa cdv)) (eval (conjOf lawB 5) (envOfC (Str.ofString "law") lawSc L fa cdv)) Q (fun _ _ => False) s := by
  w_top off
  rw [lawSc_eq, show conjOf lawB 5 = .Compare _ _ _ _ from rfl]
  intro mean mg mb' L fa cdv h₀ m s Q B F
  k_fill
  intro X T N hQ
  w_strict k_steps
  refine ⟨?_⟩
  refine' useN (equal_c w q6 q7 R6 R7 W6.n W6.nt W6.b W7.n W7.nt W7.b tb6 tb7 self6 d6 norm6 cnt6 self7 d7 norm7 cnt7 (decide ((W6.cnt.length : Int) ≤ 1)) (decide ((W7.cnt.length : Int) ≤ 1)) vs6 vs7 W6.cnt W7.cnt iv6 iv7 hne) ?B ?F ?X ?T ?K ?D ?U ?N ?S ?_
  case B => k_asm
  case F => k_asm
  case X => k_asm
  case T => k_asm
  case K => exact rfl
  case D => ktr_room
  case U => ktr_units
  case N => k_asm
  case S => exact ⟨m1, m2, m3, m4, m5, m6, m7, m8, trivial⟩
  intro h1 tk1 v1 F1 N2 p1
  subst p1
  have hdA := hd
  have hsub : ∀ p ∈ nw, p ∈ nw := fun p hp => hp
  have mv := hsub _ md
  w_strict k_steps
  refine ⟨?_⟩
  refine LCt.CompSrcT.ledger rfl F1 N2 md (by rw [List.size_toArray, hd.len]; exact Nat.le_trans hdz (by decide)) ?_
  intro gg
  refine rest_indT (J := FilJ nw due fun r => decide (r.2.1 ≠ r.2.2)) ?turnC ?finC RowsIn.nil
  case turnC =>
    intro i ys v I oI C oC D m₂ h tk E' hi hJ hv hC hx F N off ne
    obtain ⟨r, hr, x, a, b, c, rfl, hm⟩ := hdA.at (by simpa using hv)
    have hmx : (x, rowO r a b c) ∈ (I, oI) :: (C, oC) :: (D, LCg.lst ys) :: nw := .tail _ (.tail _ (.tail _ hm))
    w_strict k_steps
    · exact hJ.step1 hr ⟨x, a, b, c, rfl, hm⟩ (decide_eq_true (by assumption))
    · exact hJ.step2 hr (decide_eq_false (by simpa using ‹_ = _›))
  case finC =>
    intro ys hJ
    unfold LCg.FinE
    intro D2 h2 tk2 F2 N3 o2
    w_strict k_steps
    refine ⟨?_⟩
    rename_i D3 h3 F3 N4 l3
    refine rows_eq N4 (.tail _ (.head _)) (FilJ.done hdA hJ) (fun p hp => .tail _ (.tail _ hp)) (.head _) (vb := []) (rb := []) (tb := []) RowsIn.nil (fun _ hp => nomatch hp) (by ke_room) ?_
    w_strict k_steps
    exact hQ _ _ F3 (news_sub N4 fun p hp => .tail _ (.tail _ hp))
end Mine
end
section -- T4
open PySem PySem.W PyProof.Rows PySem.Spec PySem.Calls
set_option maxRecDepth 100000
set_option maxHeartbeats 8000000
namespace Mine
noncomputable def swapR (r : Row) : Row := (r.1, r.2.2, r.2.1)
theorem kw0_T4 : True := by
  k_with_none
  k_with "storeName" => (k_here; k_dflt (first | (refine storeX_Ui (by k_asm) (by k_asm) ?_ (by rfl) (by rfl); k_whole; intro _ _ _ _ _) | (refine storeX_Us (by k_asm) (by k_asm) ?_ (by rfl) (by rfl); k_whole; intro _ _ _ _ _) | (refine storeX_U (by k_asm) (by k_asm) ?_ (by rfl) (by rfl); k_whole; intro _ _ _ _)); (try k_sweep))
  k_with "eval Constant int" => (refine int_l ?_)
  k_with "binaryOp Add int int" => (refine add_l ?_)
  k_with "binaryOp Sub int int" => (refine sub_l ?_)
  k_with "exec Assign cons ListComp" => ((with_reducible show wpAny _ _ (exec (Stmt.Assign [Expr.Name _ _] (Expr.ListComp _ [⟨Expr.Tuple _ _ _, _, [], _⟩] _ _) _) _) _ _ _); k_here; refine Held.out ?_)
  k_with "Src3" => (k_here; refine Held.out ?_)
  k_with "eval BoolOp" => (k_here; refine Held.out ?_)
  k_with "CompEnd" => (k_here; refine Held.out ?_)
  trivial
theorem law_end (w : World) (dl self6 d6 norm6 cnt6 self7 d7 norm7 cnt7 : Addr) (q6 q7 : WsT) (R6 R7 : Str) (W6 W7 : WS) (tb6 tb7 : Tok) (vs6 vs7 dvs : List Value) (iv6 : IntsAre vs6 W6.cnt) (iv7 : IntsAre vs7 W7.cnt)
    (hz6 : W6.cnt.length ≤ 100000) (hz7 : W7.cnt.length ≤ 100000) (hb60 : 0 ≤ W6.b) (hb6 : W6.b ≤ 100000) (hb70 : 0 ≤ W7.b) (hb7 : W7.b ≤ 100000) (hne : Held (@Ne Nat cnt6 cnt7)) (nw : List (Addr × Obj)) (kd : Nat) (due : List Row) (hd : RowsIn nw dvs due) (hdz : due.length ≤ 1000)
    (md : (dl, W.listOf dvs.toArray kd) ∈ nw) (m1 : (self6, instObj 93 d6) ∈ nw) (m2 : (d6, wsD w q6 R6 W6.n W6.nt norm6 (decide ((W6.cnt.length : Int) ≤ 1))) ∈ nw) (m3 : (norm6, tupO [.ref cnt6, .int W6.b tb6]) ∈ nw) (m4 : (cnt6, tupO vs6) ∈ nw) (m5 : (self7, instObj 93 d7) ∈ nw) (m6 : (d7, wsD w q7 R7 W7.n W7.nt norm7 (decide ((W7.cnt.length : Int) ≤ 1))) ∈ nw) (m7 : (norm7, tupO [.ref cnt7, .int W7.b tb7]) ∈ nw) (m8 : (cnt7, tupO vs7) ∈ nw)
    (P1 : neRows W6.cnt W7.cnt W6.b W7.b W6.nt W7.nt = due.filter fun r => decide (r.2.1 ≠ r.2.2)) (P2 : leRows W6.cnt W7.cnt W6.b W7.b W6.nt W7.nt = due.filter fun r => decide (r.2.1 ≥ r.2.2)) (P3 : leRows W7.cnt W6.cnt W7.b W6.b W7.nt W6.nt = (due.map swapR).filter fun r => decide (r.2.1 ≥ r.2.2))
    (P4 : lessOf W6.n W7.n (decide ((W6.cnt.length : Int) ≤ 1)) (decide ((W7.cnt.length : Int) ≤ 1)) W6.cnt W7.cnt W6.b W7.b W6.nt W7.nt = decide ((due.filter fun r => decide (r.2.1 ≥ r.2.2)) = []))
    (P5 : lessOf W7.n W6.n (decide ((W7.cnt.length : Int) ≤ 1)) (decide ((W6.cnt.length : Int) ≤ 1)) W7.cnt W6.cnt W7.b W6.b W7.nt W6.nt = decide (((due.map swapR).filter fun r => decide (r.2.1 ≥ r.2.2)) = []))
    (P6 : (decide (W6.cnt = W7.cnt) && (W6.b == W7.b)) = decide ((due.filter fun r => decide (r.2.1 ≠ r.2.2)) = [])) :
    ∀ (mean : ExcName → Option Value) (mg mb : Str → Option Value) (L fa : Addr) (cdv : Value) (h₀ : Heap) (m : Str → Option Value) (s : Shared) (Q : Flow → Shared → Prop),
      Below callerA h₀ [] h₀ → Fr h₀ L s.heap (ovr [(Str.ofString "due", .ref dl), (Str.ofString "second", .ref self7), (Str.ofString "first", .ref self6)] m) → (kH w.params).In h₀ → Top viewT looseX mean mg mb h₀ →
      News h₀ L s.heap nw →
      (∀ h' tk' m', Fr h₀ L h' m' → Q (.ret (.bool true)) { s with heap := h', toks := tk' }) →
      wpAny (model PySem.Challenge.rw_rl0124_01.row.prog w) (callerA.deeper (envOfC (Str.ofString "law") lawSc L fa cdv)) (execs (lawB.drop 9) (envOfC (Str.ofString "law") lawSc L fa cdv)) Q (fun _ _ => False) s := by
  w_top off
  rw [lawSc_eq, show lawB.drop 9 = [_, _] from rfl]
  intro mean mg mb L fa cdv h₀ m s Q B F
  k_fill
  intro X T N hQ
  dsimp only [ovr] at F
  w_strict k_steps
  refine ⟨?_⟩
  refine AssignComp3 (cl := []) F (by rfl) ?h1 ?h2 (by decide) (by rfl) (by decide) (by rfl) (by rfl) (by rfl) (by decide) (by decide) (by decide) (by rfl) (by rfl) ?_
  case h1 => with_unfolding_all rfl
  case h2 => with_unfolding_all rfl
  w_strict k_steps
  refine ⟨⟨dl, dvs.toArray, kd, nw, fun i ys nw2 => (∀ p ∈ nw, p ∈ nw2) ∧ RowsIn nw2 ys ((due.take i).map swapR), rfl, rfl, F, N, md, by rw [List.size_toArray, hd.len]; exact Nat.le_trans hdz (by decide), ⟨fun _ hp => hp, .nil⟩, fun _ _ _ hJ => hJ.1, ?turn, ?fin⟩⟩
  case turn =>
    intro i v hv
    obtain ⟨r, hr, x, a, b, c, rfl, hm⟩ := hd.at (by simpa using hv)
    refine ⟨x, .int r.1 a, .int r.2.1 b, .int r.2.2 c, rfl, hm, ?_⟩
    intro ys nw2 I oI C oC D m₂ h tk E' hi hJ nC hx hy hz F N off ne
    w_strict k_steps
    rename_i D3 h3 F3 N3 l3
    refine ⟨⟨h3, _, (D3, tupO [.int r.1 a, .int r.2.2 c, .int r.2.1 b]) :: nw2, rfl, F3, news_sub N3 fun p hp => ?_, ⟨⟨Nat.ne_of_gt l3.1, Nat.ne_of_gt l3.2.1, Nat.ne_of_gt l3.2.2.1⟩, off⟩, trivial, fun p hp => .tail _ (hJ.1 p hp), ?_⟩⟩
    · simp only [List.mem_cons] at hp ⊢
      rcases hp with h | h | h | h | h <;> simp only [h, true_or, or_true]
    · rw [List.take_add_one, hr, List.map_append]
      exact (hJ.2.mono fun p hp => .tail _ hp).snoc ⟨D3, a, c, b, rfl, .head _⟩
  case fin =>
    intro ys nw2 hJ
    unfold LCg.FinA
    intro D2 h2 tk2 F3 N2 o2
    w_strict k_steps
    refine ⟨?_⟩
    have hs2 : ∀ p ∈ nw, p ∈ (D2, LCg.lst ys) :: nw2 := fun p hp => .tail _ (hJ.1 p hp)
    have hdA := hd.mono hs2
    have hbA : RowsIn ((D2, LCg.lst ys) :: nw2) ys (due.map swapR) := by
      have h := hJ.2
      rw [List.size_toArray, hd.len, List.take_length] at h
      exact h.mono fun p hp => .tail _ hp
    have nb : (D2, W.listOf ys.toArray ys.length) ∈ (D2, LCg.lst ys) :: nw2 := .head _
    have nd := hs2 _ md
    have n1 := hs2 _ m1
    have n2 := hs2 _ m2
    have n3 := hs2 _ m3
    have n4 := hs2 _ m4
    have n5 := hs2 _ m5
    have n6 := hs2 _ m6
    have n7 := hs2 _ m7
    have n8 := hs2 _ m8
    generalize (D2, LCg.lst ys) :: nw2 = tA at N2 hdA hbA nb nd n1 n2 n3 n4 n5 n6 n7 n8
    have N3 := N2
    clear N2
    refine BoolOp_and ?_
    refine (conj1 w dl D2 self6 d6 norm6 cnt6 self7 d7 norm7 cnt7 q6 q7 R6 R7 W6 W7 tb6 tb7 vs6 vs7 dvs ys iv6 iv7 hz6 hz7 hb60 hb6 hb70 hb7 tA kd ys.length due hdA hdz nd n1 n2 n3 n4 n5 n6 n7 n8) mean mg mb L fa cdv h₀ m _ _ B F3 X T N3 fun h4 tk4 F4 N4 => ?_
    rw [decide_eq_true P1]
    refine wpAny_truthy_bool ?_
    rw [if_pos rfl]
    refine BoolOp_and ?_
    refine (conj2 w dl D2 self6 d6 norm6 cnt6 self7 d7 norm7 cnt7 q6 q7 R6 R7 W6 W7 tb6 tb7 vs6 vs7 dvs ys iv6 iv7 hz6 hz7 hb60 hb6 hb70 hb7 tA kd ys.length due hdA hdz nd n1 n2 n3 n4 n5 n6 n7 n8) mean mg mb L fa cdv h₀ m _ _ B F4 X T N4 fun h5 tk5 F5 N5 => ?_
    rw [decide_eq_true P2]
    refine wpAny_truthy_bool ?_
    rw [if_pos rfl]
    refine BoolOp_and ?_
    refine (conj3 w dl D2 self6 d6 norm6 cnt6 self7 d7 norm7 cnt7 q6 q7 R6 R7 W6 W7 tb6 tb7 vs6 vs7 dvs ys iv6 iv7 hz6 hz7 hb60 hb6 hb70 hb7 tA kd ys.length (due.map swapR) hbA (by rw [List.length_map]; exact hdz) nb n1 n2 n3 n4 n5 n6 n7 n8) mean mg mb L fa cdv h₀ m _ _ B F5 X T N5 fun h6 tk6 F6 N6 => ?_
    rw [decide_eq_true P3]
    refine wpAny_truthy_bool ?_
    rw [if_pos rfl]
    refine BoolOp_and ?_
    refine (conj4 w dl D2 self6 d6 norm6 cnt6 self7 d7 norm7 cnt7 q6 q7 R6 R7 W6 W7 tb6 tb7 vs6 vs7 dvs ys iv6 iv7 hz6 hz7 hb60 hb6 hb70 hb7 tA kd ys.length due hdA hdz nd n1 n2 n3 n4 n5 n6 n7 n8) mean mg mb L fa cdv h₀ m _ _ B F6 X T N6 fun h7 tk7 F7 N7 => ?_
    rw [P4, beq_self_eq_true]
    refine wpAny_truthy_bool ?_
    rw [if_pos rfl]
    refine BoolOp_and ?_
    refine (conj5 w dl D2 self6 d6 norm6 cnt6 self7 d7 norm7 cnt7 q6 q7 R6 R7 W6 W7 tb6 tb7 vs6 vs7 dvs ys iv6 iv7 hz6 hz7 hb60 hb6 hb70 hb7 tA kd ys.length (due.map swapR) hbA (by rw [List.length_map]; exact hdz) nb n1 n2 n3 n4 n5 n6 n7 n8) mean mg mb L fa cdv h₀ m _ _ B F7 X T N7 fun h8 tk8 F8 N8 => ?_
    rw [P5, beq_self_eq_true]
    refine wpAny_truthy_bool ?_
    rw [if_pos rfl]
    refine BoolOp_one ?_
    refine (conj6 w dl D2 self6 d6 norm6 cnt6 self7 d7 norm7 cnt7 q6 q7 R6 R7 W6 W7 tb6 tb7 vs6 vs7 dvs ys iv6 iv7 hz6 hz7 hb60 hb6 hb70 hb7 hne.out tA kd ys.length due hdA hdz nd n1 n2 n3 n4 n5 n6 n7 n8) mean mg mb L fa cdv h₀ m _ _ B F8 X T N8 fun h9 tk9 F9 N9 => ?_
    rw [P6, beq_self_eq_true]
    w_strict k_steps
    exact hQ _ _ _ F9
end Mine
end
section -- LT
open PySem PySem.W PyProof.Rows PySem.Spec PySem.Calls
set_option maxRecDepth 100000
set_option maxHeartbeats 8000000
namespace Mine
noncomputable def nzL (gs : List Int) : Nat → List Int
  | 0 => []
  | i + 1 => nzL gs i ++ (if gs.getD (i + 1) 0 ≠ 0 then [(1 + (i : Int))] else [])
noncomputable def NZJ (gs : List Int) (i : Nat) (ys : List Value) : Prop := IntsAre ys (nzL gs i)
theorem NZJ.step1 {gs : List Int} {i : Nat} {ys : List Value} {t : Tok} (h : NZJ gs i ys) (hc : (gs.getD (1 + (i : Int)).toNat 0 != 0) = true) : NZJ gs (i + 1) (ys ++ [.int (1 + (i : Int)) t]) := by
  have e : (1 + (i : Int)).toNat = i + 1 := Nat.add_comm 1 i
  rw [e] at hc
  unfold NZJ nzL
  rw [if_pos (by simpa using hc)]
  exact ints_app h (.cons _ _ .nil)
theorem NZJ.step2 {gs : List Int} {i : Nat} {ys : List Value} (h : NZJ gs i ys) (hc : (gs.getD (1 + (i : Int)).toNat 0 != 0) = false) : NZJ gs (i + 1) ys := by
  have e : (1 + (i : Int)).toNat = i + 1 := Nat.add_comm 1 i
  rw [e] at hc
  unfold NZJ nzL
  rw [if_neg (by simpa using hc), List.append_nil]
  exact h
theorem nzL_mem {gs : List Int} : ∀ {i : Nat} {a : Int}, a ∈ nzL gs i → 1 ≤ a ∧ a ≤ i
  | 0, _, h => nomatch h
  | i + 1, a, h => by
    unfold nzL at h
    rcases List.mem_append.mp h with h | h
    · have := nzL_mem h; omega
    · split at h
      · rw [List.mem_singleton] at h; omega
      · cases h
theorem nzL_len (gs : List Int) : ∀ i : Nat, (nzL gs i).length ≤ i
  | 0 => Nat.le_refl _
  | i + 1 => by
    have := nzL_len gs i
    unfold nzL
    rw [List.length_append]
    split <;> simp <;> omega
theorem mul_abs {sh : Heap} {sg : Array GenState} {sd : Drawn} {st : Nat} {so : OsState} {prog : Program} {w : World} {A : Around} {E : Value → Shared → Prop} {a b : Int} {t u : Tok} {Q : Value → Shared → Prop} (h1 : -1000 ≤ a) (h2 : a ≤ 1000) (h : Q (.int ((if a < 0 then -a else a) * b) st) ⟨sh, sg, sd, st + 1, so⟩) :
    wpAny (model prog w) A (binaryOp .Mult (.int (if a < 0 then -a else a) t) (.int b u)) Q E ⟨sh, sg, sd, st, so⟩ := mul_l (by split <;> rename_i hn <;> first | exact Int.le_trans (show (-1000000000 : Int) ≤ 0 by decide) (Int.neg_nonneg_of_nonpos (Int.le_of_lt hn)) | exact Int.le_trans (by decide) h1) (by split <;> first | exact Int.le_trans (Int.neg_le_neg h1) (by decide) | exact Int.le_trans h2 (by decide)) h
theorem post_genT {M : Model} {A : Around} {α : Type} {a : Sem α} {E : Value → Shared → Prop} {s : Shared} {Q : α → Shared → Prop} (h : ∀ Q' : α → Shared → Prop, (∀ v s', Q v s' → Q' v s') → wpAny M A a Q' E s) : wpAny M A a Q E s := h Q fun _ _ q => q
theorem join_int {M : Model} {A : Around} {a : Sem Value} {E : Value → Shared → Prop} {s : Shared} {Q : Value → Shared → Prop} (P : Int → Prop) (h1 : wpAny M A a (fun v s' => ∃ z t tk, v = .int z t ∧ s' = { s with toks := tk } ∧ P z) E s)
    (h2 : ∀ z t tk, P z → Q (.int z t) { s with toks := tk }) : wpAny M A a Q E s :=
  wpAny_mono h1 (fun v s' h => by obtain ⟨z, t, tk, rfl, rfl, p⟩ := h; exact h2 z t tk p) fun _ _ e => e
theorem eqNe {a b : Nat} (h : a ≠ b) : @Ne Nat a b := h
theorem row_tok {h₀ h : Heap} {L D : Addr} {p q : Addr × Obj} {rest : List (Addr × Obj)} {x y z : Int} {a b c : Tok} (N : News h₀ L h (p :: q :: (D, tupO [Value.int x a, Value.int y b, Value.int z c]) :: rest)) :
    ∃ a b c, News h₀ L h (p :: q :: (D, rowO (x, y, z) a b c) :: rest) := ⟨a, b, c, N⟩
theorem append_row {sh : Heap} {sg : Array GenState} {sd : Drawn} {st : Nat} {so : OsState} {prog : Program} {w : World} {A : Around} {E : Value → Shared → Prop} {h₀ : Heap} {L l D I : Addr} {m : Str → Option Value} {rest : List (Addr × Obj)} {vs : List Value} {n : Nat} {x y z : Int} {a b c : Tok} {oI : Obj} {Q : Value → Shared → Prop}
    (F : Fr h₀ L sh m) (N : News h₀ L sh ((D, tupO [Value.int x a, Value.int y b, Value.int z c]) :: (I, oI) :: (l, listOf vs.toArray n) :: rest)) (h1 : @Ne Nat I l) (h2 : @Ne Nat D l) (h3 : ∀ p ∈ rest, @Ne Nat p.1 l) (hz : vs.length ≤ 1000000)
    (h : ∀ h', Fr h₀ L h' m → News h₀ L h' ((I, oI) :: (l, listOf (vs ++ [Value.ref D]).toArray (n + 1)) :: (D, tupO [Value.int x a, Value.int y b, Value.int z c]) :: rest) → Q .none ⟨h', sg, sd, st, so⟩) : wpAny (model prog w) A (call (.builtin "list.append") [.ref l, .ref D]) Q E ⟨sh, sg, sd, st, so⟩ := by
  refine append_my (keep := (I, oI) :: (D, tupO [Value.int x a, Value.int y b, Value.int z c]) :: rest) F N (.tail _ (.tail _ (.head _))) (fun p hp => ?_) hz fun h' F' N' => h h' F' (news_sub N' fun p hp => ?_)
  · rcases List.mem_cons.mp hp with rfl | hp
    · exact ⟨.tail _ (.head _), h1⟩
    · rcases List.mem_cons.mp hp with rfl | hp
      · exact ⟨.head _, h2⟩
      · exact ⟨.tail _ (.tail _ (.tail _ hp)), h3 p hp⟩
  · simp only [List.mem_cons] at hp ⊢
    rcases hp with h | h | h | h <;> simp only [h, true_or, or_true]
structure Six (W6 W7 : WS) (due : List Row) : Prop where
  p1 : neRows W6.cnt W7.cnt W6.b W7.b W6.nt W7.nt = due.filter fun r => decide (r.2.1 ≠ r.2.2)
  p2 : leRows W6.cnt W7.cnt W6.b W7.b W6.nt W7.nt = due.filter fun r => decide (r.2.1 ≥ r.2.2)
  p3 : leRows W7.cnt W6.cnt W7.b W6.b W7.nt W6.nt = (due.map swapR).filter fun r => decide (r.2.1 ≥ r.2.2)
  p4 : lessOf W6.n W7.n (decide ((W6.cnt.length : Int) ≤ 1)) (decide ((W7.cnt.length : Int) ≤ 1)) W6.cnt W7.cnt W6.b W7.b W6.nt W7.nt = decide ((due.filter fun r => decide (r.2.1 ≥ r.2.2)) = [])
  p5 : lessOf W7.n W6.n (decide ((W7.cnt.length : Int) ≤ 1)) (decide ((W6.cnt.length : Int) ≤ 1)) W7.cnt W6.cnt W7.b W6.b W7.nt W6.nt = decide (((due.map swapR).filter fun r => decide (r.2.1 ≥ r.2.2)) = [])
  p6 : (decide (W6.cnt = W7.cnt) && (W6.b == W7.b)) = decide ((due.filter fun r => decide (r.2.1 ≠ r.2.2)) = [])
theorem fr_agree {h₀ h : Heap} {L : Addr} {m : Str → Option Value} {vs : List (Str × Value)} (F : Fr h₀ L h m) (ha : agree vs m) : Fr h₀ L h (ovr vs m) := by
  have e : ovr vs m = m := funext (ovr_agree ha)
  rw [e]; exact F
structure DueSt where
  vs : List Value
  k : Nat
  tups : List (Addr × Obj)
  tabs : Option Value
  kk : Option Value
  low : Option Value
noncomputable abbrev dueV (c : DueSt) : List (Str × Option Value) := [(Str.ofString "tabs", c.tabs), (Str.ofString "k", c.kk), (Str.ofString "low", c.low)]
noncomputable abbrev dueLd (l : Addr) (nw : List (Addr × Obj)) (c : DueSt) : List (Addr × Obj) := (l, W.listOf c.vs.toArray c.k) :: (c.tups ++ nw)
noncomputable abbrev dueP (l : Addr) (gs wls : List Int) (mo c7 : Int) (i : Nat) (c : DueSt) : Prop := RowsIn c.tups c.vs (dueL gs wls mo c7 i) ∧ ∀ p ∈ c.tups, @LT.lt Nat _ l p.1
noncomputable abbrev tabV (c : Int × Tok) : List (Str × Value) := [(Str.ofString "tabs", .int c.1 c.2)]
noncomputable abbrev tabP (gs : List Int) (c7 : Int) (i k : Nat) (c : Int × Tok) : Prop := c.1 = tabsL gs c7 (1 + (i : Int)) k
theorem kw0_LT : True := by
  k_with_none
  k_with "storeName" => (k_here; k_dflt (first | (refine storeX_Ui (by k_asm) (by k_asm) ?_ (by rfl) (by rfl); k_whole; intro _ _ _ _ _) | (refine storeX_Us (by k_asm) (by k_asm) ?_ (by rfl) (by rfl); k_whole; intro _ _ _ _ _) | (refine storeX_U (by k_asm) (by k_asm) ?_ (by rfl) (by rfl); k_whole; intro _ _ _ _)); (try k_sweep))
  k_with "eval Constant int" => (refine int_l ?_)
  k_with "binaryOp Add int int" => (refine add_l ?_)
  k_with "binaryOp Sub int int" => (refine sub_l ?_)
  k_with "call builtin:max" => (k_here; refine Held.out ?_)
  k_with "binaryOp Add ref ref" => (k_here; refine Held.out ?_)
  k_with "pyIter ref" => ((with_reducible show wpAny _ _ (pyIter (Value.ref _)) (fun it s₂ => LoopAtV _ _ _ _ _ _ _ _ _ it s₂) _ _); k_here; refine Held.out ?_)
  k_with "eval IfExp" => (k_here; refine Held.out ?_)
  k_with "call builtin:list.append" => (k_here; refine Held.out ?_)
  k_with "eval ListComp" => ((with_reducible show wpAny _ _ (eval (Expr.ListComp _ [⟨_, _, [], _⟩] _ _) _) _ _ _); k_here; k_dflt (refine LCg.ListComp_U (F₀ := by k_asm) (by rfl) (by decide) (by rfl) (by decide) (by rfl) ?_))
  k_with "eval ListComp" => ((with_reducible show wpAny _ _ (eval (Expr.ListComp _ [⟨_, _, [_], _⟩] _ _) _) _ _ _); k_here; k_dflt (refine LCt.ListComp_T (F₀ := by k_asm) (by rfl) (by decide) (by rfl) (by decide) (by rfl) ?_))
  k_with "CompSrcT" => (k_here; refine Held.out ?_)
  k_with "subscriptTail Name Constant ref int" => (k_here; (with_reducible show wpAny _ _ (subscriptTail _ _ (Value.ref _) (Value.int _ _)) _ _ _); k_dflt (refine item_cx (by k_asm) (by k_mem) (by assumption) (by assumption) (by assumption) (by decide) (by decide) ?_; intro _))
  k_with "subscriptTail Name Name ref int" => (k_here; refine item_listI (by k_asm) (by k_mem) (by assumption) (by first | assumption | omega) (by first | assumption | omega) (by first | assumption | omega) ?_; intro _)
  k_with "CompEnd" => (refine compEnd_same (by assumption) (by assumption) (by assumption) (by exact trivial) ?_; refine ⟨rfl, ?_⟩)
  k_with "binaryOp Mult int int" => (k_here; first | (refine mul_abs (by assumption) (by assumption) ?_) | (refine mul_l (by omega) (by omega) ?_) | (refine mul_r (by omega) (by omega) ?_))
  k_with "eval Name" => ((with_reducible show wpAny _ _ (eval (Expr.Name (Str.ofString "gains") _) (envOfC _ _ _ _ _)) _ _ _); k_here; refine nameX_C (by assumption) (by exact rfl) (by k_mem) (by assumption) ?_; k_whole)
  trivial
theorem law_tail (w : World) (wl gl l1 self6 d6 norm6 cnt6 self7 d7 norm7 cnt7 : Addr) (q6 q7 : WsT) (R6 R7 : Str) (W6 W7 : WS) (tb6 tb7 : Tok) (vs6 vs7 : List Value) (iv6 : IntsAre vs6 W6.cnt) (iv7 : IntsAre vs7 W7.cnt)
    (gs wls cs : List Int) (gv wv cv : List Value) (hgi : IntsAre gv gs) (hwi : IntsAre wv wls) (hci : IntsAre cv cs) (hl7 : (gs.length : Int) = 7) (hl8 : (wls.length : Int) = 8) (hcl8 : (cs.length : Int) = 8) (c7 mo : Int) (hc7 : cs.getD 7 0 = c7) (tm : Tok) (kw kg kc : Nat) (oc : Obj)
    (hz6 : W6.cnt.length ≤ 100000) (hz7 : W7.cnt.length ≤ 100000) (hb60 : 0 ≤ W6.b) (hb6 : W6.b ≤ 100000) (hb70 : 0 ≤ W7.b) (hb7 : W7.b ≤ 100000) (hne : Held (@Ne Nat cnt6 cnt7))
    (hoc : oc.data = .cell (some (.ref gl))) (bg : ∀ g ∈ gs, -100 ≤ g ∧ g ≤ 100) (bw : ∀ x ∈ wls, -2 ≤ x ∧ x ≤ 2) (m7 : -1 ≤ mo ∧ mo ≤ 1) (b7 : 0 ≤ c7 ∧ c7 ≤ 100000000)
    (hpl : ∀ M : Int, M ∈ [1 + if mo < 0 then -mo else mo] ++ nzL gs 6 → (∀ a ∈ [1 + if mo < 0 then -mo else mo] ++ nzL gs 6, a ≤ M) → Six W6 W7 (dueL gs wls mo c7 (M + 1).toNat)) :
    ∀ (mean : ExcName → Option Value) (mg mb : Str → Option Value) (L fa : Addr) (cdv : Value) (h₀ : Heap) (m : Str → Option Value) (s : Shared) (Q : Flow → Shared → Prop),
      Below callerA h₀ [] h₀ → Fr h₀ L s.heap (ovr [(Str.ofString "second", .ref self7), (Str.ofString "first", .ref self6), (Str.ofString "more", .int mo tm), (Str.ofString "wanted", .ref wl), (Str.ofString "cells", .ref l1)] m) → (kH w.params).In h₀ → Top viewT looseX mean mg mb h₀ →
      ∀ nw : List (Addr × Obj), (self6, instObj 93 d6) ∈ nw → (d6, wsD w q6 R6 W6.n W6.nt norm6 (decide ((W6.cnt.length : Int) ≤ 1))) ∈ nw → (norm6, tupO [.ref cnt6, .int W6.b tb6]) ∈ nw → (cnt6, tupO vs6) ∈ nw → (self7, instObj 93 d7) ∈ nw → (d7, wsD w q7 R7 W7.n W7.nt norm7 (decide ((W7.cnt.length : Int) ≤ 1))) ∈ nw → (norm7, tupO [.ref cnt7, .int W7.b tb7]) ∈ nw → (cnt7, tupO vs7) ∈ nw → (gl, W.listOf gv.toArray kg) ∈ nw → (wl, W.listOf wv.toArray kw) ∈ nw → (l1, W.listOf cv.toArray kc) ∈ nw → (L + 1, oc) ∈ nw → News h₀ L s.heap nw →
      (∀ h' tk' m', Fr h₀ L h' m' → Q (.ret (.bool true)) { s with heap := h', toks := tk' }) →
      wpAny (model PySem.Challenge.rw_rl0124_01.row.prog w) (callerA.deeper (envOfC (Str.ofString "law") lawSc L fa cdv)) (execs (lawB.drop 6) (envOfC (Str.ofString "law") lawSc L fa cdv)) Q (fun _ _ => False) s := by
  w_top off
  rw [lawSc_eq, show lawB.drop 6 = _ :: _ :: _ :: lawB.drop 9 from rfl]
  intro mean mg mb L fa cdv h₀ m s Q B F
  k_fill
  intro X T nw n1 n2 n3 n4 n5 n6 n7 n8 ng nw8 nl nc N hQ
  dsimp only [ovr] at F
  w_strict k_steps
  have hl7' : gs.length = 7 := Int.ofNat.inj hl7
  refine ⟨?_⟩
  rename_i R1 F1 N1 S1
  refine LCt.CompSrcT.range (n := 6) rfl F1 N1 R1 (by decide) (by decide) (by decide) ?_
  intro gg
  refine rest_indT (J := NZJ gs) ?turnC ?finC IntsAre.nil
  case turnC =>
    intro i ys v I oI C oC D m₂ h tk E' hi6 hJ hv hC hx F N off ne
    obtain ⟨t9, rfl⟩ := hv
    w_strict k_steps
    · exact hJ.step1 (by simpa using ‹_ ≠ _›)
    · exact hJ.step2 (by simpa using ‹_›)
  case finC =>
    intro ys hJ
    unfold LCg.FinE
    intro D2 h2 tk2 F2 N2 o2
    simp only [LCg.Off1, and_true] at o2
    w_strict k_steps
    have hJl := nzL_len gs 6
    refine ⟨add_listI F2 N2 (by k_mem) (.head _) (.cons _ _ .nil) hJ (Nat.le_trans (Nat.add_le_add_left hJl 1) (by decide)) ?_⟩
    intro D3 h3 us3 F3 N3 l3 i3
    w_strict k_steps
    refine ⟨kso_max F3 N3 (News.isList N3 (.head _)) i3 (by rw [List.length_append]; exact Nat.lt_of_lt_of_le Nat.zero_lt_one (Nat.le_add_right 1 _)) rfl ?_⟩
    intro h4 M tM tk4 F4 N4 hM hMx
    have hM1 : 1 ≤ M ∧ M ≤ 6 := by
      rcases List.mem_append.mp hM with q | q
      · rw [List.mem_singleton] at q
        subst q
        split <;> omega
      · have := nzL_mem q; omega
    have N5 := news_sub N4 (news' := nw) fun p hp => .tail _ (.tail _ (.tail _ hp))
    have hM2 : Held (1 ≤ M ∧ M ≤ 6) := ⟨hM1⟩
    clear N4 N3 N2 hM1 o2 l3
    w_strict k_steps
    refine ⟨?_⟩
    have hM1 := hM2.out
    rename_i l' h2 l1' h1 tkz F0 N0 h3 tk3 t1' u1' v1' R1 F1 N1 S1
    refine' range_objsO (σ := DueSt) dueV (dueLd l' nw) (dueP l' gs wls mo c7) ⟨[], 0, [], ?a1, ?a2, ?a3⟩ ?hh ?hr ?hs ?hn ?F ?N ?hsub ?hm ?hp ?turn ?done
    case hh => rfl
    case hr => exact R1
    case hn => exact rangeSize_nat _ _
    case hs => exact small_one (by decide) (by decide) (Int.le_trans (show -(2 ^ 62) ≤ (0 : Int) by decide) (Int.add_nonneg (Int.le_trans (by decide) hM1.1) (by decide))) (Int.lt_of_le_of_lt (Int.add_le_add_right hM1.2 2) (by decide))
    case F => exact F1
    case N => exact N1
    case hsub => exact fun p hp => hp
    case hm => exact ⟨by with_unfolding_all exact rfl, by with_unfolding_all exact rfl, by with_unfolding_all exact rfl, trivial⟩
    case hp => exact ⟨.nil, fun _ hp => nomatch hp⟩
    case turn =>
      intro i t c h tk I oI hi0 hc hI F3 N3
      simp only [Int.mul_one] at F3
      dsimp only [dueLd] at N3
      have hi7 : i < 7 := by clear bg bw m7 b7 hpl hM hMx hz6 hz7 hb60 hb6 hb70 hb7 hl7 hl8 hcl8; omega
      have ng' := List.mem_append_right c.tups ng
      have nw8' := List.mem_append_right c.tups nw8
      have nl' := List.mem_append_right c.tups nl
      have nc' := List.mem_append_right c.tups nc
      refine post_genT fun QT hQT => ?_
      w_strict k_steps
      refine ⟨?_⟩
      rename_i R4 F4 N4 S4
      refine' range_names (σ := Int × Tok) tabV (tabP gs c7 i) (⟨?b1, ?b2⟩ : Int × Tok) ?jhh ?jhr ?jhs ?jhn ?jF ?jN ?jhm ?jhp ?jturn ?jdone
      case jhh => rfl
      case jhr => exact R4
      case jhn => exact rangeSize_nat _ _
      case jhs => decide
      case jF => exact F4
      case jN => exact N4
      case jhm => exact ⟨by with_unfolding_all exact rfl, trivial⟩
      case jhp => rfl
      case jturn =>
        intro j tj cj hj tkj J oJ hjn hcj hJ F5 N5
        simp only [Int.mul_one] at F5
        have hj6 : j < 6 := hjn
        have hgj : -100 ≤ gs.getD (1 + (j : Int)).toNat 0 ∧ gs.getD (1 + (j : Int)).toNat 0 ≤ 100 := by
          have hlt : (1 + (j : Int)).toNat < gs.length := by rw [hl7']; exact Nat.add_lt_add_left hj6 1
          rw [List.getD_eq_getElem?_getD, List.getElem?_eq_getElem hlt]
          exact bg _ (List.getElem_mem hlt)
        have hgA := Int.le_trans (show (-1000 : Int) ≤ -100 by decide) hgj.1
        have hgB := Int.le_trans hgj.2 (show (100 : Int) ≤ 1000 by decide)
        have hk0 : 0 ≤ 1 + (j : Int) := Int.natCast_nonneg (1 + j)
        have hk1 : 1 + (j : Int) < gs.length := by rw [hl7]; exact Int.ofNat_lt.mpr (Nat.add_lt_add_left hj6 1)
        have hk2 : 1 + (j : Int) < 2 ^ 63 := Int.lt_trans hk1 (by rw [hl7]; decide)
        refine post_genT fun QJ hQJ => ?_
        w_strict k_steps
        refine ⟨join_int (fun z => z = if 0 < gs.getD (1 + (j : Int)).toNat 0 then 1 else 0) ?_ ?_⟩
        · refine IfExp_ ?_
          w_strict k_steps
          · rw [if_pos (by assumption)]
          · rw [if_neg (by assumption)]
        rintro zj tz kz ez
        w_strict k_steps
        refine' hQJ _ _ (TurnL.intro (by assumption) (by assumption) (⟨?d1, ?d2⟩ : Int × Tok) (fun p hp => hp) hJ ?jm ?jp)
        case jm =>
          intro y hy
          by_cases h1 : y = Str.ofString "tabs"
          · subst h1; with_unfolding_all exact rfl
          simp only [upd, ovr, if_neg h1, if_neg hy]
        case jp =>
          show _ = tabsL _ _ _ (j + 1)
          rw [tabsL, ← hcj, ez, show (1 + (j : Int)).toNat = j + 1 from Nat.add_comm 1 j]
      case jdone =>
        intro cj u hj tkj hcj F5 N5
        w_strict k_steps
        refine ⟨join_int (fun z => z = if mo < 0 then 2 else 1) ?_ ?_⟩
        · refine IfExp_ ?_
          w_strict k_steps
          · rw [if_pos (by assumption)]
          · rw [if_neg (by assumption)]
        rintro zl tz kz ez
        have hlow : (1 + (i : Int)) * cj.1 + zl = lowL gs mo c7 (1 + (i : Int)) := by rw [lowL, ez, hcj]; rfl
        have hIl := eqNe (hI _ (.head _))
        have hvl : c.vs.length ≤ 1000000 := by rw [hc.1.len]; exact Nat.le_trans (dueL_len _ _ _ _ _) (Nat.le_trans (Nat.le_of_lt hi7) (by decide))
        have hrest : Held (∀ p ∈ c.tups ++ nw, @Ne Nat p.1 l') := ⟨fun p hp => (List.mem_append.mp hp).elim (fun hp => Nat.ne_of_gt (hc.2 p hp)) fun hp => Nat.ne_of_lt (l1' p hp)⟩
        w_strict k_steps
        rename_i D6 h6 F6 N6 l6
        refine ⟨append_row F6 N6 (fun e => hIl e.symm) (Nat.ne_of_gt l6.2.1) hrest.out hvl ?_⟩
        intro h7 F7 N7
        w_strict k_steps
        obtain ⟨ka, kb, kd, N8⟩ := row_tok N7
        clear N7
        have ei : (1 + (i : Int)).toNat = i + 1 := Nat.add_comm 1 i
        rw [ei] at N8
        refine' hQT _ _ (TurnL.intro (by assumption) N8 ⟨c.vs ++ [Value.ref D6], c.k + 1, (D6, rowO (1 + (i : Int), (1 + (i : Int)) * cj.1 + zl + (1 + (i : Int)) * wls.getD (i + 1) 0 + mo, (1 + (i : Int)) * cj.1 + zl) ka kb kd) :: c.tups, ?e1, ?e2, ?e3⟩ ?ths ?thI ?thm ⟨?thp, ?thq⟩)
        case thm =>
          intro y hy
          by_cases h1 : y = Str.ofString "tabs"
          · subst h1; with_unfolding_all exact rfl
          by_cases h2 : y = Str.ofString "k"
          · subst h2; with_unfolding_all exact rfl
          by_cases h3 : y = Str.ofString "low"
          · subst h3; with_unfolding_all exact rfl
          simp only [upd, ovr, ovrO, if_neg h1, if_neg h2, if_neg h3, if_neg hy]
        case ths =>
          intro p hp
          rcases List.mem_cons.mp hp with hp | hp
          · rw [hp]; exact .head _
          · rcases List.mem_cons.mp hp with hp | hp
            · rw [hp]; exact .tail _ (.head _)
            · exact .tail _ (.tail _ hp)
        case thI =>
          intro p hp
          rcases List.mem_cons.mp hp with rfl | hp
          · exact hIl
          · rcases List.mem_cons.mp hp with rfl | hp
            · exact Nat.ne_of_gt l6.1
            · exact hI _ (.tail _ hp)
        case thp =>
          show RowsIn _ _ (dueL _ _ _ _ (i + 1))
          rw [dueL, ← hlow]
          exact (hc.1.mono fun p hp => .tail _ hp).snoc ⟨D6, ka, kb, kd, rfl, .head _⟩
        case thq =>
          intro p hp
          rcases List.mem_cons.mp hp with rfl | hp
          · exact l6.2.1
          · exact hc.2 p hp
    case done =>
      intro c u h tk hc F3 N3
      dsimp only [dueLd] at N3
      have hMn : (M + 2 - 1).toNat = (M + 1).toNat := congrArg Int.toNat (by rw [Int.add_sub_assoc]; rfl)
      rw [hMn] at hc
      have six := hpl M hM hMx
      have hd := hc.1.mono fun p hp => (.tail (l', W.listOf c.vs.toArray c.k) (List.mem_append_left nw hp) : p ∈ (l', W.listOf c.vs.toArray c.k) :: (c.tups ++ nw))
      have hdz : (dueL gs wls mo c7 (M + 1).toNat).length ≤ 1000 := Nat.le_trans (dueL_len _ _ _ _ _) (Int.toNat_le.mpr (Int.le_trans (Int.add_le_add_right hM1.2 1) (by decide)))
      have F4 := fr_agree (vs := [(Str.ofString "due", .ref l'), (Str.ofString "second", .ref self7), (Str.ofString "first", .ref self6)]) F3 ⟨by with_unfolding_all exact rfl, by with_unfolding_all exact rfl, by with_unfolding_all exact rfl, trivial⟩
      exact (law_end w l' self6 d6 norm6 cnt6 self7 d7 norm7 cnt7 q6 q7 R6 R7 W6 W7 tb6 tb7 vs6 vs7 c.vs iv6 iv7 hz6 hz7 hb60 hb6 hb70 hb7 hne _ c.k _ hd hdz (.head _) (.tail _ (List.mem_append_right _ n1)) (.tail _ (List.mem_append_right _ n2)) (.tail _ (List.mem_append_right _ n3)) (.tail _ (List.mem_append_right _ n4)) (.tail _ (List.mem_append_right _ n5)) (.tail _ (List.mem_append_right _ n6)) (.tail _ (List.mem_append_right _ n7)) (.tail _ (List.mem_append_right _ n8)) six.p1 six.p2 six.p3 six.p4 six.p5 six.p6) mean mg mb L fa cdv h₀ _ _ _ B F4 X T N3 hQ
end Mine
end
section -- PL13
open PySem PySem.W PyProof.Rows PySem.Spec PySem.Calls
set_option maxRecDepth 100000
namespace Mine
theorem textE_len (gs : List Int) : ∀ i, (textE gs true i).length = (textE gs false i).length
  | 0 => rfl
  | i + 1 => by rw [textE, textE, List.length_append, List.length_append, textE_len gs i, List.length_replicate, List.length_replicate]
theorem rowsP_swap (p : Int → Bool) (f g : Int → Int) : ∀ n, rowsP p g f n = (rowsP p f g n).map swapR
  | 0 => rfl
  | n + 1 => by
    rw [rowsP, rowsP, List.map_append, rowsP_swap p f g n]
    congr 1
    split <;> rfl
theorem rowsP_nil (p : Int → Bool) (f g : Int → Int) : ∀ n, rowsP p f g n = [] ↔ ∀ i : Nat, i < n → p (1 + (i : Int)) = false
  | 0 => ⟨fun _ i h => absurd h (Nat.not_lt_zero i), fun _ => rfl⟩
  | n + 1 => by
    rw [rowsP, List.append_eq_nil_iff, rowsP_nil p f g n]
    constructor
    · rintro ⟨h1, h2⟩ i hi
      by_cases q : i = n
      · subst q
        cases e : p (1 + (i : Int)) with
        | false => rfl
        | true => rw [e, if_pos rfl] at h2; cases h2
      · exact h1 i (by omega)
    · intro h
      refine ⟨fun i hi => h i (by omega), ?_⟩
      rw [h n (by omega)]; rfl
theorem allLess_iff (f g : Int → Int) (k : Nat) : allLess f g k = true ↔ ∀ j : Nat, j < k → f (2 + (j : Int)) < g (2 + (j : Int)) := by
  unfold allLess
  rw [List.all_eq_true]
  constructor
  · intro h j hj
    simpa using h j (List.mem_range.mpr hj)
  · intro h j hj
    simpa using h j (List.mem_range.mp hj)
theorem nzL_in {gs : List Int} {k : Nat} (h : gs.getD (k + 1) 0 ≠ 0) : ∀ {i : Nat}, k < i → (1 + (k : Int)) ∈ nzL gs i
  | 0, h => absurd h (Nat.not_lt_zero k)
  | i + 1, hi => by
    rw [nzL, List.mem_append]
    by_cases q : k = i
    · subst q; rw [if_pos h]; exact .inr (.head _)
    · exact .inl (nzL_in h (by omega))
theorem nzL_of {gs : List Int} {a : Int} : ∀ {i : Nat}, a ∈ nzL gs i → ∃ k : Nat, k < i ∧ gs.getD (k + 1) 0 ≠ 0 ∧ a = 1 + (k : Int)
  | 0, h => nomatch h
  | i + 1, h => by
    rw [nzL, List.mem_append] at h
    rcases h with h | h
    · obtain ⟨k, h1, h2⟩ := nzL_of h
      exact ⟨k, by omega, h2⟩
    · split at h
      · rw [List.mem_singleton] at h
        exact ⟨i, by omega, by assumption, h⟩
      · cases h
/-- less, told by the columns -/
theorem less_rows {n n2 nt nt2 b b2 M : Int} {ns ns2 : List Int} {sim sim2 : Bool} (hn : n = ilOf ns b nt 1) (hn2 : n2 = ilOf ns2 b2 nt2 1) (hT : topN ns ns2 b b2 = M + 1) (hM : 1 ≤ M) (hnt : nt ≤ nt2)
    (hsim : (sim && sim2) = true → ilOf ns b nt 1 < ilOf ns2 b2 nt2 1 → ∀ i : Nat, i < (M + 1).toNat → ilOf ns b nt (1 + (i : Int)) < ilOf ns2 b2 nt2 (1 + (i : Int))) :
    lessOf n n2 sim sim2 ns ns2 b b2 nt nt2 = decide (leRows ns ns2 b b2 nt nt2 = []) := by
  have hr : leRows ns ns2 b b2 nt nt2 = [] ↔ ∀ i : Nat, i < (M + 1).toNat → ilOf ns b nt (1 + (i : Int)) < ilOf ns2 b2 nt2 (1 + (i : Int)) := by
    unfold leRows
    rw [rowsP_nil, hT]
    refine forall_congr' fun i => forall_congr' fun _ => ?_
    rw [decide_eq_false_iff_not]
    omega
  rw [Bool.eq_iff_iff, decide_eq_true_iff, hr]
  unfold lessOf
  rw [hn, hn2]
  by_cases h1 : ilOf ns b nt 1 ≥ ilOf ns2 b2 nt2 1
  · rw [if_pos h1]
    refine ⟨fun h => (by cases h), fun h => ?_⟩
    have := h 0 (by omega)
    rw [show (1 + ((0 : Nat) : Int)) = 1 from rfl] at this
    omega
  · rw [if_neg h1]
    cases hs : (sim && sim2) with
    | true =>
      rw [if_pos rfl]
      exact ⟨fun _ => hsim hs (by omega), fun _ => decide_eq_true hnt⟩
    | false =>
      rw [if_neg (by decide), allLess_iff, hT, show (M + 1 + 1 - 2).toNat = M.toNat by omega]
      constructor
      · intro h i hi
        cases i with
        | zero => rw [show (1 + ((0 : Nat) : Int)) = 1 from rfl]; omega
        | succ i => rw [show (1 + ((i + 1 : Nat) : Int)) = 2 + (i : Int) by omega]; exact h i (by omega)
      · intro h j hj
        have := h (j + 1) (by omega)
        rw [show (1 + ((j + 1 : Nat) : Int)) = 2 + (j : Int) by omega] at this
        exact this
end Mine
end
section -- PL14
open PySem PySem.W PyProof.Rows PySem.Spec PySem.Calls
set_option maxRecDepth 100000
namespace Mine
theorem sw_filter (due : List Row) (q q' : Row → Bool) (h : ∀ r, q (swapR r) = q' r) : (due.map swapR).filter q = (due.filter q').map swapR := by
  rw [List.filter_map]
  congr 2
  exact funext h
theorem short_zero {gs : List Int} {w : Nat} {b b' : Int} (h6 : ((wsR w (textE gs true 6) b).cnt.length : Int) ≤ 1) (h7 : ((wsR w (textE gs false 6) b').cnt.length : Int) ≤ 1) (k : Nat) (hk : k < 6) : gs.getD (k + 1) 0 = 0 := by
  by_cases h : gs.getD (k + 1) 0 = 0
  · exact h
  · rcases len_ge (w := w) hk h b b' with q | q
    · clear h7 h hk; omega
    · clear h6 h hk; omega
/-- the six answers, from the columns -/
theorem six_core {W6 W7 : WS} {gs ws : List Int} {mo c7 M : Int} (hM : 1 ≤ M) (T1 : topN W6.cnt W7.cnt W6.b W7.b = M + 1) (T2 : topN W7.cnt W6.cnt W7.b W6.b = M + 1)
    (cg : ∀ i : Nat, i < (M + 1).toNat → ilOf W7.cnt W7.b W7.nt (1 + (i : Int)) = lowL gs mo c7 (1 + (i : Int)))
    (cf : ∀ i : Nat, i < (M + 1).toNat → ilOf W6.cnt W6.b W6.nt (1 + (i : Int)) = lowL gs mo c7 (1 + (i : Int)) + (1 + (i : Int)) * ws.getD (i + 1) 0 + mo)
    (n6 : W6.n = ilOf W6.cnt W6.b W6.nt 1) (n7 : W7.n = ilOf W7.cnt W7.b W7.nt 1) (nts : W6.nt = W7.nt)
    (flat : ((W6.cnt.length : Int) ≤ 1) → ((W7.cnt.length : Int) ≤ 1) → ∀ i : Nat, i < (M + 1).toNat → ilOf W6.cnt W6.b W6.nt (1 + (i : Int)) = ilOf W7.cnt W7.b W7.nt (1 + (i : Int)) + mo)
    (same : (∀ i : Nat, i < (M + 1).toNat → (1 + (i : Int)) * ws.getD (i + 1) 0 + mo = 0) → W6.cnt = W7.cnt ∧ W6.b = W7.b) : Six W6 W7 (dueL gs ws mo c7 (M + 1).toNat) := by
  have P1 : neRows W6.cnt W7.cnt W6.b W7.b W6.nt W7.nt = (dueL gs ws mo c7 (M + 1).toNat).filter fun r => decide (r.2.1 ≠ r.2.2) := by
    unfold neRows
    rw [T1]
    exact rowsP_due _ fun i hi => ⟨cg i hi, cf i hi, rfl⟩
  have P2 : leRows W6.cnt W7.cnt W6.b W7.b W6.nt W7.nt = (dueL gs ws mo c7 (M + 1).toNat).filter fun r => decide (r.2.1 ≥ r.2.2) := by
    unfold leRows
    rw [T1]
    exact rowsP_due _ fun i hi => ⟨cg i hi, cf i hi, rfl⟩
  have P3 : leRows W7.cnt W6.cnt W7.b W6.b W7.nt W6.nt = ((dueL gs ws mo c7 (M + 1).toNat).map swapR).filter fun r => decide (r.2.1 ≥ r.2.2) := by
    unfold leRows
    rw [T2, rowsP_swap, sw_filter _ _ (fun r => decide (r.2.2 ≥ r.2.1)) fun r => rfl]
    congr 1
    exact rowsP_due _ fun i hi => ⟨cg i hi, cf i hi, rfl⟩
  have m0 : (0 : Nat) < (M + 1).toNat := by clear cg cf flat same P1 P2 P3 T1 T2 n6 n7 nts; omega
  refine ⟨P1, P2, P3, ?_, ?_, ?_⟩
  · rw [← P2]
    refine less_rows n6 n7 T1 hM (Int.le_of_eq nts) fun hs h1 i hi => ?_
    rw [Bool.and_eq_true, decide_eq_true_iff, decide_eq_true_iff] at hs
    have f := flat hs.1 hs.2
    have f0 : ilOf W6.cnt W6.b W6.nt 1 = ilOf W7.cnt W7.b W7.nt 1 + mo := f 0 m0
    have fi := f i hi
    rw [f0] at h1
    rw [fi]
    clear f fi f0 flat same cg cf P1 P2 P3 T1 T2 n6 n7 nts hs hi
    omega
  · rw [← P3]
    refine less_rows n7 n6 T2 hM (Int.le_of_eq nts.symm) fun hs h1 i hi => ?_
    rw [Bool.and_eq_true, decide_eq_true_iff, decide_eq_true_iff] at hs
    have f := flat hs.2 hs.1
    have f0 : ilOf W6.cnt W6.b W6.nt 1 = ilOf W7.cnt W7.b W7.nt 1 + mo := f 0 m0
    have fi := f i hi
    rw [f0] at h1
    rw [fi]
    clear f fi f0 flat same cg cf P1 P2 P3 T1 T2 n6 n7 nts hs hi
    omega
  · rw [← P1, Bool.eq_iff_iff, Bool.and_eq_true, decide_eq_true_iff, decide_eq_true_iff, beq_iff_eq]
    unfold neRows
    rw [rowsP_nil, T1]
    constructor
    · rintro ⟨e1, e2⟩ i _
      rw [e1, e2, nts]
      exact decide_eq_false fun q => q rfl
    · intro h
      refine same fun i hi => ?_
      have q := h i hi
      rw [decide_eq_false_iff_not, Decidable.not_not, cg i hi, cf i hi] at q
      clear h cg cf flat same P1 P2 P3 T1 T2 n6 n7 nts hi
      omega
theorem mo_facts {mo : Int} (m : -1 ≤ mo ∧ mo ≤ 1) : (if 0 < mo then (2 : Int) else 1) = (if mo < 0 then 2 else 1) + mo ∧ 1 ≤ (if 0 < mo then (2 : Int) else 1) ∧ 1 ≤ (if mo < 0 then (2 : Int) else 1) ∧ (if 0 < mo then (2 : Int) else 1) ≤ 1 + (if mo < 0 then -mo else mo) ∧ (if mo < 0 then (2 : Int) else 1) ≤ 1 + (if mo < 0 then -mo else mo) ∧
    (1 + (if mo < 0 then -mo else mo) = (if 0 < mo then (2 : Int) else 1) ∨ 1 + (if mo < 0 then -mo else mo) = (if mo < 0 then (2 : Int) else 1)) ∧ 1 + (if mo < 0 then -mo else mo) ≤ 2 := by
  have h : mo = -1 ∨ mo = 0 ∨ mo = 1 := by omega
  rcases h with rfl | rfl | rfl <;> decide
theorem all_zero {w1 w2 w3 w4 w5 w6 g1 g2 g3 g4 g5 g6 mo M : Int} (gok : GainsOk w1 w2 w3 w4 w5 w6 g1 g2 g3 g4 g5 g6) (m7 : -1 ≤ mo ∧ mo ≤ 1) (hM : 1 ≤ M)
    (hx : ∀ k : Nat, k < 6 → ([0, g1, g2, g3, g4, g5, g6] : List Int).getD (k + 1) 0 ≠ 0 → 1 + (k : Int) ≤ M)
    (d : ∀ i : Nat, i < (M + 1).toNat → (1 + (i : Int)) * ([0, w1, w2, w3, w4, w5, w6, 0] : List Int).getD (i + 1) 0 + mo = 0) : mo = 0 ∧ g1 = 0 ∧ g2 = 0 ∧ g3 = 0 ∧ g4 = 0 ∧ g5 = 0 ∧ g6 = 0 := by
  have z : ∀ i : Nat, (i : Int) ≤ M → i < (M + 1).toNat := fun i hi => by clear gok m7 hx d; omega
  have d0 : 1 * w1 + mo = 0 := d 0 (z 0 (by clear gok m7 hx d z; omega))
  have d1 : 2 * w2 + mo = 0 := d 1 (z 1 hM)
  have x2 : g3 ≠ 0 → 3 ≤ M := hx 2 (by decide)
  have x3 : g4 ≠ 0 → 4 ≤ M := hx 3 (by decide)
  have x4 : g5 ≠ 0 → 5 ≤ M := hx 4 (by decide)
  have x5 : g6 ≠ 0 → 6 ≤ M := hx 5 (by decide)
  have hmo : mo = 0 := by clear gok hx d z x2 x3 x4 x5 d0; omega
  subst hmo
  have d2 : 3 ≤ M → 3 * w3 + 0 = 0 := fun q => d 2 (z 2 (by clear gok hx d z x2 x3 x4 x5; omega))
  have d3 : 4 ≤ M → 4 * w4 + 0 = 0 := fun q => d 3 (z 3 (by clear gok hx d z x2 x3 x4 x5; omega))
  have d4 : 5 ≤ M → 5 * w5 + 0 = 0 := fun q => d 4 (z 4 (by clear gok hx d z x2 x3 x4 x5; omega))
  have d5 : 6 ≤ M → 6 * w6 + 0 = 0 := fun q => d 5 (z 5 (by clear gok hx d z x2 x3 x4 x5; omega))
  clear hx d z m7 hM
  obtain ⟨e1, e2, e3, e4, e5, e6⟩ := gok
  have y6 : g6 = 0 := by
    by_cases q : g6 = 0
    · exact q
    · have := d5 (x5 q); clear d2 d3 d4 d5 x2 x3 x4 x5 e1 e2 e3 e4 e5 d0 d1; omega
  have y5 : g5 = 0 := by
    by_cases q : g5 = 0
    · exact q
    · have := d4 (x4 q); clear d2 d3 d4 d5 x2 x3 x4 x5 e1 e2 e3 e4 e6 d0 d1; omega
  have y4 : g4 = 0 := by
    by_cases q : g4 = 0
    · exact q
    · have := d3 (x3 q); clear d2 d3 d4 d5 x2 x3 x4 x5 e1 e2 e3 e5 e6 d0 d1; omega
  subst y6 y5 y4
  have y3 : g3 = 0 := by
    by_cases q : g3 = 0
    · exact q
    · have := d2 (x2 q); clear d2 d3 d4 d5 x2 x3 x4 x5 e1 e2 e4 e5 e6 d0 d1; omega
  subst y3
  clear d2 d3 d4 d5 x2 x3 x4 x5 e3 e4 e5 e6
  refine ⟨rfl, ?_, ?_, rfl, rfl, rfl, rfl⟩ <;> omega
theorem six_of {w1 w2 w3 w4 w5 w6 g1 g2 g3 g4 g5 g6 : Int} (gok : GainsOk w1 w2 w3 w4 w5 w6 g1 g2 g3 g4 g5 g6) {mo c7 : Int} (m7 : -1 ≤ mo ∧ mo ≤ 1) (hc : 0 ≤ c7) (M : Int)
    (hM : M ∈ [1 + if mo < 0 then -mo else mo] ++ nzL [0, g1, g2, g3, g4, g5, g6] 6) (hMx : ∀ a ∈ [1 + if mo < 0 then -mo else mo] ++ nzL [0, g1, g2, g3, g4, g5, g6] 6, a ≤ M) :
    Six (wsR (c7.fmod 2).toNat (textE [0, g1, g2, g3, g4, g5, g6] true 6) (if 0 < mo then 2 else 1)) (wsR (c7.fmod 2).toNat (textE [0, g1, g2, g3, g4, g5, g6] false 6) (if mo < 0 then 2 else 1))
      (dueL [0, g1, g2, g3, g4, g5, g6] [0, w1, w2, w3, w4, w5, w6, 0] mo c7 (M + 1).toNat) := by
  obtain ⟨hb, b6, b7, l6, l7, eb, e2⟩ := mo_facts m7
  have h1 := hMx _ (.head _)
  have hx : ∀ k : Nat, k < 6 → ([0, g1, g2, g3, g4, g5, g6] : List Int).getD (k + 1) 0 ≠ 0 → 1 + (k : Int) ≤ M := fun k hk h => hMx _ (List.mem_append_right _ (nzL_in h hk))
  have hMM : M = (if 0 < mo then (2 : Int) else 1) ∨ M = (if mo < 0 then (2 : Int) else 1) ∨ ∃ k : Nat, k < 6 ∧ ([0, g1, g2, g3, g4, g5, g6] : List Int).getD (k + 1) 0 ≠ 0 ∧ M = 1 + (k : Int) := by
    rcases List.mem_append.mp hM with h | h
    · rw [List.mem_singleton] at h
      rw [h]
      exact eb.elim .inl fun e => .inr (.inl e)
    · exact .inr (.inr (nzL_of h))
  have hM6 : M ≤ 6 := by
    rcases List.mem_append.mp hM with h | h
    · rw [List.mem_singleton] at h
      rw [h]; exact Int.le_trans e2 (by decide)
    · obtain ⟨k, hk, _, e⟩ := nzL_of h
      rw [e]; clear hM hMx hx hMM h e gok hb b6 b7 l6 l7 eb e2 h1; omega
  have hM1 : 1 ≤ M := Int.le_trans b6 (Int.le_trans l6 h1)
  have m6 := Int.le_trans l6 h1
  have m7' := Int.le_trans l7 h1
  clear hM hMx eb e2 h1 l6 l7
  have hw : (c7.fmod 2).toNat ≤ 1 := by
    have := Int.fmod_lt_of_pos c7 (by decide : (0 : Int) < 2)
    clear hb b6 b7 hx hMM hM6 hM1 m6 m7' gok m7; omega
  obtain ⟨T1, T2⟩ := top_eq hw b6 b7 m6 m7' hx hMM
  clear b6 b7 m6 m7' hMM hw
  have ei : ∀ i : Nat, ((i + 1 : Nat) : Int) = 1 + (i : Int) := fun i => by rw [Int.natCast_add, Int.add_comm]; rfl
  have i7 : ∀ i : Nat, i < (M + 1).toNat → i + 1 ≤ 7 := fun i hi => by clear T1 T2 hx gok hb m7 ei; omega
  refine six_core hM1 T1 T2 (fun i hi => ?_) (fun i hi => ?_) (n_wsR _ _ _) (n_wsR _ _ _) ?_ (fun s6 s7 => ?_) fun d => ?_
  · have hL := low_eq [0, g1, g2, g3, g4, g5, g6] hc (if mo < 0 then 2 else 1) (t := i + 1) (Nat.le_add_left 1 i)
    rw [ei] at hL
    rw [hL, Int.add_comm]; rfl
  · have hH := high_eq gok hc (if 0 < mo then 2 else 1) (t := i + 1) (Nat.le_add_left 1 i) (i7 i hi)
    rw [ei] at hH
    rw [hH, Int.mul_add, hb]
    unfold lowL
    generalize (1 + (i : Int)) * tabsL [0, g1, g2, g3, g4, g5, g6] c7 (1 + (i : Int)) 6 = x
    generalize (1 + (i : Int)) * ([0, w1, w2, w3, w4, w5, w6, 0] : List Int).getD (i + 1) 0 = y
    generalize (if mo < 0 then (2 : Int) else 1) = z
    clear hH hb hx T1 T2 gok hM6 hM1 i7 ei hi m7
    omega
  · show ((textE _ true 6).length : Int) + 1 = ((textE _ false 6).length : Int) + 1
    rw [textE_len]
  · have z0 := short_zero s6 s7
    have q1 : g1 = 0 := z0 0 (by decide)
    have q2 : g2 = 0 := z0 1 (by decide)
    have q3 : g3 = 0 := z0 2 (by decide)
    have q4 : g4 = 0 := z0 3 (by decide)
    have q5 : g5 = 0 := z0 4 (by decide)
    have q6 : g6 = 0 := z0 5 (by decide)
    clear z0 s6 s7 T1 T2 hx
    subst q1 q2 q3 q4 q5 q6
    obtain ⟨rfl, rfl, rfl, rfl, rfl, rfl⟩ := gok
    intro i hi
    have hL := low_eq [0, 0, 0, 0, 0, 0, 0] hc (if mo < 0 then 2 else 1) (t := i + 1) (Nat.le_add_left 1 i)
    have hH := low_eq [0, 0, 0, 0, 0, 0, 0] hc (if 0 < mo then 2 else 1) (t := i + 1) (Nat.le_add_left 1 i)
    rw [ei] at hL hH
    show ilOf (wsR _ (textE [0, 0, 0, 0, 0, 0, 0] false 6) _).cnt (wsR _ (textE [0, 0, 0, 0, 0, 0, 0] false 6) _).b (wsR _ (textE [0, 0, 0, 0, 0, 0, 0] false 6) _).nt _ = _
    rw [hL, hH, hb]
    generalize (1 + (i : Int)) * tabsL [0, 0, 0, 0, 0, 0, 0] c7 (1 + (i : Int)) 6 = x
    generalize (if mo < 0 then (2 : Int) else 1) = z
    clear hL hH hb hM6 hM1 i7 ei hi m7
    omega
  · obtain ⟨rfl, rfl, rfl, rfl, rfl, rfl, rfl⟩ := all_zero gok m7 hM1 hx d
    exact ⟨rfl, rfl⟩
theorem six_ofL {wls gs : List Int} (gok : GOk wls gs) {mo c7 : Int} (m7 : -1 ≤ mo ∧ mo ≤ 1) (hc : 0 ≤ c7) (M : Int)
    (hM : M ∈ [1 + if mo < 0 then -mo else mo] ++ nzL gs 6) (hMx : ∀ a ∈ [1 + if mo < 0 then -mo else mo] ++ nzL gs 6, a ≤ M) :
    Six (wsR (c7.fmod 2).toNat (textE gs true 6) (if 0 < mo then 2 else 1)) (wsR (c7.fmod 2).toNat (textE gs false 6) (if mo < 0 then 2 else 1)) (dueL gs wls mo c7 (M + 1).toNat) := by
  obtain ⟨w, g, rfl, rfl, h⟩ := gok
  exact six_of h m7 hc M hM hMx
theorem bd_sub {a b p q r : Int} (h : -p ≤ a + b ∧ a + b ≤ p) (hb : -q ≤ b ∧ b ≤ q) (hr : p + q = r) : -r ≤ a ∧ a ≤ r := by omega
theorem bd_up {a r : Int} (h : -r ≤ a ∧ a ≤ r) (hr : r ≤ 100) : -100 ≤ a ∧ a ≤ 100 := by omega
theorem bd_eq {a b : Int} (h : -2 ≤ a ∧ a ≤ 2) (e : a = b) : -2 ≤ b ∧ b ≤ 2 := e ▸ h
theorem GOk.bd {wls gs : List Int} (gok : GOk wls gs) (bw : ∀ x ∈ wls, -2 ≤ x ∧ x ≤ 2) : ∀ g ∈ gs, -100 ≤ g ∧ g ≤ 100 := by
  obtain ⟨w, g, rfl, rfl, e1, e2, e3, e4, e5, e6⟩ := gok
  have b6 := bd_eq (bw (w 6) (.tail _ (.tail _ (.tail _ (.tail _ (.tail _ (.tail _ (.head _)))))))) e6
  have b5 := bd_eq (bw (w 5) (.tail _ (.tail _ (.tail _ (.tail _ (.tail _ (.head _))))))) e5
  have b4 := bd_eq (bw (w 4) (.tail _ (.tail _ (.tail _ (.tail _ (.head _)))))) e4
  have b3 := bd_sub (bd_eq (bw (w 3) (.tail _ (.tail _ (.tail _ (.head _))))) e3) b6 (rfl : (2 : Int) + 2 = 4)
  have b2 := bd_sub (bd_sub (bd_eq (bw (w 2) (.tail _ (.tail _ (.head _)))) e2) b6 (rfl : (2 : Int) + 2 = 4)) b4 (rfl : (4 : Int) + 2 = 6)
  have b1 := bd_sub (bd_sub (bd_sub (bd_sub (bd_sub (bd_eq (bw (w 1) (.tail _ (.head _))) e1) b6 (rfl : (2 : Int) + 2 = 4)) b5 (rfl : (4 : Int) + 2 = 6)) b4 (rfl : (6 : Int) + 2 = 8)) b3 (rfl : (8 : Int) + 4 = 12)) b2 (rfl : (12 : Int) + 6 = 18)
  simp only [List.mem_cons, List.not_mem_nil, or_false, forall_eq_or_imp, forall_eq]
  exact ⟨by decide, bd_up b1 (by decide), bd_up b2 (by decide), bd_up b3 (by decide), bd_up b4 (by decide), bd_up b5 (by decide), bd_up b6 (by decide)⟩
theorem GOk.lens {wls gs : List Int} (gok : GOk wls gs) : (gs.length : Int) = 7 ∧ (wls.length : Int) = 8 := by
  obtain ⟨w, g, rfl, rfl, h⟩ := gok
  exact ⟨rfl, rfl⟩
end Mine
end
section -- LA
open PySem PySem.W PyProof.Rows PySem.Spec PySem.Calls
set_option maxRecDepth 100000
set_option maxHeartbeats 8000000
namespace Mine
theorem join_str {M : Model} {A : Around} {a : Sem Value} {E : Value → Shared → Prop} {s : Shared} {Q : Value → Shared → Prop} (P : Str → Prop) (h1 : wpAny M A a (fun v s' => ∃ z t tk, v = .str z t ∧ s' = { s with toks := tk } ∧ P z) E s)
    (h2 : ∀ z t tk, P z → Q (.str z t) { s with toks := tk }) : wpAny M A a Q E s :=
  wpAny_mono h1 (fun v s' h => by obtain ⟨z, t, tk, rfl, rfl, p⟩ := h; exact h2 z t tk p) fun _ _ e => e
noncomputable def tailS (b : Prop) [Decidable b] : Str := if b then Str.ofString "ͺ" else Str.ofString "ι"
theorem tail_sz (b : Prop) [Decidable b] : (tailS b).cps.size ≤ 10 := by unfold tailS; split <;> decide
theorem tail_l1 : (Str.ofString "ͺ").cps.toList = [890] := by decide
theorem tail_l2 : (Str.ofString "ι").cps.toList = [953] := by decide
theorem tail_ok (b : Prop) [Decidable b] : ∀ c ∈ (tailS b).cps.toList, okC c := by
  intro c hc
  unfold tailS at hc
  split at hc
  · rw [tail_l1, List.mem_singleton] at hc; rw [hc]; exact .inr (by rw [m890]; decide)
  · rw [tail_l2, List.mem_singleton] at hc; rw [hc]; exact .inr (by rw [m953]; decide)
theorem lead_tail (gs : List Int) (seen : Bool) {which : Int} (hw : 0 ≤ which) (b : Prop) [Decidable b] : leadW gs seen which (tailS b).cps.toList = wsR (which.fmod 2).toNat (textE gs seen 6) (if b then 2 else 1) := by
  unfold tailS
  split
  · rw [tail_l1, (leadW_eq gs seen hw).2]
  · rw [tail_l2, (leadW_eq gs seen hw).1]
theorem newTo_ne {h₀ H : Heap} {L a : Addr} {news : List (Addr × Obj)} (N : News h₀ L H news) (h : H.get? a = none) : ∀ p ∈ news, @Ne Nat p.1 a := by
  intro p hp e
  have e' : p.1 = a := e
  have := (N p hp).1
  rw [e', h] at this
  cases this
theorem kw0_LA : True := by
  k_with_none
  k_with "storeName" => (k_here; k_dflt (first | (refine storeX_Ui (by k_asm) (by k_asm) ?_ (by rfl) (by rfl); k_whole; intro _ _ _ _ _) | (refine storeX_Us (by k_asm) (by k_asm) ?_ (by rfl) (by rfl); k_whole; intro _ _ _ _ _) | (refine storeX_U (by k_asm) (by k_asm) ?_ (by rfl) (by rfl); k_whole; intro _ _ _ _)); (try k_sweep))
  k_with "eval Constant int" => (refine int_l ?_)
  k_with "binaryOp Add int int" => (refine add_l ?_)
  k_with "binaryOp Sub int int" => (refine sub_l ?_)
  k_with "call ref" => (k_here; (with_reducible show wpAny _ _ (call (Value.ref 185) _) _ _ _); refine Held.out ?_)
  k_with "call ref" => (k_here; (with_reducible show wpAny _ _ (call (Value.ref 190) _) _ _ _); refine Held.out ?_)
  k_with "call ref" => (k_here; (with_reducible show wpAny _ _ (call (Value.ref 195) _) _ _ _); refine Held.out ?_)
  k_with "eval IfExp" => (k_here; refine Held.out ?_)
  k_with "subscriptTail Name Constant ref int" => (k_here; (with_reducible show wpAny _ _ (subscriptTail _ _ (Value.ref _) (Value.int _ _)) _ _ _); k_dflt (refine item_cx (by k_asm) (by k_mem) (by assumption) (by assumption) (by assumption) (by decide) (by decide) ?_; intro _))
  k_with "eval Name" => ((with_reducible show wpAny _ _ (eval (Expr.Name (Str.ofString "gains") _) (envOfC _ _ _ _ _)) _ _ _); k_here; refine nameX_C (by assumption) (by exact rfl) (by k_mem) (by assumption) ?_; k_whole)
  k_with "execs cons" => ((with_reducible show wpAny _ _ (execs (List.drop 6 lawB) _) _ _ _); k_here; refine Held.out ?_)
  k_with "execs" => ((with_reducible show wpAny _ _ (execs (List.drop 6 lawB) _) _ _ _); k_here; refine Held.out ?_)
  trivial
theorem law_a (w : World) (wl gl l1 : Addr) (gs wls cs : List Int) (gv wv cv : List Value) (hgi : IntsAre gv gs) (hwi : IntsAre wv wls) (hci : IntsAre cv cs) (hcl8 : (cs.length : Int) = 8) (c7 mo : Int) (hc7 : cs.getD 7 0 = c7) (tm : Tok) (kw kg kc : Nat) (oc : Obj)
    (hoc : oc.data = .cell (some (.ref gl))) (gok : Held (GOk wls gs)) (bw : Held (∀ x ∈ wls, -2 ≤ x ∧ x ≤ 2)) (m7 : Held (-1 ≤ mo ∧ mo ≤ 1)) (b7 : Held (0 ≤ c7 ∧ c7 ≤ 100000000)) :
    ∀ (mean : ExcName → Option Value) (mg mb : Str → Option Value) (L fa : Addr) (cdv : Value) (h₀ : Heap) (m : Str → Option Value) (s : Shared) (Q : Flow → Shared → Prop),
      Below callerA h₀ [] h₀ → Fr h₀ L s.heap (ovr [(Str.ofString "more", .int mo tm), (Str.ofString "wanted", .ref wl), (Str.ofString "cells", .ref l1)] m) → (kH w.params).In h₀ → Top viewT looseX mean mg mb h₀ →
      News h₀ L s.heap [(gl, W.listOf gv.toArray kg), (wl, W.listOf wv.toArray kw), (l1, W.listOf cv.toArray kc), (L + 1, oc)] →
      (∀ h' tk' m', Fr h₀ L h' m' → Q (.ret (.bool true)) { s with heap := h', toks := tk' }) →
      wpAny (model PySem.Challenge.rw_rl0124_01.row.prog w) (callerA.deeper (envOfC (Str.ofString "law") lawSc L fa cdv)) (execs (lawB.drop 4) (envOfC (Str.ofString "law") lawSc L fa cdv)) Q (fun _ _ => False) s := by
  have bg : Held (∀ g ∈ gs, -100 ≤ g ∧ g ≤ 100) := ⟨gok.out.bd bw.out⟩
  have hl7 := gok.out.lens.1
  have hg7 : gs.length = 7 := Int.ofNat.inj hl7
  w_top off
  rw [lawSc_eq, show lawB.drop 4 = _ :: _ :: lawB.drop 6 from rfl]
  intro mean mg mb L fa cdv h₀ m s Q B F
  k_fill
  intro X T N hQ
  dsimp only [ovr] at F
  w_strict k_steps
  refine ⟨join_str (fun z => z = tailS (0 < mo)) ?_ ?_⟩
  · refine IfExp_ ?_
    w_strict k_steps
    · unfold tailS; rw [if_pos (by assumption)]
    · unfold tailS; rw [if_neg (by assumption)]
  rintro _ tt6 tk6 rfl
  w_strict k_steps
  refine ⟨?_⟩
  rename News _ _ _ _ => N6a
  rename Fr _ _ _ _ => F6a
  refine' useX (lead_c w gl gv gs kg true c7 _ _ _ hgi hg7 bg.out b7.out.1 (by have := b7.out; omega) (tail_sz (0 < mo)) (tail_ok (0 < mo))) ?B6 ?F6 ?X6 ?T6 ?K6 ?D6 ?U6 ?N6 ?S6 trivial ?_
  case B6 => k_asm
  case F6 => exact F6a
  case X6 => k_asm
  case T6 => k_asm
  case K6 => exact rfl
  case D6 => ktr_room
  case U6 => ktr_units
  case N6 => exact N6a
  case S6 => exact ⟨by k_mem, trivial⟩
  intro h6 tk6b v6 F6b N6b p6
  obtain ⟨self6, d6, wq6, norm6, cnt6, tb6, vs6, rfl, nt6, iv6⟩ := p6
  have N6c := news_app (newTo_news F6a nt6) N6b
  simp only [List.cons_append, List.nil_append] at N6c
  clear N6b nt6
  generalize leadS gs true c7 (tailS (0 < mo)).cps.toList = R6 at N6c
  rw [lead_tail _ _ b7.out.1] at N6c iv6
  generalize hW6 : wsR (c7.fmod 2).toNat (textE gs true 6) (if 0 < mo then 2 else 1) = W6 at N6c iv6
  w_strict k_steps
  refine ⟨join_str (fun z => z = tailS (mo < 0)) ?_ ?_⟩
  · refine IfExp_ ?_
    w_strict k_steps
    · unfold tailS; rw [if_pos (by assumption)]
    · unfold tailS; rw [if_neg (by assumption)]
  rintro _ tt7 tk7 rfl
  w_strict k_steps
  refine ⟨?_⟩
  rename News _ _ _ _ => N7a
  rename Fr _ _ _ _ => F7a
  refine' useX (lead_c w gl gv gs kg false c7 _ _ _ hgi hg7 bg.out b7.out.1 (by have := b7.out; omega) (tail_sz (mo < 0)) (tail_ok (mo < 0))) ?B7 ?F7 ?X7 ?T7 ?K7 ?D7 ?U7 ?N7 ?S7 trivial ?_
  case B7 => k_asm
  case F7 => exact F7a
  case X7 => k_asm
  case T7 => k_asm
  case K7 => exact rfl
  case D7 => ktr_room
  case U7 => ktr_units
  case N7 => exact N7a
  case S7 => exact ⟨by k_mem, trivial⟩
  intro h7 tk7b v7 F7b N7b p7
  obtain ⟨self7, d7, wq7, norm7, cnt7, tb7, vs7, rfl, nt7, iv7⟩ := p7
  have N7c := news_app (newTo_news F7a nt7) N7b
  have qc7 : Held (@Ne Nat cnt6 cnt7) := ⟨newTo_ne N7a nt7.2.2.2.1.1 (cnt6, tupO vs6) (by k_mem)⟩
  simp only [List.cons_append, List.nil_append] at N7c
  clear N7b nt7
  generalize leadS gs false c7 (tailS (mo < 0)).cps.toList = R7 at N7c
  rw [lead_tail _ _ b7.out.1] at N7c iv7
  generalize hW7 : wsR (c7.fmod 2).toNat (textE gs false 6) (if mo < 0 then 2 else 1) = W7 at N7c iv7
  w_strict k_steps
  rename_i hz F9 N9
  have hw : (c7.fmod 2).toNat ≤ 1 := by
    have := Int.fmod_lt_of_pos c7 (by decide : (0 : Int) < 2)
    omega
  have k6 := cnt_le (c7.fmod 2).toNat hw gs true (if 0 < mo then 2 else 1)
  have k7 := cnt_le (c7.fmod 2).toNat hw gs false (if mo < 0 then 2 else 1)
  have j6 : W6.b = if 0 < mo then 2 else 1 := by rw [← hW6]; rfl
  have j7 : W7.b = if mo < 0 then 2 else 1 := by rw [← hW7]; rfl
  rw [hW6] at k6
  rw [hW7] at k7
  have q6 : 0 ≤ W6.b ∧ W6.b ≤ 100000 := by rw [j6]; split <;> omega
  have q7 : 0 ≤ W7.b ∧ W7.b ≤ 100000 := by rw [j7]; split <;> omega
  have z6 : W6.cnt.length ≤ 100000 := by omega
  have z7 : W7.cnt.length ≤ 100000 := by omega
  have hpl := six_ofL gok.out m7.out b7.out.1
  rw [hW6, hW7] at hpl
  refine ⟨?_⟩
  exact (law_tail w wl gl l1 self6 d6 norm6 cnt6 self7 d7 norm7 cnt7 wq6 wq7 R6 R7 W6 W7 tb6 tb7 vs6 vs7 iv6 iv7 gs wls cs gv wv cv hgi hwi hci hl7 gok.out.lens.2 hcl8 c7 mo hc7 tm kw kg kc oc
    z6 z7 q6.1 q6.2 q7.1 q7.2 qc7 hoc bg.out bw.out m7.out b7.out hpl) mean mg mb L fa cdv h₀ m _ _ B F9 X T _ (.tail _ (.tail _ (.tail _ (.tail _ (.head _))))) (.tail _ (.tail _ (.tail _ (.tail _ (.tail _ (.head _)))))) (.tail _ (.tail _ (.tail _ (.tail _ (.tail _ (.tail _ (.head _))))))) (.tail _ (.tail _ (.tail _ (.tail _ (.tail _ (.tail _ (.tail _ (.head _)))))))) (.head _) (.tail _ (.head _)) (.tail _ (.tail _ (.head _))) (.tail _ (.tail _ (.tail _ (.head _)))) (.tail _ (.tail _ (.tail _ (.tail _ (.tail _ (.tail _ (.tail _ (.tail _ (.head _))))))))) (.tail _ (.tail _ (.tail _ (.tail _ (.tail _ (.tail _ (.tail _ (.tail _ (.tail _ (.head _)))))))))) (.tail _ (.tail _ (.tail _ (.tail _ (.tail _ (.tail _ (.tail _ (.tail _ (.tail _ (.tail _ (.head _))))))))))) (.tail _ (.tail _ (.tail _ (.tail _ (.tail _ (.tail _ (.tail _ (.tail _ (.tail _ (.tail _ (.tail _ (.head _)))))))))))) N9 hQ
end Mine
end
section -- LW
open PySem PySem.W PyProof.Rows PySem.Spec PySem.Calls
set_option maxRecDepth 100000
set_option maxHeartbeats 8000000
namespace Mine
theorem ints_cons {a : Int} {as : List Int} {ws : List Value} (h : IntsAre ws (a :: as)) : ∃ t ws', ws = .int a t :: ws' ∧ IntsAre ws' as := by
  cases h with
  | cons _ t h => exact ⟨_, _, rfl, h⟩
theorem ints8' {ws : List Value} {a0 a1 a2 a3 a4 a5 a6 a7 : Int} (h : IntsAre ws [a0, a1, a2, a3, a4, a5, a6, a7]) : ∃ t0 t1 t2 t3 t4 t5 t6 t7, ws = [.int a0 t0, .int a1 t1, .int a2 t2, .int a3 t3, .int a4 t4, .int a5 t5, .int a6 t6, .int a7 t7] := by
  have ⟨t0, r0, e0, h0⟩ := ints_cons h
  have ⟨t1, r1, e1, h1⟩ := ints_cons h0
  have ⟨t2, r2, e2, h2⟩ := ints_cons h1
  have ⟨t3, r3, e3, h3⟩ := ints_cons h2
  have ⟨t4, r4, e4, h4⟩ := ints_cons h3
  have ⟨t5, r5, e5, h5⟩ := ints_cons h4
  have ⟨t6, r6, e6, h6⟩ := ints_cons h5
  have ⟨t7, r7, e7, h7⟩ := ints_cons h6
  have e8 : r7 = [] := by cases h7; rfl
  exact ⟨t0, t1, t2, t3, t4, t5, t6, t7, by rw [e0, e1, e2, e3, e4, e5, e6, e7, e8]⟩
theorem list_step {cs : List Int} {n : Nat} (h : cs.length = n + 1) : ∃ c r, cs = c :: r ∧ r.length = n := by
  cases cs with
  | nil => cases h
  | cons c r => exact ⟨c, r, rfl, Nat.succ.inj h⟩
theorem list8 {cs : List Int} (h : cs.length = 8) : ∃ c0 c1 c2 c3 c4 c5 c6 c7, cs = [c0, c1, c2, c3, c4, c5, c6, c7] := by
  obtain ⟨c0, r0, e0, h0⟩ := list_step h
  obtain ⟨c1, r1, e1, h1⟩ := list_step h0
  obtain ⟨c2, r2, e2, h2⟩ := list_step h1
  obtain ⟨c3, r3, e3, h3⟩ := list_step h2
  obtain ⟨c4, r4, e4, h4⟩ := list_step h3
  obtain ⟨c5, r5, e5, h5⟩ := list_step h4
  obtain ⟨c6, r6, e6, h6⟩ := list_step h5
  obtain ⟨c7, r7, e7, h7⟩ := list_step h6
  exact ⟨c0, c1, c2, c3, c4, c5, c6, c7, by rw [e0, e1, e2, e3, e4, e5, e6, e7, List.eq_nil_of_length_eq_zero h7]⟩
theorem ints8 {ws : List Value} {cs : List Int} (h : IntsAre ws cs) (h8 : cs.length = 8) : ∃ c0 c1 c2 c3 c4 c5 c6 c7 t0 t1 t2 t3 t4 t5 t6 t7, ws = [.int c0 t0, .int c1 t1, .int c2 t2, .int c3 t3, .int c4 t4, .int c5 t5, .int c6 t6, .int c7 t7] ∧ cs = [c0, c1, c2, c3, c4, c5, c6, c7] := by
  obtain ⟨c0, c1, c2, c3, c4, c5, c6, c7, rfl⟩ := list8 h8
  obtain ⟨t0, t1, t2, t3, t4, t5, t6, t7, e⟩ := ints8' h
  exact ⟨c0, c1, c2, c3, c4, c5, c6, c7, t0, t1, t2, t3, t4, t5, t6, t7, e, rfl⟩
theorem cells8 {ws : List Value} {cs : List Int} {m : Nat} (h : IntsAre ws cs) (hm : m ≤ 63) (ok : cellsOk m cs) : ∃ c0 c1 c2 c3 c4 c5 c6 c7 t0 t1 t2 t3 t4 t5 t6 t7, ws = [.int c0 t0, .int c1 t1, .int c2 t2, .int c3 t3, .int c4 t4, .int c5 t5, .int c6 t6, .int c7 t7] ∧
    Held (∀ c ∈ [c0, c1, c2, c3, c4, c5, c6, c7], 0 ≤ c ∧ c ≤ 100000000) := by
  obtain ⟨h8, hb⟩ := ok
  obtain ⟨c0, c1, c2, c3, c4, c5, c6, c7, t0, t1, t2, t3, t4, t5, t6, t7, rfl, rfl⟩ := ints8 h h8
  exact ⟨c0, c1, c2, c3, c4, c5, c6, c7, t0, t1, t2, t3, t4, t5, t6, t7, rfl, ⟨fun c hc => by
    have := hb c hc
    clear hb h hc h8
    omega⟩⟩
theorem mod5 {c : Int} (h : 0 ≤ c ∧ c ≤ 100000000) : -2 ≤ c.fmod 5 - 2 ∧ c.fmod 5 - 2 ≤ 2 := by
  have h1 := Int.fmod_lt_of_pos c (by decide : (0 : Int) < 5)
  have h2 := Int.fmod_nonneg h.1 (by decide : (0 : Int) ≤ 5)
  clear h
  omega
theorem mod3 {c : Int} (h : 0 ≤ c ∧ c ≤ 100000000) : -1 ≤ c.fmod 3 - 1 ∧ c.fmod 3 - 1 ≤ 1 := by
  have h1 := Int.fmod_lt_of_pos c (by decide : (0 : Int) < 3)
  have h2 := Int.fmod_nonneg h.1 (by decide : (0 : Int) ≤ 3)
  clear h
  omega
theorem bw_of {c0 c1 c2 c3 c4 c5 c6 c7 : Int} (h : ∀ c ∈ [c0, c1, c2, c3, c4, c5, c6, c7], 0 ≤ c ∧ c ≤ 100000000) : ∀ x ∈ [0, c0.fmod 5 - 2, c1.fmod 5 - 2, c2.fmod 5 - 2, c3.fmod 5 - 2, c4.fmod 5 - 2, c5.fmod 5 - 2, 0], -2 ≤ x ∧ x ≤ 2 := by
  simp only [List.mem_cons, List.not_mem_nil, or_false, forall_eq_or_imp, forall_eq] at h ⊢
  exact ⟨by decide, mod5 h.1, mod5 h.2.1, mod5 h.2.2.1, mod5 h.2.2.2.1, mod5 h.2.2.2.2.1, mod5 h.2.2.2.2.2.1, by decide⟩
theorem news3 {h₀ h : Heap} {L : Addr} {news : List (Addr × Obj)} {a b c : Addr × Obj} (N : News h₀ L h news) (ha : a ∈ news) (hb : b ∈ news) (hc : c ∈ news) : News h₀ L h [a, b, c] := fun p hp => by
  rcases List.mem_cons.mp hp with rfl | hp
  · exact N _ ha
  rcases List.mem_cons.mp hp with rfl | hp
  · exact N _ hb
  · rw [List.mem_singleton.mp hp]; exact N _ hc
theorem cells_abs {h₀ h : Heap} {L l1 : Addr} {a b : Addr × Obj} {k : Nat} {c0 c1 c2 c3 c4 c5 c6 c7 : Int} {t0 t1 t2 t3 t4 t5 t6 t7 : Tok} (N : News h₀ L h [a, (l1, W.listOf #[.int c0 t0, .int c1 t1, .int c2 t2, .int c3 t3, .int c4 t4, .int c5 t5, .int c6 t6, .int c7 t7] k), b]) :
    ∃ cv cs, IntsAre cv cs ∧ (cs.length : Int) = 8 ∧ cs.getD 6 0 = c6 ∧ cs.getD 7 0 = c7 ∧ News h₀ L h [a, (l1, W.listOf cv.toArray k), b] :=
  ⟨[.int c0 t0, .int c1 t1, .int c2 t2, .int c3 t3, .int c4 t4, .int c5 t5, .int c6 t6, .int c7 t7], [c0, c1, c2, c3, c4, c5, c6, c7], .cons _ _ (.cons _ _ (.cons _ _ (.cons _ _ (.cons _ _ (.cons _ _ (.cons _ _ (.cons _ _ .nil))))))), rfl, rfl, rfl, N⟩
theorem seven_of {a b c d e f : Int} : ∃ w : Nat → Int, ([0, a, b, c, d, e, f, 0] : List Int) = [0, w 1, w 2, w 3, w 4, w 5, w 6, 0] := ⟨fun n => ([0, a, b, c, d, e, f, 0] : List Int).getD n 0, rfl⟩
theorem kw0_LW : True := by
  k_with_none
  k_with "storeName" => (k_here; k_dflt (first | (refine storeX_Ui (by k_asm) (by k_asm) ?_ (by rfl) (by rfl); k_whole; intro _ _ _ _ _) | (refine storeX_Us (by k_asm) (by k_asm) ?_ (by rfl) (by rfl); k_whole; intro _ _ _ _ _) | (refine storeX_U (by k_asm) (by k_asm) ?_ (by rfl) (by rfl); k_whole; intro _ _ _ _)); (try k_sweep))
  k_with "eval Constant int" => (refine int_l ?_)
  k_with "binaryOp Add int int" => (refine add_l ?_)
  k_with "binaryOp Sub int int" => (refine sub_l ?_)
  k_with "pyIter ref" => ((with_reducible show wpAny _ _ (pyIter (Value.ref _)) (fun it s₂ => LoopAtV _ _ _ _ _ _ _ _ _ it s₂) _ _); k_here; refine Held.out ?_)
  k_with "call ref" => (k_here; (with_reducible show wpAny _ _ (call (Value.ref 185) _) _ _ _); refine Held.out ?_)
  k_with "call ref" => (k_here; (with_reducible show wpAny _ _ (call (Value.ref 190) _) _ _ _); refine Held.out ?_)
  k_with "call ref" => (k_here; (with_reducible show wpAny _ _ (call (Value.ref 195) _) _ _ _); refine Held.out ?_)
  k_with "eval ListComp" => ((with_reducible show wpAny _ _ (eval (Expr.ListComp _ [⟨_, _, [], _⟩] _ _) _) _ _ _); k_here; k_dflt (refine LCg.ListComp_U (F₀ := by k_asm) (by rfl) (by decide) (by rfl) (by decide) (by rfl) ?_))
  k_with "eval ListComp" => ((with_reducible show wpAny _ _ (eval (Expr.ListComp _ [⟨_, _, [_], _⟩] _ _) _) _ _ _); k_here; k_dflt (refine LCt.ListComp_T (F₀ := by k_asm) (by rfl) (by decide) (by rfl) (by decide) (by rfl) ?_))
  k_with "CompSrcT" => (k_here; refine Held.out ?_)
  k_with "subscriptTail Name Constant ref int" => (k_here; (with_reducible show wpAny _ _ (subscriptTail _ _ (Value.ref _) (Value.int _ _)) _ _ _); k_dflt (refine item_cx (by k_asm) (by k_mem) (by assumption) (by assumption) (by assumption) (by decide) (by decide) ?_; intro _))
  k_with "execs cons" => ((with_reducible show wpAny _ _ (execs (Stmt.Assign [Expr.Name (Str.ofString "first") _] _ _ :: _) _) _ _ _); k_here; refine Held.out ?_)
  trivial
theorem lawW : PySem.Challenge.rw_rl0124_01.Holds := by
  w_top off
  refine hd (by rfl) (by rfl) (by rfl) ?_
  w_strict (k_go0; (all_goals try k_fold); k_steps)
  refine ⟨?_⟩
  rename IntsAre _ _ => hI0
  refine' useX (cells_c _ _ _ _ ?i1 ?i2) ?B ?F ?X ?T ?K ?D ?U ?N trivial ?P ?_
  case i1 => exact hI0
  case i2 => omega
  case B => k_asm
  case F => k_asm
  case X => k_asm
  case T => k_asm
  case K => exact rfl
  case D => ktr_room
  case U => ktr_units
  case N => k_asm
  case P => assumption
  intro h1 tk1 v1 F1 N1 p1
  obtain ⟨l1, ws1, cs1, k1, rfl, nt1, i1, ok1⟩ := p1
  obtain ⟨c0, c1, c2, c3, c4, c5, c6, c7, t0, t1, t2, t3, t4, t5, t6, t7, rfl, hb⟩ := cells8 i1 (by omega) ok1
  clear ok1 i1
  have N2 := news_app (newTo_news (by assumption) nt1) N1
  have q1 := newTo_ne (by assumption) nt1.1.1
  simp only [List.mem_cons, List.not_mem_nil, or_false, forall_eq_or_imp, forall_eq] at q1
  simp only [List.cons_append, List.nil_append] at N2
  clear N1 nt1
  w_strict k_steps
  refine ⟨?_⟩
  rename_i wl wsw hA hW lw hB tkB tI hC tkC tC F3 N3
  have m7 : Held (-1 ≤ c6.fmod 3 - 1 ∧ c6.fmod 3 - 1 ≤ 1) := ⟨mod3 (hb.out c6 (.tail _ (.tail _ (.tail _ (.tail _ (.tail _ (.tail _ (.head _))))))))⟩
  have b7 : Held (0 ≤ c7 ∧ c7 ≤ 100000000) := ⟨hb.out c7 (.tail _ (.tail _ (.tail _ (.tail _ (.tail _ (.tail _ (.tail _ (.head _))))))))⟩
  obtain ⟨cv, cs, hcv, hcl, hc6, hc7, N3⟩ := cells_abs (news3 N3 (.head _) (.tail _ (.tail _ (.tail _ (.tail _ (.tail _ (.tail _ (.head _))))))) (.tail _ (.tail _ (.tail _ (.tail _ (.tail _ (.tail _ (.tail _ (.head _)))))))))
  obtain ⟨W8, hsh, hW, bw⟩ : ∃ W8 : List Int, (∃ w : Nat → Int, W8 = [0, w 1, w 2, w 3, w 4, w 5, w 6, 0]) ∧ IntsAre wsw W8 ∧ Held (∀ x ∈ W8, -2 ≤ x ∧ x ≤ 2) := ⟨_, seven_of, hW, ⟨bw_of hb.out⟩⟩
  clear hb
  refine' useX (gains_c _ _ _ _ _ hsh hW) ?B ?F ?X ?T ?K ?D ?U ?N ?S trivial ?_
  case B => k_asm
  case F => exact F3
  case X => k_asm
  case T => k_asm
  case K => exact rfl
  case D => ktr_room
  case U => ktr_units
  case N => exact N3
  case S => exact ⟨by k_mem, trivial⟩
  intro h4 tk4 v4 F4 N4 p4
  obtain ⟨gl, gv, gs, rfl, nt4, hgv, gok⟩ := p4
  have N5 := news_app (newTo_news F3 nt4) N4
  have q4 := newTo_ne N3 nt4.1.1
  simp only [List.mem_cons, List.not_mem_nil, or_false, forall_eq_or_imp, forall_eq] at q4
  simp only [List.cons_append, List.nil_append] at N5
  clear N4 nt4
  w_strict k_steps
  rename_i h9 o9 F9 N9 d9
  have F10 := fr_agree (vs := [(Str.ofString "more", .int (c6.fmod 3 - 1) _), (Str.ofString "wanted", .ref wl), (Str.ofString "cells", .ref l1)]) F9 ⟨by with_unfolding_all exact rfl, by with_unfolding_all exact rfl, by with_unfolding_all exact rfl, trivial⟩
  refine' ⟨wpAny_mono ((law_a _ wl gl l1 gs W8 cs gv wsw cv hgv hW hcv hcl c7 (c6.fmod 3 - 1) hc7 _ 0 0 k1 o9 d9 ⟨gok⟩ bw m7 b7) _ _ _ _ _ _ _ _ _ _ ?B10 F10 ?X10 ?T10 ?N10 ?Q10) (fun _ _ q => q) fun _ _ e => e.elim⟩
  case B10 => k_asm
  case X10 => k_asm
  case T10 => k_asm
  case N10 =>
    refine news_sub N9 fun p hp => ?_
    simp only [List.mem_cons, List.not_mem_nil, or_false] at hp ⊢
    rcases hp with h | h | h | h <;> simp only [h, true_or, or_true]
  case Q10 =>
    intro h11 tk11 m11 F11
    w_strict k_steps
end Mine
end
theorem PySem.Challenge.cw_rl0124_01_holds : PySem.Challenge.rw_rl0124_01.Holds :=
  Mine.lawW
