import PyProof.Rows.All
import Wide.All
import OpenK.AllK
import Wide.FinOn
import PySem.Challenge.RW_sn0064_01
set_option Elab.async false
set_option compiler.extract_closed false
set_option genSizeOf false
set_option genInjectivity false
noncomputable section
open PySem PySem.W PySem.Calls PyProof.Rows
set_option linter.unusedVariables false
set_option maxRecDepth 100000
namespace Mine

/-- a run of one tree by the machine, in n steps, whatever stands behind it; one frame below -/
noncomputable def EvN (p : Program) (w : World) (n₀ : Nat) (ann : Option Value) (C : Code) (F : Frame) {α : Type} (n : Nat) (t : Sem α) (s : Shared) (q : Pos) (a : α) (s' : Shared) (q' : Pos) : Prop :=
  ∀ (K : α → Sem Fin) (H : Value → Sem Fin) (gd : Bool → Bool) (lv : List Value → List Value),
    segGo treeTable p w n₀ ann 1 n s ⟨t.wrap K H gd lv, C, q, [F]⟩ = some (s', ⟨K a, C, q', [F]⟩)

noncomputable def Ev (p : Program) (w : World) (n₀ : Nat) (ann : Option Value) (C : Code) (F : Frame) {α : Type} (b : Nat) (t : Sem α) (s : Shared) (q : Pos) (a : α) (s' : Shared) (q' : Pos) : Prop :=
  ∃ n, n ≤ b ∧ EvN p w n₀ ann C F n t s q a s' q'

theorem segGo_add {tb : String → Option Builtin} {p : Program} {w : World} {n₀ : Nat} {ann : Option Value} {b : Nat} : ∀ (n m : Nat) {s s₁ : Shared} {t t₁ : Thread},
    segGo tb p w n₀ ann b n s t = some (s₁, t₁) → segGo tb p w n₀ ann b (n + m) s t = segGo tb p w n₀ ann b m s₁ t₁
  | 0, m, s, s₁, t, t₁, h => by
    obtain ⟨rfl, rfl⟩ : s = s₁ ∧ t = t₁ := by simpa [segGo] using h
    rw [Nat.zero_add]
  | n + 1, m, s, s₁, t, t₁, h => by
    rw [show n + 1 + m = n + m + 1 by omega]
    unfold segGo at h
    conv => lhs; unfold segGo
    cases he : endAt b t with
    | some f => rw [he] at h; cases h
    | none =>
      rw [he] at h
      cases hk : stepOk n₀ ann t with
      | false => rw [hk] at h; cases h
      | true =>
        rw [hk] at h
        cases hs : step (denote tb) p w s t with
        | halt o s₂ => rw [hs] at h; cases h
        | go s₂ t₂ => rw [hs] at h; exact segGo_add n m h

section
variable {p : Program} {w : World} {n₀ : Nat} {ann : Option Value} {C : Code} {F : Frame} {α β : Type}

theorem EvN.bind {n m : Nat} {t : Sem α} {f : α → Sem β} {s s₁ s₂ : Shared} {q q₁ q₂ : Pos} {a : α} {b : β} (h : EvN p w n₀ ann C F n t s q a s₁ q₁) (k : EvN p w n₀ ann C F m (f a) s₁ q₁ b s₂ q₂) :
    EvN p w n₀ ann C F (n + m) (t >>= f) s q b s₂ q₂ := by
  intro K H gd lv
  rw [Sem.bind_eq_wrap', Sem.wrap_wrap]
  have e := h (fun a => (f a).wrap K H gd lv) H gd lv
  have := segGo_add n m e
  show segGo treeTable p w n₀ ann 1 (n + m) s ⟨t.wrap (fun a => (f a).wrap K H gd lv) H gd lv, C, q, [F]⟩ = _
  rw [this]
  exact k K H gd lv

theorem Ev.bind {n m : Nat} {t : Sem α} {f : α → Sem β} {s s₁ s₂ : Shared} {q q₁ q₂ : Pos} {a : α} {b : β} (h : Ev p w n₀ ann C F n t s q a s₁ q₁) (k : Ev p w n₀ ann C F m (f a) s₁ q₁ b s₂ q₂) :
    Ev p w n₀ ann C F (n + m) (t >>= f) s q b s₂ q₂ := by
  obtain ⟨x, hx, h⟩ := h
  obtain ⟨y, hy, k⟩ := k
  exact ⟨x + y, Nat.add_le_add hx hy, h.bind k⟩
theorem Ev.mono {n m : Nat} {t : Sem α} {s s' : Shared} {q q' : Pos} {a : α} (h : Ev p w n₀ ann C F n t s q a s' q') (l : n ≤ m) : Ev p w n₀ ann C F m t s q a s' q' := by
  obtain ⟨x, hx, h⟩ := h
  exact ⟨x, Nat.le_trans hx l, h⟩
theorem Ev.pure {a : α} {s : Shared} {q : Pos} : Ev p w n₀ ann C F 0 (pure a : Sem α) s q a s q := ⟨0, Nat.le_refl _, fun _ _ _ _ => rfl⟩
theorem Ev.keep {n : Nat} {vs : List Value} {t : Sem α} {s s' : Shared} {q q' : Pos} {a : α} (h : Ev p w n₀ ann C F n t s q a s' q') : Ev p w n₀ ann C F n (t.keep vs) s q a s' q' := by
  obtain ⟨x, hx, h⟩ := h
  refine ⟨x, hx, fun K H gd lv => ?_⟩
  rw [Sem.keep_eq_wrap, Sem.wrap_wrap]
  exact h K H gd _
theorem Ev.holding {n : Nat} {vs : List Value} {t : Sem α} {s s' : Shared} {q q' : Pos} {a : α} (h : Ev p w n₀ ann C F n t s q a s' q') : Ev p w n₀ ann C F n (holding vs t) s q a s' q' := by
  unfold PySem.holding
  split
  · exact h
  · exact h.keep
theorem Ev.onRaise {n : Nat} {k : Value → Sem Unit} {t : Sem α} {s s' : Shared} {q q' : Pos} {a : α} (h : Ev p w n₀ ann C F n t s q a s' q') : Ev p w n₀ ann C F n (t.onRaise k) s q a s' q' := by
  obtain ⟨x, hx, h⟩ := h
  refine ⟨x, hx, fun K H gd lv => ?_⟩
  rw [Sem.onRaise_eq_wrap, Sem.wrap_wrap]
  exact h K _ gd lv
theorem Ev.tryCatch {n : Nat} {k : Value → Sem α} {t : Sem α} {s s' : Shared} {q q' : Pos} {a : α} (h : Ev p w n₀ ann C F n t s q a s' q') : Ev p w n₀ ann C F n (t.tryCatch k) s q a s' q' := by
  obtain ⟨x, hx, h⟩ := h
  refine ⟨x, hx, fun K H gd lv => ?_⟩
  rw [Sem.tryCatch_eq_wrap, Sem.wrap_wrap]
  exact h K _ _ lv
theorem Ev.tryCatch' {n : Nat} {k : Value → Sem α} {t : Sem α} {s s' : Shared} {q q' : Pos} {a : α} (h : Ev p w n₀ ann C F n t s q a s' q') : Ev p w n₀ ann C F n (MonadExcept.tryCatch t k) s q a s' q' := h.tryCatch

theorem EvN.rule {tag : String} {s : Shared} {q : Pos} : EvN p w n₀ ann C F 1 (rule tag) s q () s q := fun K H gd lv => rfl
theorem EvN.standAt {s : Shared} {q q' : Pos} : EvN p w n₀ ann C F 1 (standAt q') s q () s q' := fun K H gd lv => rfl
theorem EvN.point {s : Shared} {q : Pos} : EvN p w n₀ ann C F 1 point s q () s q := fun K H gd lv => rfl
theorem EvN.ask {s : Shared} {q : Pos} : EvN p w n₀ ann C F 1 ask s q ⟨p, w.params⟩ s q := fun K H gd lv => rfl
theorem EvN.fresh {s : Shared} {q : Pos} : EvN p w n₀ ann C F 1 fresh s q s.toks { s with toks := s.toks + 1 } q := fun K H gd lv => rfl
theorem EvN.alloc {o : Obj} {s : Shared} {q : Pos} : EvN p w n₀ ann C F 1 (alloc o) s q s.heap.objs.size { s with heap := s.heap.push o } q := fun K H gd lv => rfl
theorem EvN.loadPart {a : Addr} {part : Option Value} {o : Obj} {s : Shared} {q : Pos} (h : s.heap.get? a = some o) : EvN p w n₀ ann C F 1 (loadPart a part) s q o s q := by
  intro K H gd lv
  obtain ⟨heap, gens, drawn, toks, os⟩ := s
  show (match step (denote treeTable) p w ⟨heap, gens, drawn, toks, os⟩ ⟨.load a part fun x => K x, C, q, [F]⟩ with | .go s' t' => _ | .halt _ _ => _) = _
  simp only [step]
  rw [h]
  rfl
theorem EvN.load {a : Addr} {o : Obj} {s : Shared} {q : Pos} (h : s.heap.get? a = some o) : EvN p w n₀ ann C F 1 (load a) s q o s q := EvN.loadPart h
theorem EvN.updatePart {a : Addr} {part : Option Value} {f : Obj → Obj} {s : Shared} {q : Pos} (h : (s.heap.get? a).isSome = true) (hl : n₀ ≤ a) : EvN p w n₀ ann C F 1 (updatePart a part f) s q () { s with heap := s.heap.update a f } q := by
  intro K H gd lv
  obtain ⟨heap, gens, drawn, toks, os⟩ := s
  have ok : stepOk n₀ ann ⟨.update a part f fun x => K x, C, q, [F]⟩ = true := by
    show (true && (Nat.ble n₀ a || _ || _ || _)) = true
    rw [Nat.ble_eq_true_of_le hl]; rfl
  show (match stepOk n₀ ann ⟨.update a part f fun x => K x, C, q, [F]⟩ with
    | false => none
    | true => match step (denote treeTable) p w ⟨heap, gens, drawn, toks, os⟩ ⟨.update a part f fun x => K x, C, q, [F]⟩ with | .go s' t' => segGo treeTable p w n₀ ann 1 0 s' t' | .halt _ _ => none) = _
  rw [ok]
  simp only [step]
  rw [if_pos h]
  rfl
theorem Ev.of {n : Nat} {t : Sem α} {s s' : Shared} {q q' : Pos} {a : α} (h : EvN p w n₀ ann C F n t s q a s' q') : Ev p w n₀ ann C F n t s q a s' q' := ⟨n, Nat.le_refl _, h⟩
theorem Ev.rule {tag : String} {s : Shared} {q : Pos} : Ev p w n₀ ann C F 1 (PySem.rule tag) s q () s q := .of .rule
theorem Ev.standAt {s : Shared} {q q' : Pos} : Ev p w n₀ ann C F 1 (PySem.standAt q') s q () s q' := .of .standAt
theorem Ev.fresh {s : Shared} {q : Pos} : Ev p w n₀ ann C F 1 PySem.fresh s q s.toks { s with toks := s.toks + 1 } q := .of .fresh
theorem Ev.mkInt {k : Int} {s : Shared} {q : Pos} : Ev p w n₀ ann C F 1 (mkInt k) s q (.int k s.toks) { s with toks := s.toks + 1 } q := Ev.fresh.bind (m := 0) Ev.pure
theorem Ev.mkText {x : Str} {s : Shared} {q : Pos} : Ev p w n₀ ann C F 1 (mkText x) s q (.str x s.toks) { s with toks := s.toks + 1 } q := Ev.fresh.bind (m := 0) Ev.pure
end

end Mine
end
noncomputable section
open PySem PySem.W PySem.Calls PyProof.Rows
set_option linter.unusedVariables false
set_option maxRecDepth 100000
namespace Mine

/-- a heap: what stood, and behind it the new ones -/
noncomputable def hp (base : List Obj) (life : Life) (l : List Obj) : Heap := ⟨(base ++ l).toArray, life⟩
theorem hp_size (base l : List Obj) (life : Life) : (hp base life l).objs.size = base.length + l.length := by
  simp [hp]
theorem hp_push (base l : List Obj) (life : Life) (o : Obj) : (hp base life l).push o = hp base life (l ++ [o]) := by
  simp [hp, Heap.push]
theorem hp_get (base l : List Obj) (life : Life) (i : Nat) {o : Obj} (h : l[i]? = some o) (hf : o.isFreed = false) : (hp base life l).get? (base.length + i) = some o := by
  have e : (base ++ l)[base.length + i]? = some o := by
    rw [List.getElem?_append_right (by omega)]
    simpa using h
  unfold Heap.get? hp
  simp only [List.getElem?_toArray, e]
  obtain ⟨c, d, dt, sl⟩ := o
  cases dt <;> first | rfl | (simp [Obj.isFreed] at hf)
theorem hp_update (base l : List Obj) (life : Life) (i : Nat) (f : Obj → Obj) : (hp base life l).update (base.length + i) f = hp base life (l.modify i f) := by
  show Heap.mk _ _ = Heap.mk _ _
  refine congrArg (Heap.mk · life) ?_
  apply Array.toList_inj.mp
  simp only [Array.toList_modify]
  apply List.ext_getElem?
  intro j
  rw [List.getElem?_modify]
  by_cases h : j < base.length
  · have hne : base.length + i ≠ j := by omega
    rw [List.getElem?_append_left h, List.getElem?_append_left h]
    simp [hne]
  · have hj : base.length ≤ j := by omega
    rw [List.getElem?_append_right hj, List.getElem?_append_right hj, List.getElem?_modify]
    by_cases e : base.length + i = j
    · have h2 : i = j - base.length := by omega
      exact congrArg (fun f => f <$> l[j - base.length]?) (funext fun a => by rw [if_pos e, if_pos h2])
    · have h2 : ¬ i = j - base.length := by omega
      exact congrArg (fun f => f <$> l[j - base.length]?) (funext fun a => by rw [if_neg e, if_neg h2])

noncomputable abbrev dobj (es : List DictEntry) : Obj := { cls := .type "dict", data := .dict es.toArray es.length }

/-- an int key's entry, its key's token t, its value's t + 1 -/
noncomputable def ent (t : Nat) (kv : Int × Str) : DictEntry := ⟨kv.1, .int kv.1 t, .str kv.2 (t + 1)⟩
noncomputable def ents3 : Nat → List (Int × Str) → List DictEntry
  | _, [] => []
  | t, kv :: r => ent t kv :: ents3 (t + 3) r
noncomputable def ents2 : Nat → List (Int × Str) → List DictEntry
  | _, [] => []
  | t, kv :: r => ent t kv :: ents2 (t + 2) r
theorem ents3_length : ∀ (t : Nat) (l : List (Int × Str)), (ents3 t l).length = l.length
  | _, [] => rfl
  | t, _ :: r => by rw [ents3, List.length_cons, ents3_length, List.length_cons]
theorem ents2_length : ∀ (t : Nat) (l : List (Int × Str)), (ents2 t l).length = l.length
  | _, [] => rfl
  | t, _ :: r => by rw [ents2, List.length_cons, ents2_length, List.length_cons]
theorem ents3_hash : ∀ (t : Nat) (l : List (Int × Str)), (ents3 t l).map (·.hash) = l.map (·.1)
  | _, [] => rfl
  | t, _ :: r => by rw [ents3, List.map_cons, ents3_hash, List.map_cons]; rfl
theorem ents2_hash : ∀ (t : Nat) (l : List (Int × Str)), (ents2 t l).map (·.hash) = l.map (·.1)
  | _, [] => rfl
  | t, _ :: r => by rw [ents2, List.map_cons, ents2_hash, List.map_cons]; rfl

noncomputable def small (k : Int) : Prop := 0 ≤ k ∧ k < 2 ^ 31
theorem rawHash_small {k : Int} (h : small k) : rawHash k = k := by
  obtain ⟨h0, h1⟩ := h
  simp only [rawHash]
  have e1 : (k.natAbs : Int) = k := Int.natAbs_of_nonneg h0
  have e2 : ((k.natAbs : Int) % ((2 ^ 61 - 1 : Nat) : Int)) = k := by rw [e1]; exact Int.emod_eq_of_lt h0 (by omega)
  have n0 : ¬ k < 0 := by omega
  simp only [e2, n0, if_false]
  rw [if_neg (by rw [beq_iff_eq]; omega)]
theorem hash_small {k : Int} (h : small k) : hashInt k = k := by
  rw [hashInt, rawHash_small h, if_neg (by obtain ⟨h0, h1⟩ := h; simp; omega)]

theorem places_nil {es : List DictEntry} {h : Int} (hn : h ∉ es.map (·.hash)) : placesWithHash es.toArray.size (fun i => es.toArray[i]?.map (·.hash)) h = [] := by
  unfold placesWithHash
  rw [List.filter_eq_nil_iff]
  intro i hi
  simp only [List.getElem?_toArray]
  cases e : es[i]? with
  | none => simp
  | some x =>
    have hx : x ∈ es := List.mem_of_getElem? e
    simp only [Option.map_some, beq_iff_eq, Option.some.injEq]
    intro q
    exact hn (by rw [← q]; exact List.mem_map_of_mem hx)

section
variable {p : Program} {w : World} {n₀ : Nat} {ann : Option Value} {C : Code} {F : Frame} {α β : Type}
variable {s : Shared} {q : Pos}

theorem Ev.loadPart {a : Addr} {part : Option Value} {o : Obj} (h : s.heap.get? a = some o) : Ev p w n₀ ann C F 1 (loadPart a part) s q o s q := .of (.loadPart h)

theorem Ev.dictEntries {a : Addr} {part : Option Value} {es : List DictEntry} (h : s.heap.get? a = some (dobj es)) : Ev p w n₀ ann C F 1 (dictEntries a part) s q es.toArray s q :=
  (Ev.loadPart h).bind (m := 0) Ev.pure
theorem Ev.dictEpoch {a : Addr} {part : Option Value} {es : List DictEntry} (h : s.heap.get? a = some (dobj es)) : Ev p w n₀ ann C F 1 (dictEpoch a part) s q es.length s q :=
  (Ev.loadPart h).bind (m := 0) Ev.pure

theorem Ev.dictFind_none {d : Addr} {es : List DictEntry} {k : Int} {t : Tok} (h : s.heap.get? d = some (dobj es)) (hn : k ∉ es.map (·.hash)) :
    Ev p w n₀ ann C F 1 (dictFind d (.int k t) k) s q none s q := by
  unfold dictFind
  refine Ev.holding ((Ev.dictEntries h).bind (m := 0) ?_)
  dsimp only
  rw [places_nil hn]
  exact Ev.pure

theorem dobj_push (es : List DictEntry) (e : DictEntry) : Obj.mapDictKeys (·.push e) (dobj es) = dobj (es ++ [e]) := by
  unfold Obj.mapDictKeys dobj
  simp

theorem Ev.updateDictKeys {base : List Obj} {life : Life} {l : List Obj} {i : Nat} {part : Option Value} {es : List DictEntry} {e : DictEntry} (hs : s.heap = hp base life l) (h : l[i]? = some (dobj es)) (hb : n₀ ≤ base.length + i) (hz : es.length + 1 ≤ 2 ^ 20) :
    Ev p w n₀ ann C F 3 (updateDictKeys (base.length + i) (·.push e) part) s q () { s with heap := hp base life (l.set i (dobj (es ++ [e]))) } q := by
  have g : s.heap.get? (base.length + i) = some (dobj es) := by rw [hs]; exact hp_get base l life i h rfl
  have lt : i < l.length := by
    rcases Nat.lt_or_ge i l.length with q | q
    · exact q
    · rw [List.getElem?_eq_none q] at h; cases h
  have eu : s.heap.update (base.length + i) (Obj.mapDictKeys (·.push e)) = hp base life (l.set i (dobj (es ++ [e]))) := by
    rw [hs, hp_update]
    congr 1
    rw [← dobj_push]
    apply List.ext_getElem?
    intro j
    rw [List.getElem?_modify, List.getElem?_set]
    by_cases ej : i = j
    · subst ej
      have hl := (List.getElem?_eq_some_iff.mp h).2
      simp [lt, hl]
    · simp [ej]
  unfold PySem.updateDictKeys
  refine (Ev.loadPart g).bind (m := 2) ?_
  show Ev p w n₀ ann C F 2 (do updatePart (base.length + i) part (Obj.mapDictKeys (·.push e)); lookBehind (base.length + i) part) s q () _ q
  refine (Ev.of (EvN.updatePart (by rw [g]; rfl) hb)).bind (m := 1) ?_
  rw [eu]
  unfold lookBehind
  refine (Ev.loadPart (o := dobj (es ++ [e])) (hp_get base _ life i (by rw [List.getElem?_set]; simp [lt]) rfl)).bind (m := 0) ?_
  have hp' : (dobj (es ++ [e])).data.pastItsLine = none := by
    show (if (es ++ [e]).toArray.size > sizeLine + 1 then some "dict:memory" else none) = none
    rw [if_neg (by simp [sizeLine]; omega)]
  rw [hp']
  exact Ev.pure

theorem Ev.dictPut_new {base : List Obj} {life : Life} {l : List Obj} {i : Nat} {es : List DictEntry} {k : Int} {t : Tok} {v : Value} (hs : s.heap = hp base life l) (h : l[i]? = some (dobj es)) (hb : n₀ ≤ base.length + i) (hz : es.length + 1 ≤ 2 ^ 20) (hn : k ∉ es.map (·.hash)) :
    Ev p w n₀ ann C F 4 (dictPut (base.length + i) k (.int k t) v) s q () { s with heap := hp base life (l.set i (dobj (es ++ [⟨k, .int k t, v⟩]))) } q := by
  have g : s.heap.get? (base.length + i) = some (dobj es) := by rw [hs]; exact hp_get base l life i h rfl
  unfold dictPut
  exact (Ev.dictFind_none g hn).bind (m := 3) (Ev.updateDictKeys hs h hb hz)

theorem Ev.dictSetHashed_new {base : List Obj} {life : Life} {l : List Obj} {i : Nat} {es : List DictEntry} {k : Int} {t : Tok} {v : Value} (hs : s.heap = hp base life l) (h : l[i]? = some (dobj es)) (hb : n₀ ≤ base.length + i) (hz : es.length + 1 ≤ 2 ^ 20) (hn : k ∉ es.map (·.hash)) :
    Ev p w n₀ ann C F 5 (dictSetHashed (base.length + i) (.int k t) k v) s q () { s with heap := hp base life (l.set i (dobj (es ++ [⟨k, .int k t, v⟩]))) } q := by
  have g : s.heap.get? (base.length + i) = some (dobj es) := by rw [hs]; exact hp_get base l life i h rfl
  unfold dictSetHashed
  refine Ev.holding ((Ev.dictFind_none g hn).bind (m := 4) ?_)
  exact Ev.rule.bind (m := 3) (Ev.updateDictKeys hs h hb hz)

theorem EvN.unlessNone (b : Bool) {k : Int} {t : Tok} {r : Sem Value} {heap : Heap} {gens : Array GenState} {drawn : Drawn} {toks : Nat} {os : OsState} :
    EvN p (w.withFollow "special-get-raises" b) n₀ ann C F 5 (callSpecialIfBoundUnlessNone? (.int k t) "__hash__" r) ⟨heap, gens, drawn, toks, os⟩ q (some (.int (rawHash k) toks)) ⟨heap, gens, drawn, toks + 1, os⟩ q := by
  intro K H gd lv
  cases b
  · kernel_rfl!
  · kernel_rfl!
theorem Ev.unlessNone {k : Int} {t : Tok} {r : Sem Value} : Ev p w n₀ ann C F 5 (callSpecialIfBoundUnlessNone? (.int k t) "__hash__" r) s q (some (.int (rawHash k) s.toks)) { s with toks := s.toks + 1 } q := by
  obtain ⟨heap, gens, drawn, toks, os⟩ := s
  have := EvN.unlessNone (p := p) (w := w) (n₀ := n₀) (ann := ann) (C := C) (F := F) (q := q) (w.params.followText "special-get-raises") (k := k) (t := t) (r := r) (heap := heap) (gens := gens) (drawn := drawn) (toks := toks) (os := os)
  rw [World.withFollow_self] at this
  exact .of this
theorem special_int (k : Int) (t : Tok) : specialOf (.int k t) "__hash__" = pure (some (.builtin "int.__hash__")) := by kernel_rfl!

theorem Ev.pyHash_small {k : Int} {t : Tok} (h : small k) : Ev p w n₀ ann C F 5 (pyHash (.int k t)) s q k { s with toks := s.toks + 1 } q := by
  show Ev p w n₀ ann C F 5 (pyHashByItsType (.int k t)) s q k { s with toks := s.toks + 1 } q
  unfold pyHashByItsType
  simp only [special_int]
  refine (Ev.pure (a := ())).bind (n := 0) (m := 5) ?_
  refine (Ev.pure (a := some (Value.builtin "int.__hash__"))).bind (n := 0) (m := 5) ?_
  rw [if_neg (by decide)]
  refine (Ev.pure (a := some (Value.builtin "int.__hash__"))).bind (n := 0) (m := 5) ?_
  rw [if_neg (by decide)]
  refine Ev.unlessNone.bind (m := 0) ?_
  rw [rawHash_small h]
  obtain ⟨h0, h1⟩ := h
  show Ev p w n₀ ann C F 0 (if (decide (-2 ^ 63 ≤ k) && decide (k < 2 ^ 63)) = true then Pure.pure (if (k == -1) = true then -2 else k) else _) _ q k _ q
  rw [if_pos (by simp; omega), if_neg (by simp; omega)]
  exact Ev.pure

theorem Ev.dictSet_new {base : List Obj} {life : Life} {l : List Obj} {i : Nat} {es : List DictEntry} {k : Int} {t : Tok} {v : Value} (hs : s.heap = hp base life l) (h : l[i]? = some (dobj es)) (hb : n₀ ≤ base.length + i) (hz : es.length + 1 ≤ 2 ^ 20) (hk : small k) (hn : k ∉ es.map (·.hash)) :
    Ev p w n₀ ann C F 10 (dictSet (base.length + i) (.int k t) v) s q () { s with heap := hp base life (l.set i (dobj (es ++ [⟨k, .int k t, v⟩]))), toks := s.toks + 1 } q := by
  unfold dictSet
  refine Ev.holding ((Ev.pyHash_small hk).bind (m := 5) ?_)
  exact Ev.dictSetHashed_new (s := { s with toks := s.toks + 1 }) hs h hb hz hn
end

end Mine
end
noncomputable section
open PySem PySem.W PySem.Calls PyProof.Rows
set_option linter.unusedVariables false
set_option maxRecDepth 100000
namespace Mine

noncomputable def endP (q pos : Pos) : List (Int × Str) → Pos
  | [] => q
  | _ :: _ => pos
theorem endP_same (pos : Pos) : ∀ l, endP pos pos l = pos
  | [] => rfl
  | _ :: _ => rfl
theorem endP_endP (q pos : Pos) (l r : List (Int × Str)) : endP (endP q pos l) pos r = endP q pos (l ++ r) := by
  cases l <;> cases r <;> rfl

noncomputable abbrev pr (pos : Pos) (kv : Int × Str) : Sem Value × Sem Value := (mkInt kv.1, do let x ← mkText kv.2; standAt pos; pure x)
noncomputable abbrev prs (pos : Pos) (l : List (Int × Str)) : List (Sem Value × Sem Value) := l.map (pr pos)

section
variable {p : Program} {w : World} {n₀ : Nat} {ann : Option Value} {C : Code} {F : Frame} {α β : Type}

theorem Ev.as {n m : Nat} {t : Sem α} {s s₁ s₂ : Shared} {q q₁ q₂ : Pos} {a : α} (h : Ev p w n₀ ann C F n t s q a s₁ q₁) (hn : n ≤ m) (hs : s₁ = s₂) (hq : q₁ = q₂) : Ev p w n₀ ann C F m t s q a s₂ q₂ := by
  subst hs hq
  exact h.mono hn
theorem sh_eq {s : Shared} {h h' : Heap} {t t' : Nat} (e : h = h') (e' : t = t') : ({ s with heap := h, toks := t } : Shared) = { s with heap := h', toks := t' } := by
  subst e e'; rfl

theorem ev_pr_fst {s : Shared} {q pos : Pos} {kv : Int × Str} : Ev p w n₀ ann C F 1 (pr pos kv).1 s q (.int kv.1 s.toks) { s with toks := s.toks + 1 } q := Ev.mkInt
theorem ev_pr_snd {s : Shared} {q pos : Pos} {kv : Int × Str} : Ev p w n₀ ann C F 2 (pr pos kv).2 s q (.str kv.2 s.toks) { s with toks := s.toks + 1 } pos :=
  Ev.mkText.bind (m := 1) (Ev.standAt.bind (m := 0) Ev.pure)

theorem set_set_same {α : Type} (l : List α) (i : Nat) (a b : α) : (l.set i a).set i b = l.set i b := by
  apply List.ext_getElem?
  intro j
  simp only [List.getElem?_set, List.length_set]
  by_cases h : i = j <;> simp [h]

/-- the long road's loop -/
theorem ev_longLoop {base : List Obj} {life : Life} {i : Nat} {pos : Pos} (hb : n₀ ≤ base.length + i) : ∀ (kvs : List (Int × Str)) (l : List Obj) (es : List DictEntry) (s : Shared) (q : Pos),
    s.heap = hp base life l → l[i]? = some (dobj es) → es.length + kvs.length ≤ 2 ^ 20 → (∀ kv ∈ kvs, small kv.1) → (es.map (·.hash) ++ kvs.map (·.1)).Nodup →
    Ev p w n₀ ann C F (13 * kvs.length) (forIn (prs pos kvs) PUnit.unit fun (x : Sem Value × Sem Value) (_ : PUnit) => (do
        let kv ← x.fst
        let vv ← holding [kv] x.snd
        holding [kv, vv] (dictSet (base.length + i) kv vv)
        pure (ForInStep.yield PUnit.unit) : Sem (ForInStep PUnit))) s q PUnit.unit { s with heap := hp base life (l.set i (dobj (es ++ ents3 s.toks kvs))), toks := s.toks + 3 * kvs.length } (endP q pos kvs)
  | [], l, es, s, q, hs, h, hz, hk, hn => by
    rw [prs, List.map_nil, List.forIn_nil]
    have e : l.set i (dobj (es ++ ents3 s.toks [])) = l := by
      obtain ⟨hl, he⟩ := List.getElem?_eq_some_iff.mp h
      rw [ents3, List.append_nil, ← he, List.set_getElem_self]
    rw [e, ← hs]
    exact Ev.pure
  | kv :: r, l, es, s, q, hs, h, hz, hk, hn => by
    rw [prs, List.map_cons, List.forIn_cons]
    have lt : i < l.length := (List.getElem?_eq_some_iff.mp h).1
    rw [List.length_cons] at hz
    have hnk : kv.1 ∉ es.map (·.hash) := by
      intro q
      rw [List.map_cons, List.nodup_append] at hn
      exact hn.2.2 _ q _ (.head _) rfl
    have one : Ev p w n₀ ann C F 13 (do
        let a ← (pr pos kv).fst
        let vv ← holding [a] (pr pos kv).snd
        holding [a, vv] (dictSet (base.length + i) a vv)
        pure (ForInStep.yield PUnit.unit) : Sem (ForInStep PUnit)) s q (ForInStep.yield PUnit.unit) { s with heap := hp base life (l.set i (dobj (es ++ [ent s.toks kv]))), toks := s.toks + 1 + 1 + 1 } pos :=
      ev_pr_fst.bind (m := 12) ((Ev.holding ev_pr_snd).bind (m := 10) ((Ev.holding (Ev.dictSet_new (s := { s with toks := s.toks + 1 + 1 }) hs h hb (by omega) (hk _ (.head _)) hnk)).bind (m := 0) Ev.pure))
    have two := ev_longLoop (pos := pos) hb r (l.set i (dobj (es ++ [ent s.toks kv]))) (es ++ [ent s.toks kv]) { s with heap := hp base life (l.set i (dobj (es ++ [ent s.toks kv]))), toks := s.toks + 1 + 1 + 1 } pos rfl
      (by rw [List.getElem?_set]; simp [lt]) (by simp; omega) (fun x hx => hk x (.tail _ hx)) (by
        rw [List.map_append, List.append_assoc]
        exact hn)
    refine Ev.as (Ev.bind one two) (by rw [List.length_cons]; omega) (sh_eq ?_ (by rw [List.length_cons]; show s.toks + 1 + 1 + 1 + 3 * r.length = _; omega)) (endP_same pos r)
    rw [set_set_same, List.append_assoc]
    rfl

theorem append_last {α : Type} (l : List α) (a : α) : (l ++ [a])[l.length]? = some a := by simp
theorem set_last {α : Type} (l : List α) (a b : α) : (l ++ [a]).set l.length b = l ++ [b] := by simp

theorem ev_subDict_long {base : List Obj} {life : Life} {l : List Obj} {s : Shared} {q pos : Pos} (kvs : List (Int × Str)) (hs : s.heap = hp base life l) (hb : n₀ ≤ base.length) (hl : 15 < kvs.length) (hz : kvs.length ≤ 2 ^ 20)
    (hk : ∀ kv ∈ kvs, small kv.1) (hn : (kvs.map (·.1)).Nodup) :
    Ev p w n₀ ann C F (2 + 13 * kvs.length) (subDict (prs pos kvs)) s q (base.length + l.length) { s with heap := hp base life (l ++ [dobj (ents3 s.toks kvs)]), toks := s.toks + 3 * kvs.length } (endP q pos kvs) := by
  unfold subDict
  rw [show 2 + 13 * kvs.length = 1 + (1 + 13 * kvs.length) by omega]
  refine (Ev.of EvN.alloc).bind ?_
  have e1 : s.heap.objs.size = base.length + l.length := by rw [hs, hp_size]
  have e2 : s.heap.push { cls := .type "dict", data := .dict #[] } = hp base life (l ++ [dobj []]) := by rw [hs, hp_push]; rfl
  rw [e1, e2]
  have hlen : ¬ (prs pos kvs).length ≤ 15 := by rw [List.length_map]; omega
  rw [if_neg hlen]
  have k := ev_longLoop (p := p) (w := w) (n₀ := n₀) (ann := ann) (C := C) (F := F) (base := base) (life := life) (i := l.length) (pos := pos) (by omega) kvs (l ++ [dobj []]) [] { s with heap := hp base life (l ++ [dobj []]) } q rfl (append_last _ _) (by simpa using hz) hk (by simpa using hn)
  rw [set_last] at k
  have k' := k.bind (m := 0) (f := fun _ => (pure () : Sem Unit)) Ev.pure
  rw [List.nil_append] at k'
  exact (Ev.holding (Ev.rule.bind k')).bind (n := 1 + 13 * kvs.length) (m := 0) Ev.pure

noncomputable def vals2 : Nat → List (Int × Str) → List (Value × Value)
  | _, [] => []
  | t, kv :: r => (.int kv.1 t, .str kv.2 (t + 1)) :: vals2 (t + 2) r
theorem ev_evalPairs {pos : Pos} : ∀ (kvs : List (Int × Str)) (s : Shared) (q : Pos), Ev p w n₀ ann C F (3 * kvs.length) (evalPairs (prs pos kvs)) s q (vals2 s.toks kvs) { s with toks := s.toks + 2 * kvs.length } (endP q pos kvs)
  | [], s, q => Ev.pure
  | kv :: r, s, q => by
    rw [prs, List.map_cons, PySem.evalPairs]
    have k := ev_evalPairs (pos := pos) r { s with toks := s.toks + 1 + 1 } pos
    have fin := ev_pr_fst.bind (p := p) (w := w) (n₀ := n₀) (ann := ann) (C := C) (F := F) (s := s) (q := q) (t := (pr pos kv).1) (f := fun kv' => do
      let vv ← holding [kv'] (pr pos kv).2
      return (kv', vv) :: (← holding [kv', vv] (PySem.evalPairs (prs pos r)))) ((Ev.holding ev_pr_snd).bind ((Ev.holding k).bind (m := 0) Ev.pure))
    rw [endP_same] at fin
    have e1 : 1 + (2 + (3 * r.length + 0)) = 3 * (kv :: r).length := by rw [List.length_cons]; omega
    rw [e1] at fin
    have e2 : s.toks + 1 + 1 + 2 * r.length = s.toks + 2 * (kv :: r).length := by rw [List.length_cons]; omega
    simp only [e2] at fin
    exact fin

theorem ev_storeLoop {base : List Obj} {life : Life} {i : Nat} (hb : n₀ ≤ base.length + i) : ∀ (kvs : List (Int × Str)) (t : Nat) (l : List Obj) (es : List DictEntry) (s : Shared) (q : Pos),
    s.heap = hp base life l → l[i]? = some (dobj es) → es.length + kvs.length ≤ 2 ^ 20 → (∀ kv ∈ kvs, small kv.1) → (es.map (·.hash) ++ kvs.map (·.1)).Nodup →
    Ev p w n₀ ann C F (10 * kvs.length) (forIn (vals2 t kvs) PUnit.unit fun (x : Value × Value) (_ : PUnit) => (do
        dictSet (base.length + i) x.fst x.snd
        pure (ForInStep.yield PUnit.unit) : Sem (ForInStep PUnit))) s q PUnit.unit { s with heap := hp base life (l.set i (dobj (es ++ ents2 t kvs))), toks := s.toks + kvs.length } q
  | [], t, l, es, s, q, hs, h, hz, hk, hn => by
    rw [vals2, List.forIn_nil]
    have e : l.set i (dobj (es ++ ents2 t [])) = l := by
      obtain ⟨hl, he⟩ := List.getElem?_eq_some_iff.mp h
      rw [ents2, List.append_nil, ← he, List.set_getElem_self]
    rw [e, ← hs]
    exact Ev.pure
  | kv :: r, t, l, es, s, q, hs, h, hz, hk, hn => by
    rw [vals2, List.forIn_cons]
    have lt : i < l.length := (List.getElem?_eq_some_iff.mp h).1
    rw [List.length_cons] at hz
    have hnk : kv.1 ∉ es.map (·.hash) := by
      intro q
      rw [List.map_cons, List.nodup_append] at hn
      exact hn.2.2 _ q _ (.head _) rfl
    have one : Ev p w n₀ ann C F 10 (do
        dictSet (base.length + i) (Value.int kv.1 t) (Value.str kv.2 (t + 1))
        pure (ForInStep.yield PUnit.unit) : Sem (ForInStep PUnit)) s q (ForInStep.yield PUnit.unit) { s with heap := hp base life (l.set i (dobj (es ++ [ent t kv]))), toks := s.toks + 1 } q :=
      (Ev.dictSet_new hs h hb (by omega) (hk _ (.head _)) hnk).bind (m := 0) Ev.pure
    have two := ev_storeLoop hb r (t + 2) (l.set i (dobj (es ++ [ent t kv]))) (es ++ [ent t kv]) { s with heap := hp base life (l.set i (dobj (es ++ [ent t kv]))), toks := s.toks + 1 } q rfl
      (by rw [List.getElem?_set]; simp [lt]) (by simp; omega) (fun x hx => hk x (.tail _ hx)) (by
        rw [List.map_append, List.append_assoc]
        exact hn)
    refine Ev.as (Ev.bind one two) (by rw [List.length_cons]; omega) (sh_eq ?_ (by rw [List.length_cons]; show s.toks + 1 + r.length = _; omega)) rfl
    rw [set_set_same, List.append_assoc]
    rfl

theorem ev_subDict_short {base : List Obj} {life : Life} {l : List Obj} {s : Shared} {q pos : Pos} (kvs : List (Int × Str)) (hs : s.heap = hp base life l) (hb : n₀ ≤ base.length) (hl : kvs.length ≤ 15)
    (hk : ∀ kv ∈ kvs, small kv.1) (hn : (kvs.map (·.1)).Nodup) :
    Ev p w n₀ ann C F (1 + 13 * kvs.length) (subDict (prs pos kvs)) s q (base.length + l.length) { s with heap := hp base life (l ++ [dobj (ents2 s.toks kvs)]), toks := s.toks + 2 * kvs.length + kvs.length } (endP q pos kvs) := by
  unfold subDict
  refine (Ev.of EvN.alloc).bind ?_
  have e1 : s.heap.objs.size = base.length + l.length := by rw [hs, hp_size]
  have e2 : s.heap.push { cls := .type "dict", data := .dict #[] } = hp base life (l ++ [dobj []]) := by rw [hs, hp_push]; rfl
  rw [e1, e2]
  have hlen : (prs pos kvs).length ≤ 15 := by rw [List.length_map]; exact hl
  rw [if_pos hlen]
  have k := ev_storeLoop (p := p) (w := w) (n₀ := n₀) (ann := ann) (C := C) (F := F) (base := base) (life := life) (i := l.length) (by omega) kvs s.toks (l ++ [dobj []]) [] { s with heap := hp base life (l ++ [dobj []]), toks := s.toks + 2 * kvs.length } (endP q pos kvs) rfl (append_last _ _) (by simp; omega) hk (by simpa using hn)
  rw [set_last] at k
  have k' := k.bind (m := 0) (f := fun _ => (pure () : Sem Unit)) Ev.pure
  rw [List.nil_append] at k'
  refine Ev.as (Ev.bind (Ev.holding (Ev.bind (ev_evalPairs (pos := pos) kvs _ q) (Ev.holding k'))) (m := 0) Ev.pure) (by omega) rfl rfl
end
end Mine
end
noncomputable section
open PySem PySem.W PySem.Calls PyProof.Rows
set_option linter.unusedVariables false
set_option maxRecDepth 100000
namespace Mine

theorem sub_dict_dict : isSubtype (.type "dict") (.type "dict") = pure true := by kernel_rfl!
theorem look_dict_iter : typeLookup (.type "dict") "__iter__" = pure (some (.builtin "dict.__iter__")) := by kernel_rfl!

section
variable {p : Program} {w : World} {n₀ : Nat} {ann : Option Value} {C : Code} {F : Frame} {α β : Type}

theorem ev_isInst_dict {s : Shared} {q : Pos} {a : Addr} {es : List DictEntry} (h : s.heap.get? a = some (dobj es)) : Ev p w n₀ ann C F 1 (isInstance (.ref a) (.type "dict")) s q true s q := by
  unfold isInstance
  refine Ev.as (Ev.bind (n := 1) (m := 0) (a := Value.type "dict") (Ev.bind (m := 0) (Ev.loadPart h) Ev.pure) ?_) (Nat.le_refl _) rfl rfl
  rw [sub_dict_dict]
  exact Ev.pure
theorem ev_special_iter {s : Shared} {q : Pos} {a : Addr} {es : List DictEntry} (h : s.heap.get? a = some (dobj es)) : Ev p w n₀ ann C F 1 (specialOf (.ref a) "__iter__") s q (some (.builtin "dict.__iter__")) s q := by
  unfold specialOf
  refine Ev.as (Ev.bind (n := 1) (m := 0) (a := Value.type "dict") (Ev.bind (m := 0) (Ev.loadPart h) Ev.pure) ?_) (Nat.le_refl _) rfl rfl
  rw [look_dict_iter]
  exact Ev.pure

noncomputable def IntEnts (fs : List DictEntry) : Prop := ∀ e ∈ fs, ∃ t, e.key = .int e.hash t

theorem ev_mergeLoop {base : List Obj} {life : Life} {i j : Nat} (hij : i ≠ j) (hb : n₀ ≤ base.length + i) {fs : List DictEntry} : ∀ (k m : Nat) (l : List Obj) (es : List DictEntry) (s : Shared) (q : Pos),
    m + k = fs.length → s.heap = hp base life l → l[i]? = some (dobj es) → l[j]? = some (dobj fs) → es.length + k ≤ 2 ^ 20 → IntEnts fs → (es.map (·.hash) ++ (fs.drop m).map (·.hash)).Nodup →
    Ev p w n₀ ann C F (6 * k) (forIn (List.range' m k) PUnit.unit fun (i' : Nat) (_ : PUnit) => (do
        let __do_lift ← dictEntries (base.length + j)
        match __do_lift[i']? with
          | some e => do
            holding [e.key, e.val]
                (if false = true then do
                  let __do_lift ← dictFind (base.length + i) e.key e.hash
                  if __do_lift.isSome = true then do
                      rule "dict.merge.duplicate-key"
                      let __do_lift ← newExc (Value.type "KeyError") [e.key]
                      raiseNew __do_lift
                      dictPut (base.length + i) e.hash e.key e.val
                    else dictPut (base.length + i) e.hash e.key e.val
                else dictPut (base.length + i) e.hash e.key e.val)
            let __do_lift ← dictEpoch (base.length + j)
            if (__do_lift != fs.length) = true then do
                unsupported "dict.changed-during-merge"
                pure (ForInStep.yield PUnit.unit)
              else pure (ForInStep.yield PUnit.unit)
          | x => do
            unsupported "dict.changed-during-merge"
            pure (ForInStep.yield PUnit.unit) : Sem (ForInStep PUnit))) s q PUnit.unit { s with heap := hp base life (l.set i (dobj (es ++ fs.drop m))) } q
  | 0, m, l, es, s, q, hm, hs, hi, hj, hz, hf, hn => by
    have e : fs.drop m = [] := List.drop_eq_nil_of_le (by omega)
    rw [List.range'_zero, List.forIn_nil, e, List.append_nil]
    have e2 : l.set i (dobj es) = l := by
      obtain ⟨hl, he⟩ := List.getElem?_eq_some_iff.mp hi
      rw [← he, List.set_getElem_self]
    rw [e2, ← hs]
    exact Ev.pure
  | k + 1, m, l, es, s, q, hm, hs, hi, hj, hz, hf, hn => by
    have lt : m < fs.length := by omega
    have lti : i < l.length := (List.getElem?_eq_some_iff.mp hi).1
    have hd : fs.drop m = fs[m] :: fs.drop (m + 1) := List.drop_eq_getElem_cons lt
    rw [List.range'_succ, List.forIn_cons]
    obtain ⟨t, ht⟩ := hf fs[m] (List.getElem_mem lt)
    have gj : s.heap.get? (base.length + j) = some (dobj fs) := by rw [hs]; exact hp_get base l life j hj rfl
    have hnk : fs[m].hash ∉ es.map (·.hash) := by
      intro z
      rw [hd, List.map_cons, List.nodup_append] at hn
      exact hn.2.2 _ z _ (.head _) rfl
    have em : fs.toArray[m]? = some fs[m] := by simp [lt]
    have eent : (⟨fs[m].hash, .int fs[m].hash t, fs[m].val⟩ : DictEntry) = fs[m] := by
      rw [← ht]
    have put := Ev.dictPut_new (p := p) (w := w) (n₀ := n₀) (ann := ann) (C := C) (F := F) (q := q) (t := t) (v := fs[m].val) hs hi hb (by omega) hnk
    rw [eent] at put
    have gj' : (hp base life (l.set i (dobj (es ++ [fs[m]])))).get? (base.length + j) = some (dobj fs) := hp_get base _ life j (by rw [List.getElem?_set]; simp [hij, hj]) rfl
    have hone : l.set i (dobj (es ++ [fs[m]])) = l.set i (dobj (es ++ [fs[m]])) := rfl
    have two := ev_mergeLoop hij hb k (m + 1) (l.set i (dobj (es ++ [fs[m]]))) (es ++ [fs[m]]) { s with heap := hp base life (l.set i (dobj (es ++ [fs[m]]))) } q (by omega) rfl
      (by rw [List.getElem?_set]; simp [lti]) (by rw [List.getElem?_set]; simp [hij, hj]) (by simp; omega) hf (by
        rw [List.map_append, List.append_assoc]
        rw [hd] at hn
        exact hn)
    refine Ev.as (Ev.bind (n := 6) (a := ForInStep.yield PUnit.unit) ?_ two) (by omega) ?_ rfl
    · refine Ev.as (Ev.bind (n := 1) (m := 5) (Ev.dictEntries gj) ?_) (Nat.le_refl _) rfl rfl
      rw [em]
      dsimp only
      rw [if_neg Bool.false_ne_true, ht]
      refine Ev.as (Ev.bind (n := 4) (m := 1) (Ev.holding put) ?_) (Nat.le_refl _) rfl rfl
      refine Ev.as (Ev.bind (n := 1) (m := 0) (Ev.dictEpoch gj') ?_) (Nat.le_refl _) rfl rfl
      rw [if_neg (by simp)]
      exact Ev.pure
    · rw [set_set_same, List.append_assoc, hd]
      rfl

theorem ev_merge {base : List Obj} {life : Life} {i j : Nat} {s : Shared} {q : Pos} {l : List Obj} {es fs : List DictEntry} (hij : i ≠ j) (hb : n₀ ≤ base.length + i) (hm : base.length + j ≠ sysModules)
    (hs : s.heap = hp base life l) (hi : l[i]? = some (dobj es)) (hj : l[j]? = some (dobj fs)) (he : es ≠ []) (hz : es.length + fs.length ≤ 2 ^ 20) (hf : IntEnts fs) (hn : (es.map (·.hash) ++ fs.map (·.hash)).Nodup) :
    Ev p w n₀ ann C F (5 + 6 * fs.length) (mergeMapping (base.length + i) (.ref (base.length + j)) false) s q () { s with heap := hp base life (l.set i (dobj (es ++ fs))) } q := by
  have gj : s.heap.get? (base.length + j) = some (dobj fs) := by rw [hs]; exact hp_get base l life j hj rfl
  have gi : s.heap.get? (base.length + i) = some (dobj es) := by rw [hs]; exact hp_get base l life i hi rfl
  have loop := ev_mergeLoop (p := p) (w := w) (ann := ann) (C := C) (F := F) hij hb (fs := fs) fs.length 0 l es s q (by omega) hs hi hj hz hf (by rw [List.drop_zero]; exact hn)
  rw [List.drop_zero] at loop
  unfold mergeMapping
  refine Ev.as (Ev.bind (n := 1) (m := 4 + 6 * fs.length) (ev_isInst_dict gj) ?_) (by omega) rfl rfl
  rw [if_pos rfl]
  refine Ev.as (Ev.bind (n := 1) (m := 3 + 6 * fs.length) (ev_special_iter gj) ?_) (by omega) rfl rfl
  have this : (some (Value.builtin "dict.__iter__") == some (Value.builtin "dict.__iter__")) = true := by decide
  rw [this]
  dsimp only
  first | (refine Ev.as (Ev.bind (n := 0) (m := 3 + 6 * fs.length) (a := true) Ev.pure ?_) (by omega) rfl rfl; dsimp only) | skip
  rw [if_neg (by rw [beq_iff_eq]; exact hm)]
  refine Ev.as (Ev.bind (n := 1) (m := 2 + 6 * fs.length) (Ev.dictEntries gi) ?_) (by omega) rfl rfl
  have hne : es.toArray.isEmpty = false := by
    cases es with
    | nil => exact absurd rfl he
    | cons => rfl
  rw [hne, if_neg Bool.false_ne_true]
  refine Ev.as (Ev.bind (n := 1) (m := 1 + 6 * fs.length) (Ev.dictEntries gj) ?_) (by omega) rfl rfl
  refine Ev.as (Ev.bind (n := 1) (m := 6 * fs.length) (Ev.dictEpoch gj) ?_) (by omega) rfl rfl
  rw [List.size_toArray, List.range_eq_range']
  exact Ev.as (Ev.bind (m := 0) loop Ev.pure) (by omega) rfl rfl
end
end Mine
end
noncomputable section
open PySem PySem.W PySem.Calls PyProof.Rows
set_option linter.unusedVariables false
set_option maxRecDepth 100000
namespace Mine

noncomputable abbrev SV := Sem Value × Sem Value
noncomputable abbrev sp (x : SV) : Option (Sem Value) × Sem Value := (some x.1, x.2)
noncomputable abbrev St := Option Addr × List SV

theorem gather_full {f : (Option (Sem Value) × Sem Value) → St → Sem (ForInStep St)} {fl : List SV → Option Addr → Sem (Option Addr)}
    (hf1 : ∀ (x : SV) (m : Option Addr) (run : List SV), run.length + 1 < 17 → f (some x.1, x.2) (m, run) = pure (.yield (m, run ++ [x])))
    (hf2 : ∀ (x : SV) (m : Option Addr) (run : List SV), run.length + 1 = 17 → f (some x.1, x.2) (m, run) = (do let m' ← fl (run ++ [x]) m; pure (.yield (m', [])))) :
    ∀ (c : List SV) (run : List SV) (m : Option Addr) (rest : List (Option (Sem Value) × Sem Value)), c ≠ [] → run.length + c.length = 17 →
      forIn (c.map sp ++ rest) ((m, run) : St) f = (do let m' ← fl (run ++ c) m; forIn rest ((m', []) : St) f)
  | [], _, _, _, h, _ => absurd rfl h
  | [x], run, m, rest, _, hl => by
    rw [List.map_cons, List.map_nil, List.cons_append, List.nil_append, List.forIn_cons, hf2 x m run hl, bind_assoc]
    simp only [pure_bind]
  | x :: y :: c, run, m, rest, _, hl => by
    rw [List.map_cons, List.cons_append, List.forIn_cons, hf1 x m run (by simp at hl; omega), pure_bind]
    have := gather_full hf1 hf2 (y :: c) (run ++ [x]) m rest (by simp) (by simp at hl ⊢; omega)
    rw [List.append_assoc] at this
    exact this
theorem gather_part {f : (Option (Sem Value) × Sem Value) → St → Sem (ForInStep St)}
    (hf1 : ∀ (x : SV) (m : Option Addr) (run : List SV), run.length + 1 < 17 → f (some x.1, x.2) (m, run) = pure (.yield (m, run ++ [x]))) :
    ∀ (c : List SV) (run : List SV) (m : Option Addr), run.length + c.length < 17 → forIn (c.map sp) ((m, run) : St) f = pure (m, run ++ c)
  | [], run, m, _ => by rw [List.map_nil, List.forIn_nil, List.append_nil]
  | x :: c, run, m, hl => by
    rw [List.map_cons, List.forIn_cons, hf1 x m run (by simp at hl; omega), pure_bind]
    have := gather_part hf1 c (run ++ [x]) m (by simp at hl ⊢; omega)
    rw [List.append_assoc] at this
    exact this

noncomputable def accE : Nat → List (List (Int × Str)) → List DictEntry
  | _, [] => []
  | t, c :: r => ents3 t c ++ accE (t + 3 * c.length) r
noncomputable def accS : Nat → List (List (Int × Str)) → List Obj
  | _, [] => []
  | t, c :: r => dobj (ents3 t c) :: accS (t + 3 * c.length) r
noncomputable def lens : List (List (Int × Str)) → Nat
  | [] => 0
  | c :: r => c.length + lens r
theorem accE_hash : ∀ (t : Nat) (l : List (List (Int × Str))), (accE t l).map (·.hash) = l.flatten.map (·.1)
  | _, [] => rfl
  | t, c :: r => by rw [accE, List.map_append, ents3_hash, accE_hash, List.flatten_cons, List.map_append]
theorem accE_length : ∀ (t : Nat) (l : List (List (Int × Str))), (accE t l).length = lens l
  | _, [] => rfl
  | t, c :: r => by rw [accE, List.length_append, ents3_length, accE_length, lens]
theorem intEnts_ents3 : ∀ (t : Nat) (l : List (Int × Str)), IntEnts (ents3 t l)
  | _, [] => fun _ h => nomatch h
  | t, kv :: r => fun e h => by
    rcases List.mem_cons.mp h with rfl | h
    · exact ⟨t, rfl⟩
    · exact intEnts_ents3 (t + 3) r e h
theorem intEnts_ents2 : ∀ (t : Nat) (l : List (Int × Str)), IntEnts (ents2 t l)
  | _, [] => fun _ h => nomatch h
  | t, kv :: r => fun e h => by
    rcases List.mem_cons.mp h with rfl | h
    · exact ⟨t, rfl⟩
    · exact intEnts_ents2 (t + 2) r e h

/-- what the display does with a full run behind the first -/
noncomputable def flS (c : List SV) (d : Addr) : Sem (Option Addr) := do
  let sub ← holding [Value.ref d] (subDict c)
  (holding [Value.ref d, Value.ref sub] (mergeMapping d (Value.ref sub) false)).onRaise fun x => do
    let _ ← holding [Value.ref d, x] (runValue (Code.builtin "proto.let_go" {}))
  pure (some d)
noncomputable def flN (c : List SV) : Sem (Option Addr) := do
  let d ← subDict c
  pure (some d)
noncomputable def fl (c : List SV) (m : Option Addr) : Sem (Option Addr) := match m with
  | none => flN c
  | some d => flS c d

section
variable {p : Program} {w : World} {n₀ : Nat} {ann : Option Value} {C : Code} {F : Frame} {base : List Obj} {life : Life}

theorem ev_flS_long {s : Shared} {q pos : Pos} {es : List DictEntry} {subs : List Obj} (c : List (Int × Str)) (hb : n₀ ≤ base.length) (hlo : 1 < base.length) (hs : s.heap = hp base life (dobj es :: subs)) (he : es ≠ []) (hc : c.length = 17)
    (hz : es.length + 17 ≤ 2 ^ 20) (hk : ∀ kv ∈ c, small kv.1) (hn : (es.map (·.hash) ++ c.map (·.1)).Nodup) :
    Ev p w n₀ ann C F 400 (flS (prs pos c) base.length) s q (some base.length) { s with heap := hp base life (dobj (es ++ ents3 s.toks c) :: (subs ++ [dobj (ents3 s.toks c)])), toks := s.toks + 3 * c.length } pos := by
  have hq : ∀ q, endP q pos c = pos := fun q => by
    cases c with
    | nil => simp at hc
    | cons => rfl
  have hnc : (c.map (·.1)).Nodup := (List.nodup_append.mp hn).2.1
  have a1 := ev_subDict_long (p := p) (w := w) (n₀ := n₀) (ann := ann) (C := C) (F := F) (q := q) (pos := pos) c hs hb (by omega) (by omega) hk hnc
  rw [hq] at a1
  have h2 : (dobj es :: subs ++ [dobj (ents3 s.toks c)])[0]? = some (dobj es) := rfl
  have h3 : (dobj es :: subs ++ [dobj (ents3 s.toks c)])[(dobj es :: subs).length]? = some (dobj (ents3 s.toks c)) := append_last _ _
  have a2 := ev_merge (p := p) (w := w) (n₀ := n₀) (ann := ann) (C := C) (F := F) (q := pos) (i := 0) (j := (dobj es :: subs).length)
    (s := { s with heap := hp base life (dobj es :: subs ++ [dobj (ents3 s.toks c)]), toks := s.toks + 3 * c.length }) (by simp) (by omega) (by show base.length + (subs.length + 1) ≠ (1 : Nat); omega) rfl h2 h3 he (by rw [ents3_length]; omega) (intEnts_ents3 _ _) (by rw [ents3_hash]; exact hn)
  unfold flS
  refine Ev.as (Ev.bind (Ev.holding a1) (Ev.bind (Ev.onRaise (Ev.holding a2)) (m := 0) Ev.pure)) (by rw [ents3_length, hc]; decide) rfl rfl

theorem ev_flS_short {s : Shared} {q pos : Pos} {es : List DictEntry} {subs : List Obj} (c : List (Int × Str)) (hb : n₀ ≤ base.length) (hlo : 1 < base.length) (hs : s.heap = hp base life (dobj es :: subs)) (he : es ≠ []) (hc0 : c ≠ []) (hc : c.length ≤ 15)
    (hz : es.length + 15 ≤ 2 ^ 20) (hk : ∀ kv ∈ c, small kv.1) (hn : (es.map (·.hash) ++ c.map (·.1)).Nodup) :
    Ev p w n₀ ann C F 400 (flS (prs pos c) base.length) s q (some base.length) { s with heap := hp base life (dobj (es ++ ents2 s.toks c) :: (subs ++ [dobj (ents2 s.toks c)])), toks := s.toks + 2 * c.length + c.length } pos := by
  have hq : ∀ q, endP q pos c = pos := fun q => by
    cases c with
    | nil => exact absurd rfl hc0
    | cons => rfl
  have hnc : (c.map (·.1)).Nodup := (List.nodup_append.mp hn).2.1
  have a1 := ev_subDict_short (p := p) (w := w) (n₀ := n₀) (ann := ann) (C := C) (F := F) (q := q) (pos := pos) c hs hb hc hk hnc
  rw [hq] at a1
  have h2 : (dobj es :: subs ++ [dobj (ents2 s.toks c)])[0]? = some (dobj es) := rfl
  have h3 : (dobj es :: subs ++ [dobj (ents2 s.toks c)])[(dobj es :: subs).length]? = some (dobj (ents2 s.toks c)) := append_last _ _
  have a2 := ev_merge (p := p) (w := w) (n₀ := n₀) (ann := ann) (C := C) (F := F) (q := pos) (i := 0) (j := (dobj es :: subs).length)
    (s := { s with heap := hp base life (dobj es :: subs ++ [dobj (ents2 s.toks c)]), toks := s.toks + 2 * c.length + c.length }) (by simp) (by omega) (by show base.length + (subs.length + 1) ≠ (1 : Nat); omega) rfl h2 h3 he (by rw [ents2_length]; omega) (intEnts_ents2 _ _) (by rw [ents2_hash]; exact hn)
  unfold flS
  refine Ev.as (Ev.bind (Ev.holding a1) (Ev.bind (Ev.onRaise (Ev.holding a2)) (m := 0) Ev.pure)) (by rw [ents2_length]; omega) rfl rfl

theorem ev_chunks {pos : Pos} {last : List (Int × Str)} (hb : n₀ ≤ base.length) (hlo : 1 < base.length) (hlast : last.length < 17) {f : (Option (Sem Value) × Sem Value) → St → Sem (ForInStep St)}
    (hf1 : ∀ (x : SV) (m : Option Addr) (run : List SV), run.length + 1 < 17 → f (some x.1, x.2) (m, run) = pure (.yield (m, run ++ [x])))
    (hf2 : ∀ (x : SV) (m : Option Addr) (run : List SV), run.length + 1 = 17 → f (some x.1, x.2) (m, run) = (do let m' ← fl (run ++ [x]) m; pure (.yield (m', [])))) :
    ∀ (chunks : List (List (Int × Str))) (es : List DictEntry) (subs : List Obj) (s : Shared), s.heap = hp base life (dobj es :: subs) → es ≠ [] → (∀ c ∈ chunks, c.length = 17) → es.length + lens chunks ≤ 2 ^ 20 →
      (∀ c ∈ chunks, ∀ kv ∈ c, small kv.1) → (es.map (·.hash) ++ chunks.flatten.map (·.1)).Nodup →
      Ev p w n₀ ann C F (400 * chunks.length) (forIn ((chunks.flatMap fun c => (prs pos c).map sp) ++ (prs pos last).map sp) ((some base.length, []) : St) f) s pos (some base.length, prs pos last)
        { s with heap := hp base life (dobj (es ++ accE s.toks chunks) :: (subs ++ accS s.toks chunks)), toks := s.toks + 3 * lens chunks } pos
  | [], es, subs, s, hs, he, hc, hz, hk, hn => by
    rw [List.flatMap_nil, List.nil_append, gather_part hf1 _ _ _ (by rw [List.length_map]; simpa using hlast)]
    have e : ({ s with heap := hp base life (dobj (es ++ accE s.toks []) :: (subs ++ accS s.toks [])), toks := s.toks + 3 * lens [] } : Shared) = s := by
      rw [accE, accS, List.append_nil, List.append_nil, ← hs]; rfl
    rw [e, List.nil_append]
    exact Ev.pure
  | c :: r, es, subs, s, hs, he, hc, hz, hk, hn => by
    have hcl := hc c (.head _)
    have hc0 : prs pos c ≠ [] := by
      intro z
      have := congrArg List.length z
      rw [List.length_map, hcl] at this
      cases this
    rw [List.flatMap_cons, List.append_assoc, gather_full hf1 hf2 _ _ _ _ hc0 (by rw [List.length_map, hcl]; rfl), List.nil_append]
    rw [lens] at hz
    rw [List.flatten_cons, List.map_append, ← List.append_assoc] at hn
    have one := ev_flS_long (p := p) (w := w) (n₀ := n₀) (ann := ann) (C := C) (F := F) (q := pos) (pos := pos) c hb hlo hs he hcl (by omega) (hk c (.head _)) (List.nodup_append.mp hn).1
    have two := ev_chunks (pos := pos) (last := last) hb hlo hlast hf1 hf2 r (es ++ ents3 s.toks c) (subs ++ [dobj (ents3 s.toks c)]) { s with heap := hp base life (dobj (es ++ ents3 s.toks c) :: (subs ++ [dobj (ents3 s.toks c)])), toks := s.toks + 3 * c.length } rfl
      (by simp [he]) (fun x hx => hc x (.tail _ hx)) (by rw [List.length_append, ents3_length]; omega) (fun x hx => hk x (.tail _ hx)) (by rw [List.map_append, ents3_hash]; exact hn)
    refine Ev.as (Ev.bind one two) (by rw [List.length_cons]; omega) (sh_eq ?_ (by rw [lens]; show s.toks + 3 * c.length + 3 * lens r = _; omega)) rfl
    rw [accE, accS, List.append_assoc, List.append_assoc]
    rfl

theorem ev_dispLoop {s : Shared} {q pos : Pos} {f : (Option (Sem Value) × Sem Value) → St → Sem (ForInStep St)}
    (hf1 : ∀ (x : SV) (m : Option Addr) (run : List SV), run.length + 1 < 17 → f (some x.1, x.2) (m, run) = pure (.yield (m, run ++ [x])))
    (hf2 : ∀ (x : SV) (m : Option Addr) (run : List SV), run.length + 1 = 17 → f (some x.1, x.2) (m, run) = (do let m' ← fl (run ++ [x]) m; pure (.yield (m', []))))
    (c : List (Int × Str)) (chunks : List (List (Int × Str))) (last : List (Int × Str)) (hb : n₀ ≤ base.length) (hlo : 1 < base.length) (hs : s.heap = hp base life [])
    (hcl : c.length = 17) (hc : ∀ c ∈ chunks, c.length = 17) (hl : last.length ≤ 15) (hz : 17 + lens chunks + 15 ≤ 2 ^ 20)
    (hk : ∀ kv ∈ c ++ chunks.flatten, small kv.1) (hn : ((c ++ chunks.flatten).map (·.1)).Nodup) :
    Ev p w n₀ ann C F (400 * (chunks.length + 1)) (forIn ((prs pos c).map sp ++ ((chunks.flatMap fun c => (prs pos c).map sp) ++ (prs pos last).map sp)) ((none, []) : St) f) s q (some base.length, prs pos last)
      { s with heap := hp base life (dobj (ents3 s.toks c ++ accE (s.toks + 51) chunks) :: accS (s.toks + 51) chunks), toks := s.toks + 51 + 3 * lens chunks } pos := by
  have hq : ∀ q, endP q pos c = pos := fun q => by
    cases c with
    | nil => simp at hcl
    | cons => rfl
  have hc0 : prs pos c ≠ [] := by
    intro z
    have := congrArg List.length z
    rw [List.length_map, hcl] at this
    cases this
  rw [List.map_append] at hn
  have n2 := (List.nodup_append.mp hn).1
  have k1 : ∀ kv ∈ c, small kv.1 := fun x hx => hk x (by simp [hx])
  have k2 : ∀ d ∈ chunks, ∀ kv ∈ d, small kv.1 := fun d hd x hx => hk x (by
    rw [List.mem_append]
    exact .inr (List.mem_flatten.mpr ⟨d, hd, hx⟩))
  have e1 := ev_subDict_long (p := p) (w := w) (n₀ := n₀) (ann := ann) (C := C) (F := F) (q := q) (pos := pos) c hs hb (by omega) (by omega) k1 n2
  rw [hq] at e1
  have e51 : s.toks + 3 * c.length = s.toks + 51 := by omega
  rw [e51] at e1
  have one : Ev p w n₀ ann C F 400 (fl (prs pos c) none) s q (some base.length) { s with heap := hp base life ([] ++ [dobj (ents3 s.toks c)]), toks := s.toks + 51 } pos :=
    Ev.as (Ev.bind e1 (m := 0) Ev.pure) (by omega) rfl rfl
  have two := ev_chunks (p := p) (w := w) (n₀ := n₀) (ann := ann) (C := C) (F := F) (pos := pos) (last := last) hb hlo (by omega) hf1 hf2 chunks (ents3 s.toks c) [] { s with heap := hp base life ([] ++ [dobj (ents3 s.toks c)]), toks := s.toks + 51 } rfl
    (by intro z; have := congrArg List.length z; rw [ents3_length, hcl] at this; cases this) hc (by rw [ents3_length]; omega) k2 (by rw [ents3_hash]; exact hn)
  rw [gather_full hf1 hf2 _ _ _ _ hc0 (by rw [List.length_map, hcl]; rfl), List.nil_append]
  exact Ev.as (Ev.bind one two) (by omega) rfl rfl

theorem ev_display {s : Shared} {q pos : Pos} (c : List (Int × Str)) (chunks : List (List (Int × Str))) (last : List (Int × Str)) (hb : n₀ ≤ base.length) (hlo : 1 < base.length) (hs : s.heap = hp base life [])
    (hcl : c.length = 17) (hc : ∀ c ∈ chunks, c.length = 17) (hl0 : last ≠ []) (hl : last.length ≤ 15) (hz : 17 + lens chunks + 15 ≤ 2 ^ 20)
    (hk : ∀ kv ∈ c ++ chunks.flatten ++ last, small kv.1) (hn : ((c ++ chunks.flatten ++ last).map (·.1)).Nodup) :
    Ev p w n₀ ann C F (400 * (chunks.length + 2)) (dictDisplay ((prs pos c).map sp ++ ((chunks.flatMap fun c => (prs pos c).map sp) ++ (prs pos last).map sp))) s q (.ref base.length)
      { s with heap := hp base life (dobj (ents3 s.toks c ++ accE (s.toks + 51) chunks ++ ents2 (s.toks + 51 + 3 * lens chunks) last) :: (accS (s.toks + 51) chunks ++ [dobj (ents2 (s.toks + 51 + 3 * lens chunks) last)])), toks := s.toks + 51 + 3 * lens chunks + 3 * last.length } pos := by
  have hn' := hn
  rw [List.map_append] at hn'
  have n1 := (List.nodup_append.mp hn').1
  have k1 : ∀ kv ∈ c ++ chunks.flatten, small kv.1 := fun x hx => hk x (List.mem_append_left _ hx)
  have k3 : ∀ kv ∈ last, small kv.1 := fun x hx => hk x (List.mem_append_right _ hx)
  have hp0 : prs pos last ≠ [] := by
    intro z
    exact hl0 (List.map_eq_nil_iff.mp z)
  have last1 := ev_flS_short (p := p) (w := w) (n₀ := n₀) (ann := ann) (C := C) (F := F) (q := pos) (pos := pos)
    (s := { s with heap := hp base life (dobj (ents3 s.toks c ++ accE (s.toks + 51) chunks) :: accS (s.toks + 51) chunks), toks := s.toks + 51 + 3 * lens chunks }) last hb hlo rfl
    (by intro z; have := congrArg List.length z; rw [List.length_append, ents3_length, hcl] at this; simp at this) hl0 hl (by rw [List.length_append, ents3_length, accE_length]; omega) k3
    (by rw [List.map_append, ents3_hash, accE_hash, ← List.map_append, ← List.map_append]; exact hn)
  unfold dictDisplay
  dsimp only
  refine Ev.as (s₁ := { s with heap := hp base life (dobj (ents3 s.toks c ++ accE (s.toks + 51) chunks ++ ents2 (s.toks + 51 + 3 * lens chunks) last) :: (accS (s.toks + 51) chunks ++ [dobj (ents2 (s.toks + 51 + 3 * lens chunks) last)])), toks := s.toks + 51 + 3 * lens chunks + 2 * last.length + last.length }) (Ev.bind (n := 400 * (chunks.length + 1)) (m := 400) (ev_dispLoop ?hf1 ?hf2 c chunks last hb hlo hs hcl hc hl hz k1 n1) ?rest) (by omega) ?_ rfl
  case hf1 =>
    intro x m run h
    have : ((run ++ [(x.1, x.2)]).length == 17) = false := by simp; omega
    simp only [this, Bool.false_eq_true, if_false]
  case hf2 =>
    intro x m run h
    have : ((run ++ [(x.1, x.2)]).length == 17) = true := by simp; omega
    have h2 : (run ++ [(x.1, x.2)]).isEmpty = false := by simp
    simp only [this, if_true, h2, Bool.false_eq_true, if_false]
    cases m <;> rfl
  case rest =>
    have h2 : (prs pos last).isEmpty = false := by
      cases e : prs pos last with
      | nil => exact absurd e hp0
      | cons => rfl
    dsimp only
    simp only [h2, Bool.false_eq_true, if_false]
    exact Ev.as (Ev.bind last1 (m := 0) Ev.pure) (Nat.le_refl _) rfl rfl
  exact sh_eq rfl (by show s.toks + 51 + 3 * lens chunks + 2 * last.length + last.length = _; omega)
end
end Mine
end
noncomputable section
open PySem PySem.W PySem.Calls PyProof.Rows
set_option linter.unusedVariables false
set_option maxRecDepth 100000
namespace Mine

noncomputable abbrev pw : Program := PySem.Challenge.pw_sn0064_01
noncomputable def stm (k : Nat) : Stmt := (pw.main.body[k]?).getD (.Pass ⟨0, 0, 0, 0⟩)
noncomputable def fN (k : Nat) : Str := match stm k with | .FunctionDef (name := n) .. => n | _ => Str.empty
noncomputable def fA (k : Nat) : Arguments := match stm k with | .FunctionDef (args := a) .. => a | _ => ⟨[], [], none, [], [], none, []⟩
noncomputable def fB (k : Nat) : List Stmt := match stm k with | .FunctionDef (body := b) .. => b | _ => []
noncomputable def fS (k : Nat) : Scope := match stm k with | .FunctionDef (scope := s) .. => s | _ => pw.main.scope
noncomputable abbrev fdat (k : Nat) (qual : Str) (globals : Addr) (dV kV doc pm : Value) (an : Option Addr) (cdv ct : Value) (bt : Addr) : FuncData :=
  { name := fN k, qualname := qual, params := fA k, body := .stmts (fB k), scope := fS k, globals := globals, closure := [], defaults := dV, kwdefaults := kV, doc := doc, pyModule := pm, annotations := an, code := cdv, closureTuple := ct, builtins := bt }
noncomputable def body : List Stmt := behindTheImports pw
noncomputable def env0 : Env := { scope := pw.main.scope, locals := mainNs, globals := mainNs, cells := [], code := .ref 13, frame := some 14 }
noncomputable abbrev cd0 : Code := .body body env0
noncomputable abbrev q0 : Pos := ⟨0, 0, 0, 0⟩
noncomputable abbrev ann0 : Option Value := some (.ref 6)

/-- the written display's keys and values -/
noncomputable def b3keys : List (Option Expr) := match stm 7 with | .Assign _ (.Dict ks _ _) _ => ks | _ => []
noncomputable def b3vals : List Expr := match stm 7 with | .Assign _ (.Dict _ vs _) _ => vs | _ => []
noncomputable def b3pos : Pos := match stm 7 with | .Assign _ (.Dict _ _ q) _ => q | _ => q0
noncomputable def constPairs : List (Option Expr) → List Expr → List (Int × Str)
  | some (.Constant (.int k) _ _) :: ks, .Constant (.str v) _ _ :: vs => (k, v) :: constPairs ks vs
  | _, _ => []
noncomputable def kvs : List (Int × Str) := constPairs b3keys b3vals
noncomputable def chunk17 : Nat → List (Int × Str) → List (List (Int × Str))
  | 0, _ => []
  | n + 1, l => l.take 17 :: chunk17 n (l.drop 17)
noncomputable def kvs0 : List (Int × Str) := kvs.take 17
noncomputable def kvsC : List (List (Int × Str)) := chunk17 37 (kvs.drop 17)
noncomputable def kvsL : List (Int × Str) := kvs.drop 646
noncomputable def b3objs : List Obj := dobj (ents3 294 kvs0 ++ accE 345 kvsC ++ ents2 2232 kvsL) :: (accS 345 kvsC ++ [dobj (ents2 2232 kvsL)])
noncomputable def b3o (i : Nat) : Obj := (b3objs[i]?).getD default

noncomputable def o11 (P : Params) : Obj := ⟨(.type "tuple"), none, (.seq #[] 0), #[]⟩
noncomputable def o12 (P : Params) : Obj := ⟨.none, none, (.fields #[]), #[]⟩
noncomputable def o13 (P : Params) : Obj := ⟨(.type "code"), none, (.fields #[(.str (Str.ofString "<module>") 182), (.str (Str.ofString "<module>") 183), (.str (Str.ofString "/claim/cut.py") 184), (.int 1 0), (.int 0 0), (.int 0 0), (.int 0 0), (.int 0 0), (.ref 11), (.bool false), (.int 181 0), (.ref 12), .none, .none, .none, .none, (.int 185 0), (.int 1 0), (.str (Str.ofString "/claim/cut.py") 186)]), #[]⟩
noncomputable def o14 (P : Params) : Obj := ⟨(.type "frame"), none, .plain, #[(some (.ref 13)), (some (.ref 3)), (some (.ref 3)), none, (some (.str (Str.ofString "__main__") 164)), none, (some (.ref 0))]⟩
noncomputable def Tb (P : Params) : BT := (.node (boot_o_0 P) (.node (boot_o_1 P) (.node (boot_o_3 P) (.node (boot_o_7 P) .nil .nil) (.node (o11 P) .nil .nil)) (.node (boot_o_5 P) (.node (boot_o_9 P) .nil .nil) (.node (o13 P) .nil .nil))) (.node (boot_o_2 P) (.node (boot_o_4 P) (.node (boot_o_8 P) .nil .nil) (.node (o12 P) .nil .nil)) (.node (boot_o_6 P) (.node (boot_o_10 P) .nil .nil) (.node (o14 P) .nil .nil))))
noncomputable def o3 (P : Params) : Obj := ⟨(.type "dict"), none, (.dict #[⟨(PyData.keyHash P (Str.ofString "__name__")), (.str (Str.ofString "__name__") 165), (.str (Str.ofString "cpy313.stringprep") 225)⟩, ⟨(PyData.keyHash P (Str.ofString "__doc__")), (.str (Str.ofString "__doc__") 166), .none⟩, ⟨(PyData.keyHash P (Str.ofString "__package__")), (.str (Str.ofString "__package__") 167), .none⟩, ⟨(PyData.keyHash P (Str.ofString "__loader__")), (.str (Str.ofString "__loader__") 168), (.builtin "__main__.__loader__#opaque")⟩, ⟨(PyData.keyHash P (Str.ofString "__spec__")), (.str (Str.ofString "__spec__") 169), .none⟩, ⟨(PyData.keyHash P (Str.ofString "__annotations__")), (.str (Str.ofString "__annotations__") 170), (.ref 6)⟩, ⟨(PyData.keyHash P (Str.ofString "__builtins__")), (.str (Str.ofString "__builtins__") 171), (.ref 4)⟩, ⟨(PyData.keyHash P (Str.ofString "__file__")), (.str (Str.ofString "__file__") 173), (.str (Str.ofString "/claim/cut.py") 172)⟩, ⟨(PyData.keyHash P (Str.ofString "__cached__")), (.str (Str.ofString "__cached__") 174), .none⟩, ⟨(PyData.keyHash P (Str.ofString "compute_powers")), (.str (Str.ofString "compute_powers") 208), (.ref 22)⟩, ⟨(PyData.keyHash P (Str.ofString "bisect_left")), (.str (Str.ofString "bisect_left") 224), (.ref 31)⟩] 11), #[]⟩
noncomputable def o12v1 (P : Params) : Obj := ⟨.none, none, (.fields #[(.int 2 0), (.int 0 0), (.ref 21), (.int 44 0), (.int 0 0), (.ref 30)]), #[]⟩
noncomputable def o15 (P : Params) : Obj := ⟨(.type "tuple"), none, (.seq #[(.bool false)] 0), #[]⟩
noncomputable def o16 (P : Params) : Obj := ⟨(.type "tuple"), none, (.seq #[] 0), #[]⟩
noncomputable def o17 (P : Params) : Obj := ⟨.none, none, (.fields #[]), #[]⟩
noncomputable def o18 (P : Params) : Obj := ⟨(.type "tuple"), none, (.seq #[(.str (Str.ofString "w") 192), (.str (Str.ofString "base") 193), (.str (Str.ofString "more_than") 194), (.str (Str.ofString "show") 195), (.str (Str.ofString "seen") 196), (.str (Str.ofString "need") 197), (.str (Str.ofString "ws") 198), (.str (Str.ofString "lo") 199), (.str (Str.ofString "d") 200), (.str (Str.ofString "it") 201), (.str (Str.ofString "first") 202), (.str (Str.ofString "this") 203), (.str (Str.ofString "hi") 204), (.str (Str.ofString "sq") 205)] 0), #[]⟩
noncomputable def o19 (P : Params) : Obj := ⟨(.type "tuple"), none, (.seq #[] 0), #[]⟩
noncomputable def o20 (P : Params) : Obj := ⟨.none, none, (.func (fdat 1 (Str.ofString "compute_powers") 0 .none .none .none .none none .none .none 0)), #[]⟩
noncomputable def o21 (P : Params) : Obj := ⟨(.type "code"), none, (.fields #[(.str (Str.ofString "compute_powers") 189), (.str (Str.ofString "compute_powers") 190), (.str (Str.ofString "/claim/cut.py") 191), (.int 2 0), (.int 4 0), (.int 0 0), (.int 0 0), (.int 3 0), (.ref 16), (.bool true), (.int 181 0), (.ref 17), .none, (.ref 18), (.ref 19), (.ref 20), (.int 206 0), (.int 2 0), (.str (Str.ofString "/claim/cut.py") 207)]), #[]⟩
noncomputable def o22 (P : Params) : Obj := ⟨(.type "function"), none, (.func (fdat 1 (Str.ofString "compute_powers") 3 (.ref 15) .none .none (.str (Str.ofString "cpy313._pylong") 187) none (.ref 21) .none 0)), #[]⟩
noncomputable def o23 (P : Params) : Obj := ⟨(.type "tuple"), none, (.seq #[(.int 0 211), .none] 0), #[]⟩
noncomputable def o24 (P : Params) : Obj := ⟨(.type "dict"), none, (.dict #[⟨(PyData.keyHash P (Str.ofString "key")), (.str (Str.ofString "key") 212), .none⟩] 1), #[]⟩
noncomputable def o25 (P : Params) : Obj := ⟨(.type "tuple"), none, (.seq #[] 0), #[]⟩
noncomputable def o26 (P : Params) : Obj := ⟨.none, none, (.fields #[]), #[]⟩
noncomputable def o27 (P : Params) : Obj := ⟨(.type "tuple"), none, (.seq #[(.str (Str.ofString "a") 216), (.str (Str.ofString "x") 217), (.str (Str.ofString "lo") 218), (.str (Str.ofString "hi") 219), (.str (Str.ofString "key") 220), (.str (Str.ofString "mid") 221)] 0), #[]⟩
noncomputable def o28 (P : Params) : Obj := ⟨(.type "tuple"), none, (.seq #[] 0), #[]⟩
noncomputable def o29 (P : Params) : Obj := ⟨.none, none, (.func (fdat 3 (Str.ofString "bisect_left") 0 .none .none .none .none none .none .none 0)), #[]⟩
noncomputable def o30 (P : Params) : Obj := ⟨(.type "code"), none, (.fields #[(.str (Str.ofString "bisect_left") 213), (.str (Str.ofString "bisect_left") 214), (.str (Str.ofString "/claim/cut.py") 215), (.int 44 0), (.int 4 0), (.int 0 0), (.int 1 0), (.int 3 0), (.ref 25), (.bool true), (.int 181 0), (.ref 26), .none, (.ref 27), (.ref 28), (.ref 29), (.int 222 0), (.int 44 0), (.str (Str.ofString "/claim/cut.py") 223)]), #[]⟩
noncomputable def o31 (P : Params) : Obj := ⟨(.type "function"), none, (.func (fdat 3 (Str.ofString "bisect_left") 3 (.ref 23) (.ref 24) .none (.str (Str.ofString "cpy313.bisect") 209) none (.ref 30) .none 0)), #[]⟩
noncomputable def T1 (P : Params) : BT := (.node (boot_o_0 P) (.node (boot_o_1 P) (.node (o3 P) (.node (boot_o_7 P) (.node (o15 P) (.node (o31 P) .nil .nil) .nil) (.node (o23 P) .nil .nil)) (.node (o11 P) (.node (o19 P) .nil .nil) (.node (o27 P) .nil .nil))) (.node (boot_o_5 P) (.node (boot_o_9 P) (.node (o17 P) .nil .nil) (.node (o25 P) .nil .nil)) (.node (o13 P) (.node (o21 P) .nil .nil) (.node (o29 P) .nil .nil)))) (.node (boot_o_2 P) (.node (boot_o_4 P) (.node (boot_o_8 P) (.node (o16 P) .nil .nil) (.node (o24 P) .nil .nil)) (.node (o12v1 P) (.node (o20 P) .nil .nil) (.node (o28 P) .nil .nil))) (.node (boot_o_6 P) (.node (boot_o_10 P) (.node (o18 P) .nil .nil) (.node (o26 P) .nil .nil)) (.node (o14 P) (.node (o22 P) .nil .nil) (.node (o30 P) .nil .nil)))))
noncomputable def o3v1 (P : Params) : Obj := ⟨(.type "dict"), none, (.dict #[⟨(PyData.keyHash P (Str.ofString "__name__")), (.str (Str.ofString "__name__") 165), (.str (Str.ofString "cpy313.stringprep") 225)⟩, ⟨(PyData.keyHash P (Str.ofString "__doc__")), (.str (Str.ofString "__doc__") 166), .none⟩, ⟨(PyData.keyHash P (Str.ofString "__package__")), (.str (Str.ofString "__package__") 167), .none⟩, ⟨(PyData.keyHash P (Str.ofString "__loader__")), (.str (Str.ofString "__loader__") 168), (.builtin "__main__.__loader__#opaque")⟩, ⟨(PyData.keyHash P (Str.ofString "__spec__")), (.str (Str.ofString "__spec__") 169), .none⟩, ⟨(PyData.keyHash P (Str.ofString "__annotations__")), (.str (Str.ofString "__annotations__") 170), (.ref 6)⟩, ⟨(PyData.keyHash P (Str.ofString "__builtins__")), (.str (Str.ofString "__builtins__") 171), (.ref 4)⟩, ⟨(PyData.keyHash P (Str.ofString "__file__")), (.str (Str.ofString "__file__") 173), (.str (Str.ofString "/claim/cut.py") 172)⟩, ⟨(PyData.keyHash P (Str.ofString "__cached__")), (.str (Str.ofString "__cached__") 174), .none⟩, ⟨(PyData.keyHash P (Str.ofString "compute_powers")), (.str (Str.ofString "compute_powers") 208), (.ref 22)⟩, ⟨(PyData.keyHash P (Str.ofString "bisect_left")), (.str (Str.ofString "bisect_left") 224), (.ref 31)⟩, ⟨(PyData.keyHash P (Str.ofString "b1_set")), (.str (Str.ofString "b1_set") 286), (.ref 39)⟩] 12), #[]⟩
noncomputable def o32 (P : Params) : Obj := ⟨(.type "list"), none, (.seq #[(.int 173 227), (.int 847 228), (.int 6150 229), (.int 6155 230), (.int 6156 231), (.int 6157 232), (.int 8203 233), (.int 8204 234), (.int 8205 235), (.int 8288 236), (.int 65279 237)] 0), #[]⟩
noncomputable def o33 (P : Params) : Obj := ⟨(.type "range"), none, (.fields #[(.int 65024 238), (.int 65040 239), (.int 1 240)]), #[]⟩
noncomputable def o34 (P : Params) : Obj := ⟨(.type "list"), none, (.seq #[(.int 65024 243), (.int 65025 244), (.int 65026 245), (.int 65027 246), (.int 65028 247), (.int 65029 248), (.int 65030 249), (.int 65031 250), (.int 65032 251), (.int 65033 252), (.int 65034 253), (.int 65035 254), (.int 65036 255), (.int 65037 256), (.int 65038 257), (.int 65039 258)] 18), #[]⟩
noncomputable def o35 (P : Params) : Obj := ⟨(.type "range_iterator"), none, (.fields #[(.int 65040 0), (.int 0 0), (.int 1 0)]), #[]⟩
noncomputable def o36 (P : Params) : Obj := ⟨(.type "tuple"), none, (.seq #[] 0), #[]⟩
noncomputable def o37 (P : Params) : Obj := ⟨(.type "StopIteration"), none, (.fields #[(.ref 36), .none, .none, .none, (.bool false), .none]), #[]⟩
noncomputable def o38 (P : Params) : Obj := ⟨(.type "list"), none, (.seq #[(.int 173 227), (.int 847 228), (.int 6150 229), (.int 6155 230), (.int 6156 231), (.int 6157 232), (.int 8203 233), (.int 8204 234), (.int 8205 235), (.int 8288 236), (.int 65279 237), (.int 65024 243), (.int 65025 244), (.int 65026 245), (.int 65027 246), (.int 65028 247), (.int 65029 248), (.int 65030 249), (.int 65031 250), (.int 65032 251), (.int 65033 252), (.int 65034 253), (.int 65035 254), (.int 65036 255), (.int 65037 256), (.int 65038 257), (.int 65039 258)] 0), #[]⟩
noncomputable def o39 (P : Params) : Obj := ⟨(.type "set"), none, (.set #[(65024, (.int 65024 243)), (65025, (.int 65025 244)), (65026, (.int 65026 245)), (65027, (.int 65027 246)), (65028, (.int 65028 247)), (65029, (.int 65029 248)), (6150, (.int 6150 229)), (65030, (.int 65030 249)), (65031, (.int 65031 250)), (65032, (.int 65032 251)), (65033, (.int 65033 252)), (6155, (.int 6155 230)), (6156, (.int 6156 231)), (6157, (.int 6157 232)), (8203, (.int 8203 233)), (8204, (.int 8204 234)), (8205, (.int 8205 235)), (65034, (.int 65034 253)), (65035, (.int 65035 254)), (65036, (.int 65036 255)), (65037, (.int 65037 256)), (65038, (.int 65038 257)), (65039, (.int 65039 258)), (173, (.int 173 227)), (847, (.int 847 228)), (8288, (.int 8288 236)), (65279, (.int 65279 237))] 29 ⟨127, #[0, 1, 2, 3, 4, 5, 6, 7, 8, 9, 10, 11, 12, 13, 14, 15, 16, 17, 18, 19, 20, 21, 22, 45, 79, 96, 127], #[], 0, !(P.followText "set-order"), 2, true⟩), #[]⟩
noncomputable def o40 (P : Params) : Obj := ⟨(.type "list_iterator"), none, (.fields #[.none, (.int 27 0)]), #[]⟩
noncomputable def o41 (P : Params) : Obj := ⟨(.type "tuple"), none, (.seq #[] 0), #[]⟩
noncomputable def o42 (P : Params) : Obj := ⟨(.type "StopIteration"), none, (.fields #[(.ref 41), .none, .none, .none, (.bool false), .none]), #[]⟩
noncomputable def T2 (P : Params) : BT := (.node (boot_o_0 P) (.node (boot_o_1 P) (.node (o3v1 P) (.node (boot_o_7 P) (.node (o15 P) (.node (o31 P) .nil .nil) .nil) (.node (o23 P) (.node (o39 P) .nil .nil) .nil)) (.node (o11 P) (.node (o19 P) (.node (o35 P) .nil .nil) .nil) (.node (o27 P) .nil .nil))) (.node (boot_o_5 P) (.node (boot_o_9 P) (.node (o17 P) (.node (o33 P) .nil .nil) .nil) (.node (o25 P) (.node (o41 P) .nil .nil) .nil)) (.node (o13 P) (.node (o21 P) (.node (o37 P) .nil .nil) .nil) (.node (o29 P) .nil .nil)))) (.node (boot_o_2 P) (.node (boot_o_4 P) (.node (boot_o_8 P) (.node (o16 P) (.node (o32 P) .nil .nil) .nil) (.node (o24 P) (.node (o40 P) .nil .nil) .nil)) (.node (o12v1 P) (.node (o20 P) (.node (o36 P) .nil .nil) .nil) (.node (o28 P) .nil .nil))) (.node (boot_o_6 P) (.node (boot_o_10 P) (.node (o18 P) (.node (o34 P) .nil .nil) .nil) (.node (o26 P) (.node (o42 P) .nil .nil) .nil)) (.node (o14 P) (.node (o22 P) (.node (o38 P) .nil .nil) .nil) (.node (o30 P) .nil .nil)))))
noncomputable def o3v2 (P : Params) : Obj := ⟨(.type "dict"), none, (.dict #[⟨(PyData.keyHash P (Str.ofString "__name__")), (.str (Str.ofString "__name__") 165), (.str (Str.ofString "cpy313.stringprep") 225)⟩, ⟨(PyData.keyHash P (Str.ofString "__doc__")), (.str (Str.ofString "__doc__") 166), .none⟩, ⟨(PyData.keyHash P (Str.ofString "__package__")), (.str (Str.ofString "__package__") 167), .none⟩, ⟨(PyData.keyHash P (Str.ofString "__loader__")), (.str (Str.ofString "__loader__") 168), (.builtin "__main__.__loader__#opaque")⟩, ⟨(PyData.keyHash P (Str.ofString "__spec__")), (.str (Str.ofString "__spec__") 169), .none⟩, ⟨(PyData.keyHash P (Str.ofString "__annotations__")), (.str (Str.ofString "__annotations__") 170), (.ref 6)⟩, ⟨(PyData.keyHash P (Str.ofString "__builtins__")), (.str (Str.ofString "__builtins__") 171), (.ref 4)⟩, ⟨(PyData.keyHash P (Str.ofString "__file__")), (.str (Str.ofString "__file__") 173), (.str (Str.ofString "/claim/cut.py") 172)⟩, ⟨(PyData.keyHash P (Str.ofString "__cached__")), (.str (Str.ofString "__cached__") 174), .none⟩, ⟨(PyData.keyHash P (Str.ofString "compute_powers")), (.str (Str.ofString "compute_powers") 208), (.ref 22)⟩, ⟨(PyData.keyHash P (Str.ofString "bisect_left")), (.str (Str.ofString "bisect_left") 224), (.ref 31)⟩, ⟨(PyData.keyHash P (Str.ofString "b1_set")), (.str (Str.ofString "b1_set") 286), (.ref 39)⟩, ⟨(PyData.keyHash P (Str.ofString "in_table_b1")), (.str (Str.ofString "in_table_b1") 293), (.ref 49)⟩] 13), #[]⟩
noncomputable def o12v2 (P : Params) : Obj := ⟨.none, none, (.fields #[(.int 2 0), (.int 0 0), (.ref 21), (.int 44 0), (.int 0 0), (.ref 30), (.int 66 0), (.int 0 0), (.ref 48)]), #[]⟩
noncomputable def o43 (P : Params) : Obj := ⟨(.type "tuple"), none, (.seq #[] 0), #[]⟩
noncomputable def o44 (P : Params) : Obj := ⟨.none, none, (.fields #[]), #[]⟩
noncomputable def o45 (P : Params) : Obj := ⟨(.type "tuple"), none, (.seq #[(.str (Str.ofString "code") 290)] 0), #[]⟩
noncomputable def o46 (P : Params) : Obj := ⟨(.type "tuple"), none, (.seq #[] 0), #[]⟩
noncomputable def o47 (P : Params) : Obj := ⟨.none, none, (.func (fdat 6 (Str.ofString "in_table_b1") 0 .none .none .none .none none .none .none 0)), #[]⟩
noncomputable def o48 (P : Params) : Obj := ⟨(.type "code"), none, (.fields #[(.str (Str.ofString "in_table_b1") 287), (.str (Str.ofString "in_table_b1") 288), (.str (Str.ofString "/claim/cut.py") 289), (.int 66 0), (.int 1 0), (.int 0 0), (.int 0 0), (.int 3 0), (.ref 43), (.bool true), (.int 181 0), (.ref 44), .none, (.ref 45), (.ref 46), (.ref 47), (.int 291 0), (.int 66 0), (.str (Str.ofString "/claim/cut.py") 292)]), #[]⟩
noncomputable def o49 (P : Params) : Obj := ⟨(.type "function"), none, (.func (fdat 6 (Str.ofString "in_table_b1") 3 .none .none .none (.str (Str.ofString "cpy313.stringprep") 225) none (.ref 48) .none 0)), #[]⟩
noncomputable def T3 (P : Params) : BT := (.node (boot_o_0 P) (.node (boot_o_1 P) (.node (o3v2 P) (.node (boot_o_7 P) (.node (o15 P) (.node (o31 P) .nil .nil) (.node (o47 P) .nil .nil)) (.node (o23 P) (.node (o39 P) .nil .nil) .nil)) (.node (o11 P) (.node (o19 P) (.node (o35 P) .nil .nil) .nil) (.node (o27 P) (.node (o43 P) .nil .nil) .nil))) (.node (boot_o_5 P) (.node (boot_o_9 P) (.node (o17 P) (.node (o33 P) .nil .nil) (.node (o49 P) .nil .nil)) (.node (o25 P) (.node (o41 P) .nil .nil) .nil)) (.node (o13 P) (.node (o21 P) (.node (o37 P) .nil .nil) .nil) (.node (o29 P) (.node (o45 P) .nil .nil) .nil)))) (.node (boot_o_2 P) (.node (boot_o_4 P) (.node (boot_o_8 P) (.node (o16 P) (.node (o32 P) .nil .nil) (.node (o48 P) .nil .nil)) (.node (o24 P) (.node (o40 P) .nil .nil) .nil)) (.node (o12v2 P) (.node (o20 P) (.node (o36 P) .nil .nil) .nil) (.node (o28 P) (.node (o44 P) .nil .nil) .nil))) (.node (boot_o_6 P) (.node (boot_o_10 P) (.node (o18 P) (.node (o34 P) .nil .nil) .nil) (.node (o26 P) (.node (o42 P) .nil .nil) .nil)) (.node (o14 P) (.node (o22 P) (.node (o38 P) .nil .nil) .nil) (.node (o30 P) (.node (o46 P) .nil .nil) .nil)))))
noncomputable def o3v3 (P : Params) : Obj := ⟨(.type "dict"), none, (.dict #[⟨(PyData.keyHash P (Str.ofString "__name__")), (.str (Str.ofString "__name__") 165), (.str (Str.ofString "cpy313.stringprep") 225)⟩, ⟨(PyData.keyHash P (Str.ofString "__doc__")), (.str (Str.ofString "__doc__") 166), .none⟩, ⟨(PyData.keyHash P (Str.ofString "__package__")), (.str (Str.ofString "__package__") 167), .none⟩, ⟨(PyData.keyHash P (Str.ofString "__loader__")), (.str (Str.ofString "__loader__") 168), (.builtin "__main__.__loader__#opaque")⟩, ⟨(PyData.keyHash P (Str.ofString "__spec__")), (.str (Str.ofString "__spec__") 169), .none⟩, ⟨(PyData.keyHash P (Str.ofString "__annotations__")), (.str (Str.ofString "__annotations__") 170), (.ref 6)⟩, ⟨(PyData.keyHash P (Str.ofString "__builtins__")), (.str (Str.ofString "__builtins__") 171), (.ref 4)⟩, ⟨(PyData.keyHash P (Str.ofString "__file__")), (.str (Str.ofString "__file__") 173), (.str (Str.ofString "/claim/cut.py") 172)⟩, ⟨(PyData.keyHash P (Str.ofString "__cached__")), (.str (Str.ofString "__cached__") 174), .none⟩, ⟨(PyData.keyHash P (Str.ofString "compute_powers")), (.str (Str.ofString "compute_powers") 208), (.ref 22)⟩, ⟨(PyData.keyHash P (Str.ofString "bisect_left")), (.str (Str.ofString "bisect_left") 224), (.ref 31)⟩, ⟨(PyData.keyHash P (Str.ofString "b1_set")), (.str (Str.ofString "b1_set") 286), (.ref 39)⟩, ⟨(PyData.keyHash P (Str.ofString "in_table_b1")), (.str (Str.ofString "in_table_b1") 293), (.ref 49)⟩, ⟨(PyData.keyHash P (Str.ofString "b3_exceptions")), (.str (Str.ofString "b3_exceptions") 2244), (.ref 50)⟩] 14), #[]⟩
noncomputable def T4 (P : Params) : BT := (.node (boot_o_0 P) (.node (boot_o_1 P) (.node (o3v3 P) (.node (boot_o_7 P) (.node (o15 P) (.node (o31 P) (.node (b3o 13) .nil .nil) .nil) (.node (o47 P) (.node (b3o 29) .nil .nil) .nil)) (.node (o23 P) (.node (o39 P) (.node (b3o 21) .nil .nil) .nil) (.node (b3o 5) (.node (b3o 37) .nil .nil) .nil))) (.node (o11 P) (.node (o19 P) (.node (o35 P) (.node (b3o 17) .nil .nil) .nil) (.node (b3o 1) (.node (b3o 33) .nil .nil) .nil)) (.node (o27 P) (.node (o43 P) (.node (b3o 25) .nil .nil) .nil) (.node (b3o 9) .nil .nil)))) (.node (boot_o_5 P) (.node (boot_o_9 P) (.node (o17 P) (.node (o33 P) (.node (b3o 15) .nil .nil) .nil) (.node (o49 P) (.node (b3o 31) .nil .nil) .nil)) (.node (o25 P) (.node (o41 P) (.node (b3o 23) .nil .nil) .nil) (.node (b3o 7) .nil .nil))) (.node (o13 P) (.node (o21 P) (.node (o37 P) (.node (b3o 19) .nil .nil) .nil) (.node (b3o 3) (.node (b3o 35) .nil .nil) .nil)) (.node (o29 P) (.node (o45 P) (.node (b3o 27) .nil .nil) .nil) (.node (b3o 11) .nil .nil))))) (.node (boot_o_2 P) (.node (boot_o_4 P) (.node (boot_o_8 P) (.node (o16 P) (.node (o32 P) (.node (b3o 14) .nil .nil) .nil) (.node (o48 P) (.node (b3o 30) .nil .nil) .nil)) (.node (o24 P) (.node (o40 P) (.node (b3o 22) .nil .nil) .nil) (.node (b3o 6) (.node (b3o 38) .nil .nil) .nil))) (.node (o12v2 P) (.node (o20 P) (.node (o36 P) (.node (b3o 18) .nil .nil) .nil) (.node (b3o 2) (.node (b3o 34) .nil .nil) .nil)) (.node (o28 P) (.node (o44 P) (.node (b3o 26) .nil .nil) .nil) (.node (b3o 10) .nil .nil)))) (.node (boot_o_6 P) (.node (boot_o_10 P) (.node (o18 P) (.node (o34 P) (.node (b3o 16) .nil .nil) .nil) (.node (b3o 0) (.node (b3o 32) .nil .nil) .nil)) (.node (o26 P) (.node (o42 P) (.node (b3o 24) .nil .nil) .nil) (.node (b3o 8) .nil .nil))) (.node (o14 P) (.node (o22 P) (.node (o38 P) (.node (b3o 20) .nil .nil) .nil) (.node (b3o 4) (.node (b3o 36) .nil .nil) .nil)) (.node (o30 P) (.node (o46 P) (.node (b3o 28) .nil .nil) .nil) (.node (b3o 12) .nil .nil))))))
noncomputable def T4p (P : Params) : BT := (.node (boot_o_0 P) (.node (boot_o_1 P) (.node (o3v2 P) (.node (boot_o_7 P) (.node (o15 P) (.node (o31 P) (.node (b3o 13) .nil .nil) .nil) (.node (o47 P) (.node (b3o 29) .nil .nil) .nil)) (.node (o23 P) (.node (o39 P) (.node (b3o 21) .nil .nil) .nil) (.node (b3o 5) (.node (b3o 37) .nil .nil) .nil))) (.node (o11 P) (.node (o19 P) (.node (o35 P) (.node (b3o 17) .nil .nil) .nil) (.node (b3o 1) (.node (b3o 33) .nil .nil) .nil)) (.node (o27 P) (.node (o43 P) (.node (b3o 25) .nil .nil) .nil) (.node (b3o 9) .nil .nil)))) (.node (boot_o_5 P) (.node (boot_o_9 P) (.node (o17 P) (.node (o33 P) (.node (b3o 15) .nil .nil) .nil) (.node (o49 P) (.node (b3o 31) .nil .nil) .nil)) (.node (o25 P) (.node (o41 P) (.node (b3o 23) .nil .nil) .nil) (.node (b3o 7) .nil .nil))) (.node (o13 P) (.node (o21 P) (.node (o37 P) (.node (b3o 19) .nil .nil) .nil) (.node (b3o 3) (.node (b3o 35) .nil .nil) .nil)) (.node (o29 P) (.node (o45 P) (.node (b3o 27) .nil .nil) .nil) (.node (b3o 11) .nil .nil))))) (.node (boot_o_2 P) (.node (boot_o_4 P) (.node (boot_o_8 P) (.node (o16 P) (.node (o32 P) (.node (b3o 14) .nil .nil) .nil) (.node (o48 P) (.node (b3o 30) .nil .nil) .nil)) (.node (o24 P) (.node (o40 P) (.node (b3o 22) .nil .nil) .nil) (.node (b3o 6) (.node (b3o 38) .nil .nil) .nil))) (.node (o12v2 P) (.node (o20 P) (.node (o36 P) (.node (b3o 18) .nil .nil) .nil) (.node (b3o 2) (.node (b3o 34) .nil .nil) .nil)) (.node (o28 P) (.node (o44 P) (.node (b3o 26) .nil .nil) .nil) (.node (b3o 10) .nil .nil)))) (.node (boot_o_6 P) (.node (boot_o_10 P) (.node (o18 P) (.node (o34 P) (.node (b3o 16) .nil .nil) .nil) (.node (b3o 0) (.node (b3o 32) .nil .nil) .nil)) (.node (o26 P) (.node (o42 P) (.node (b3o 24) .nil .nil) .nil) (.node (b3o 8) .nil .nil))) (.node (o14 P) (.node (o22 P) (.node (o38 P) (.node (b3o 20) .nil .nil) .nil) (.node (b3o 4) (.node (b3o 36) .nil .nil) .nil)) (.node (o30 P) (.node (o46 P) (.node (b3o 28) .nil .nil) .nil) (.node (b3o 12) .nil .nil))))))
noncomputable def o3v4 (P : Params) : Obj := ⟨(.type "dict"), none, (.dict #[⟨(PyData.keyHash P (Str.ofString "__name__")), (.str (Str.ofString "__name__") 165), (.str (Str.ofString "law_sn0064_01") 2289)⟩, ⟨(PyData.keyHash P (Str.ofString "__doc__")), (.str (Str.ofString "__doc__") 166), .none⟩, ⟨(PyData.keyHash P (Str.ofString "__package__")), (.str (Str.ofString "__package__") 167), .none⟩, ⟨(PyData.keyHash P (Str.ofString "__loader__")), (.str (Str.ofString "__loader__") 168), (.builtin "__main__.__loader__#opaque")⟩, ⟨(PyData.keyHash P (Str.ofString "__spec__")), (.str (Str.ofString "__spec__") 169), .none⟩, ⟨(PyData.keyHash P (Str.ofString "__annotations__")), (.str (Str.ofString "__annotations__") 170), (.ref 6)⟩, ⟨(PyData.keyHash P (Str.ofString "__builtins__")), (.str (Str.ofString "__builtins__") 171), (.ref 4)⟩, ⟨(PyData.keyHash P (Str.ofString "__file__")), (.str (Str.ofString "__file__") 173), (.str (Str.ofString "/claim/cut.py") 172)⟩, ⟨(PyData.keyHash P (Str.ofString "__cached__")), (.str (Str.ofString "__cached__") 174), .none⟩, ⟨(PyData.keyHash P (Str.ofString "compute_powers")), (.str (Str.ofString "compute_powers") 208), (.ref 22)⟩, ⟨(PyData.keyHash P (Str.ofString "bisect_left")), (.str (Str.ofString "bisect_left") 224), (.ref 31)⟩, ⟨(PyData.keyHash P (Str.ofString "b1_set")), (.str (Str.ofString "b1_set") 286), (.ref 39)⟩, ⟨(PyData.keyHash P (Str.ofString "in_table_b1")), (.str (Str.ofString "in_table_b1") 293), (.ref 49)⟩, ⟨(PyData.keyHash P (Str.ofString "b3_exceptions")), (.str (Str.ofString "b3_exceptions") 2244), (.ref 50)⟩, ⟨(PyData.keyHash P (Str.ofString "map_table_b3")), (.str (Str.ofString "map_table_b3") 2252), (.ref 95)⟩, ⟨(PyData.keyHash P (Str.ofString "_MAX_STRING_SIZE")), (.str (Str.ofString "_MAX_STRING_SIZE") 2256), (.int 40 2255)⟩, ⟨(PyData.keyHash P (Str.ofString "_MOVE_COST")), (.str (Str.ofString "_MOVE_COST") 2258), (.int 2 2257)⟩, ⟨(PyData.keyHash P (Str.ofString "_CASE_COST")), (.str (Str.ofString "_CASE_COST") 2260), (.int 1 2259)⟩, ⟨(PyData.keyHash P (Str.ofString "_substitution_cost")), (.str (Str.ofString "_substitution_cost") 2268), (.ref 102)⟩, ⟨(PyData.keyHash P (Str.ofString "_levenshtein_distance")), (.str (Str.ofString "_levenshtein_distance") 2288), (.ref 109)⟩, ⟨(PyData.keyHash P (Str.ofString "_law_prepared")), (.str (Str.ofString "_law_prepared") 2296), (.ref 114)⟩, ⟨(PyData.keyHash P (Str.ofString "_law_typed")), (.str (Str.ofString "_law_typed") 2308), (.ref 121)⟩, ⟨(PyData.keyHash P (Str.ofString "_law_ends")), (.str (Str.ofString "_law_ends") 2314), (.ref 126)⟩, ⟨(PyData.keyHash P (Str.ofString "_law_power")), (.str (Str.ofString "_law_power") 2324), (.ref 133)⟩, ⟨(PyData.keyHash P (Str.ofString "_law_table")), (.str (Str.ofString "_law_table") 2336), (.ref 140)⟩, ⟨(PyData.keyHash P (Str.ofString "_law_due")), (.str (Str.ofString "_law_due") 2350), (.ref 147)⟩, ⟨(PyData.keyHash P (Str.ofString "law")), (.str (Str.ofString "law") 2356), (.ref 152)⟩] 27), #[]⟩
noncomputable def o12v3 (P : Params) : Obj := ⟨.none, none, (.fields #[(.int 2 0), (.int 0 0), (.ref 21), (.int 44 0), (.int 0 0), (.ref 30), (.int 66 0), (.int 0 0), (.ref 48), (.int 69 0), (.int 0 0), (.ref 94), (.int 78 0), (.int 0 0), (.ref 101), (.int 84 0), (.int 0 0), (.ref 108), (.int 123 0), (.int 0 0), (.ref 113), (.int 125 0), (.int 0 0), (.ref 120), (.int 136 0), (.int 0 0), (.ref 125), (.int 158 0), (.int 0 0), (.ref 132), (.int 163 0), (.int 0 0), (.ref 139), (.int 170 0), (.int 0 0), (.ref 146), (.int 180 0), (.int 0 0), (.ref 151)]), #[]⟩
noncomputable def o89 (P : Params) : Obj := ⟨(.type "tuple"), none, (.seq #[] 0), #[]⟩
noncomputable def o90 (P : Params) : Obj := ⟨.none, none, (.fields #[]), #[]⟩
noncomputable def o91 (P : Params) : Obj := ⟨(.type "tuple"), none, (.seq #[(.str (Str.ofString "code") 2248), (.str (Str.ofString "r") 2249)] 0), #[]⟩
noncomputable def o92 (P : Params) : Obj := ⟨(.type "tuple"), none, (.seq #[] 0), #[]⟩
noncomputable def o93 (P : Params) : Obj := ⟨.none, none, (.func (fdat 8 (Str.ofString "map_table_b3") 0 .none .none .none .none none .none .none 0)), #[]⟩
noncomputable def o94 (P : Params) : Obj := ⟨(.type "code"), none, (.fields #[(.str (Str.ofString "map_table_b3") 2245), (.str (Str.ofString "map_table_b3") 2246), (.str (Str.ofString "/claim/cut.py") 2247), (.int 69 0), (.int 1 0), (.int 0 0), (.int 0 0), (.int 3 0), (.ref 89), (.bool true), (.int 181 0), (.ref 90), .none, (.ref 91), (.ref 92), (.ref 93), (.int 2250 0), (.int 69 0), (.str (Str.ofString "/claim/cut.py") 2251)]), #[]⟩
noncomputable def o95 (P : Params) : Obj := ⟨(.type "function"), none, (.func (fdat 8 (Str.ofString "map_table_b3") 3 .none .none .none (.str (Str.ofString "cpy313.stringprep") 225) none (.ref 94) .none 0)), #[]⟩
noncomputable def o96 (P : Params) : Obj := ⟨(.type "tuple"), none, (.seq #[] 0), #[]⟩
noncomputable def o97 (P : Params) : Obj := ⟨.none, none, (.fields #[]), #[]⟩
noncomputable def o98 (P : Params) : Obj := ⟨(.type "tuple"), none, (.seq #[(.str (Str.ofString "ch_a") 2264), (.str (Str.ofString "ch_b") 2265)] 0), #[]⟩
noncomputable def o99 (P : Params) : Obj := ⟨(.type "tuple"), none, (.seq #[] 0), #[]⟩
noncomputable def o100 (P : Params) : Obj := ⟨.none, none, (.func (fdat 13 (Str.ofString "_substitution_cost") 0 .none .none .none .none none .none .none 0)), #[]⟩
noncomputable def o101 (P : Params) : Obj := ⟨(.type "code"), none, (.fields #[(.str (Str.ofString "_substitution_cost") 2261), (.str (Str.ofString "_substitution_cost") 2262), (.str (Str.ofString "/claim/cut.py") 2263), (.int 78 0), (.int 2 0), (.int 0 0), (.int 0 0), (.int 3 0), (.ref 96), (.bool true), (.int 181 0), (.ref 97), .none, (.ref 98), (.ref 99), (.ref 100), (.int 2266 0), (.int 78 0), (.str (Str.ofString "/claim/cut.py") 2267)]), #[]⟩
noncomputable def o102 (P : Params) : Obj := ⟨(.type "function"), none, (.func (fdat 13 (Str.ofString "_substitution_cost") 3 .none .none .none (.str (Str.ofString "cpy313.traceback") 2253) none (.ref 101) .none 0)), #[]⟩
noncomputable def o103 (P : Params) : Obj := ⟨(.type "tuple"), none, (.seq #[] 0), #[]⟩
noncomputable def o104 (P : Params) : Obj := ⟨.none, none, (.fields #[]), #[]⟩
noncomputable def o105 (P : Params) : Obj := ⟨(.type "tuple"), none, (.seq #[(.str (Str.ofString "a") 2272), (.str (Str.ofString "b") 2273), (.str (Str.ofString "max_cost") 2274), (.str (Str.ofString "pre") 2275), (.str (Str.ofString "post") 2276), (.str (Str.ofString "row") 2277), (.str (Str.ofString "result") 2278), (.str (Str.ofString "bindex") 2279), (.str (Str.ofString "bchar") 2280), (.str (Str.ofString "distance") 2281), (.str (Str.ofString "minimum") 2282), (.str (Str.ofString "index") 2283), (.str (Str.ofString "substitute") 2284), (.str (Str.ofString "insert_delete") 2285)] 0), #[]⟩
noncomputable def o106 (P : Params) : Obj := ⟨(.type "tuple"), none, (.seq #[] 0), #[]⟩
noncomputable def o107 (P : Params) : Obj := ⟨.none, none, (.func (fdat 14 (Str.ofString "_levenshtein_distance") 0 .none .none .none .none none .none .none 0)), #[]⟩
noncomputable def o108 (P : Params) : Obj := ⟨(.type "code"), none, (.fields #[(.str (Str.ofString "_levenshtein_distance") 2269), (.str (Str.ofString "_levenshtein_distance") 2270), (.str (Str.ofString "/claim/cut.py") 2271), (.int 84 0), (.int 3 0), (.int 0 0), (.int 0 0), (.int 3 0), (.ref 103), (.bool true), (.int 181 0), (.ref 104), .none, (.ref 105), (.ref 106), (.ref 107), (.int 2286 0), (.int 84 0), (.str (Str.ofString "/claim/cut.py") 2287)]), #[]⟩
noncomputable def o109 (P : Params) : Obj := ⟨(.type "function"), none, (.func (fdat 14 (Str.ofString "_levenshtein_distance") 3 .none .none .none (.str (Str.ofString "cpy313.traceback") 2253) none (.ref 108) .none 0)), #[]⟩
noncomputable def o110 (P : Params) : Obj := ⟨(.type "tuple"), none, (.seq #[] 0), #[]⟩
noncomputable def o111 (P : Params) : Obj := ⟨.none, none, (.fields #[]), #[]⟩
noncomputable def o112 (P : Params) : Obj := ⟨.none, none, (.func (fdat 16 (Str.ofString "_law_prepared") 0 .none .none .none .none none .none .none 0)), #[]⟩
noncomputable def o113 (P : Params) : Obj := ⟨(.type "code"), none, (.fields #[(.str (Str.ofString "_law_prepared") 2291), (.str (Str.ofString "_law_prepared") 2292), (.str (Str.ofString "/claim/cut.py") 2293), (.int 123 0), (.int 1 0), (.int 0 0), (.int 0 0), (.int 3 0), (.ref 110), (.bool true), (.int 181 0), (.ref 111), .none, .none, .none, (.ref 112), (.int 2294 0), (.int 123 0), (.str (Str.ofString "/claim/cut.py") 2295)]), #[]⟩
noncomputable def o114 (P : Params) : Obj := ⟨(.type "function"), none, (.func (fdat 16 (Str.ofString "_law_prepared") 3 .none .none .none (.str (Str.ofString "law_sn0064_01") 2289) none (.ref 113) .none 0)), #[]⟩
noncomputable def o115 (P : Params) : Obj := ⟨(.type "tuple"), none, (.seq #[] 0), #[]⟩
noncomputable def o116 (P : Params) : Obj := ⟨.none, none, (.fields #[]), #[]⟩
noncomputable def o117 (P : Params) : Obj := ⟨(.type "tuple"), none, (.seq #[(.str (Str.ofString "letter") 2300), (.str (Str.ofString "count") 2301), (.str (Str.ofString "turn") 2302), (.str (Str.ofString "forms") 2303), (.str (Str.ofString "typed") 2304), (.str (Str.ofString "pick") 2305)] 0), #[]⟩
noncomputable def o118 (P : Params) : Obj := ⟨(.type "tuple"), none, (.seq #[] 0), #[]⟩
noncomputable def o119 (P : Params) : Obj := ⟨.none, none, (.func (fdat 17 (Str.ofString "_law_typed") 0 .none .none .none .none none .none .none 0)), #[]⟩
noncomputable def o120 (P : Params) : Obj := ⟨(.type "code"), none, (.fields #[(.str (Str.ofString "_law_typed") 2297), (.str (Str.ofString "_law_typed") 2298), (.str (Str.ofString "/claim/cut.py") 2299), (.int 125 0), (.int 3 0), (.int 0 0), (.int 0 0), (.int 3 0), (.ref 115), (.bool true), (.int 181 0), (.ref 116), .none, (.ref 117), (.ref 118), (.ref 119), (.int 2306 0), (.int 125 0), (.str (Str.ofString "/claim/cut.py") 2307)]), #[]⟩
noncomputable def o121 (P : Params) : Obj := ⟨(.type "function"), none, (.func (fdat 17 (Str.ofString "_law_typed") 3 .none .none .none (.str (Str.ofString "law_sn0064_01") 2289) none (.ref 120) .none 0)), #[]⟩
noncomputable def o122 (P : Params) : Obj := ⟨(.type "tuple"), none, (.seq #[] 0), #[]⟩
noncomputable def o123 (P : Params) : Obj := ⟨.none, none, (.fields #[]), #[]⟩
noncomputable def o124 (P : Params) : Obj := ⟨.none, none, (.func (fdat 18 (Str.ofString "_law_ends") 0 .none .none .none .none none .none .none 0)), #[]⟩
noncomputable def o125 (P : Params) : Obj := ⟨(.type "code"), none, (.fields #[(.str (Str.ofString "_law_ends") 2309), (.str (Str.ofString "_law_ends") 2310), (.str (Str.ofString "/claim/cut.py") 2311), (.int 136 0), (.int 3 0), (.int 0 0), (.int 0 0), (.int 3 0), (.ref 122), (.bool true), (.int 181 0), (.ref 123), .none, .none, .none, (.ref 124), (.int 2312 0), (.int 136 0), (.str (Str.ofString "/claim/cut.py") 2313)]), #[]⟩
noncomputable def o126 (P : Params) : Obj := ⟨(.type "function"), none, (.func (fdat 18 (Str.ofString "_law_ends") 3 .none .none .none (.str (Str.ofString "law_sn0064_01") 2289) none (.ref 125) .none 0)), #[]⟩
noncomputable def o127 (P : Params) : Obj := ⟨(.type "tuple"), none, (.seq #[] 0), #[]⟩
noncomputable def o128 (P : Params) : Obj := ⟨.none, none, (.fields #[]), #[]⟩
noncomputable def o129 (P : Params) : Obj := ⟨(.type "tuple"), none, (.seq #[(.str (Str.ofString "base") 2318), (.str (Str.ofString "count") 2319), (.str (Str.ofString "made") 2320), (.str (Str.ofString "_") 2321)] 0), #[]⟩
noncomputable def o130 (P : Params) : Obj := ⟨(.type "tuple"), none, (.seq #[] 0), #[]⟩
noncomputable def o131 (P : Params) : Obj := ⟨.none, none, (.func (fdat 19 (Str.ofString "_law_power") 0 .none .none .none .none none .none .none 0)), #[]⟩
noncomputable def o132 (P : Params) : Obj := ⟨(.type "code"), none, (.fields #[(.str (Str.ofString "_law_power") 2315), (.str (Str.ofString "_law_power") 2316), (.str (Str.ofString "/claim/cut.py") 2317), (.int 158 0), (.int 2 0), (.int 0 0), (.int 0 0), (.int 3 0), (.ref 127), (.bool true), (.int 181 0), (.ref 128), .none, (.ref 129), (.ref 130), (.ref 131), (.int 2322 0), (.int 158 0), (.str (Str.ofString "/claim/cut.py") 2323)]), #[]⟩
noncomputable def o133 (P : Params) : Obj := ⟨(.type "function"), none, (.func (fdat 19 (Str.ofString "_law_power") 3 .none .none .none (.str (Str.ofString "law_sn0064_01") 2289) none (.ref 132) .none 0)), #[]⟩
noncomputable def o134 (P : Params) : Obj := ⟨(.type "tuple"), none, (.seq #[] 0), #[]⟩
noncomputable def o135 (P : Params) : Obj := ⟨.none, none, (.fields #[]), #[]⟩
noncomputable def o136 (P : Params) : Obj := ⟨(.type "tuple"), none, (.seq #[(.str (Str.ofString "width") 2328), (.str (Str.ofString "base") 2329), (.str (Str.ofString "bound") 2330), (.str (Str.ofString "due") 2331), (.str (Str.ofString "k") 2332), (.str (Str.ofString "part") 2333)] 0), #[]⟩
noncomputable def o137 (P : Params) : Obj := ⟨(.type "tuple"), none, (.seq #[] 0), #[]⟩
noncomputable def o138 (P : Params) : Obj := ⟨.none, none, (.func (fdat 20 (Str.ofString "_law_table") 0 .none .none .none .none none .none .none 0)), #[]⟩
noncomputable def o139 (P : Params) : Obj := ⟨(.type "code"), none, (.fields #[(.str (Str.ofString "_law_table") 2325), (.str (Str.ofString "_law_table") 2326), (.str (Str.ofString "/claim/cut.py") 2327), (.int 163 0), (.int 3 0), (.int 0 0), (.int 0 0), (.int 3 0), (.ref 134), (.bool true), (.int 181 0), (.ref 135), .none, (.ref 136), (.ref 137), (.ref 138), (.int 2334 0), (.int 163 0), (.str (Str.ofString "/claim/cut.py") 2335)]), #[]⟩
noncomputable def o140 (P : Params) : Obj := ⟨(.type "function"), none, (.func (fdat 20 (Str.ofString "_law_table") 3 .none .none .none (.str (Str.ofString "law_sn0064_01") 2289) none (.ref 139) .none 0)), #[]⟩
noncomputable def o141 (P : Params) : Obj := ⟨(.type "tuple"), none, (.seq #[] 0), #[]⟩
noncomputable def o142 (P : Params) : Obj := ⟨.none, none, (.fields #[]), #[]⟩
noncomputable def o143 (P : Params) : Obj := ⟨(.type "tuple"), none, (.seq #[(.str (Str.ofString "number") 2340), (.str (Str.ofString "grow") 2341), (.str (Str.ofString "k") 2342), (.str (Str.ofString "choice") 2343), (.str (Str.ofString "due") 2344), (.str (Str.ofString "j") 2345), (.str (Str.ofString "width") 2346), (.str (Str.ofString "table") 2347)] 0), #[]⟩
noncomputable def o144 (P : Params) : Obj := ⟨(.type "tuple"), none, (.seq #[] 0), #[]⟩
noncomputable def o145 (P : Params) : Obj := ⟨.none, none, (.func (fdat 21 (Str.ofString "_law_due") 0 .none .none .none .none none .none .none 0)), #[]⟩
noncomputable def o146 (P : Params) : Obj := ⟨(.type "code"), none, (.fields #[(.str (Str.ofString "_law_due") 2337), (.str (Str.ofString "_law_due") 2338), (.str (Str.ofString "/claim/cut.py") 2339), (.int 170 0), (.int 4 0), (.int 0 0), (.int 0 0), (.int 3 0), (.ref 141), (.bool true), (.int 181 0), (.ref 142), .none, (.ref 143), (.ref 144), (.ref 145), (.int 2348 0), (.int 170 0), (.str (Str.ofString "/claim/cut.py") 2349)]), #[]⟩
noncomputable def o147 (P : Params) : Obj := ⟨(.type "function"), none, (.func (fdat 21 (Str.ofString "_law_due") 3 .none .none .none (.str (Str.ofString "law_sn0064_01") 2289) none (.ref 146) .none 0)), #[]⟩
noncomputable def o148 (P : Params) : Obj := ⟨(.type "tuple"), none, (.seq #[] 0), #[]⟩
noncomputable def o149 (P : Params) : Obj := ⟨.none, none, (.fields #[]), #[]⟩
noncomputable def o150 (P : Params) : Obj := ⟨.none, none, (.func (fdat 22 (Str.ofString "law") 0 .none .none .none .none none .none .none 0)), #[]⟩
noncomputable def o151 (P : Params) : Obj := ⟨(.type "code"), none, (.fields #[(.str (Str.ofString "law") 2351), (.str (Str.ofString "law") 2352), (.str (Str.ofString "/claim/cut.py") 2353), (.int 180 0), (.int 1 0), (.int 0 0), (.int 0 0), (.int 3 0), (.ref 148), (.bool true), (.int 181 0), (.ref 149), .none, .none, .none, (.ref 150), (.int 2354 0), (.int 180 0), (.str (Str.ofString "/claim/cut.py") 2355)]), #[]⟩
noncomputable def o152 (P : Params) : Obj := ⟨(.type "function"), none, (.func (fdat 22 (Str.ofString "law") 3 .none .none .none (.str (Str.ofString "law_sn0064_01") 2289) none (.ref 151) .none 0)), #[]⟩
noncomputable def T5 (P : Params) : BT := (.node (boot_o_0 P) (.node (boot_o_1 P) (.node (o3v4 P) (.node (boot_o_7 P) (.node (o15 P) (.node (o31 P) (.node (b3o 13) (.node (o127 P) .nil .nil) .nil) (.node (o95 P) .nil .nil)) (.node (o47 P) (.node (b3o 29) (.node (o143 P) .nil .nil) .nil) (.node (o111 P) .nil .nil))) (.node (o23 P) (.node (o39 P) (.node (b3o 21) (.node (o135 P) .nil .nil) .nil) (.node (o103 P) .nil .nil)) (.node (b3o 5) (.node (b3o 37) (.node (o151 P) .nil .nil) .nil) (.node (o119 P) .nil .nil)))) (.node (o11 P) (.node (o19 P) (.node (o35 P) (.node (b3o 17) (.node (o131 P) .nil .nil) .nil) (.node (o99 P) .nil .nil)) (.node (b3o 1) (.node (b3o 33) (.node (o147 P) .nil .nil) .nil) (.node (o115 P) .nil .nil))) (.node (o27 P) (.node (o43 P) (.node (b3o 25) (.node (o139 P) .nil .nil) .nil) (.node (o107 P) .nil .nil)) (.node (b3o 9) (.node (o91 P) .nil .nil) (.node (o123 P) .nil .nil))))) (.node (boot_o_5 P) (.node (boot_o_9 P) (.node (o17 P) (.node (o33 P) (.node (b3o 15) (.node (o129 P) .nil .nil) .nil) (.node (o97 P) .nil .nil)) (.node (o49 P) (.node (b3o 31) (.node (o145 P) .nil .nil) .nil) (.node (o113 P) .nil .nil))) (.node (o25 P) (.node (o41 P) (.node (b3o 23) (.node (o137 P) .nil .nil) .nil) (.node (o105 P) .nil .nil)) (.node (b3o 7) (.node (o89 P) .nil .nil) (.node (o121 P) .nil .nil)))) (.node (o13 P) (.node (o21 P) (.node (o37 P) (.node (b3o 19) (.node (o133 P) .nil .nil) .nil) (.node (o101 P) .nil .nil)) (.node (b3o 3) (.node (b3o 35) (.node (o149 P) .nil .nil) .nil) (.node (o117 P) .nil .nil))) (.node (o29 P) (.node (o45 P) (.node (b3o 27) (.node (o141 P) .nil .nil) .nil) (.node (o109 P) .nil .nil)) (.node (b3o 11) (.node (o93 P) .nil .nil) (.node (o125 P) .nil .nil)))))) (.node (boot_o_2 P) (.node (boot_o_4 P) (.node (boot_o_8 P) (.node (o16 P) (.node (o32 P) (.node (b3o 14) (.node (o128 P) .nil .nil) .nil) (.node (o96 P) .nil .nil)) (.node (o48 P) (.node (b3o 30) (.node (o144 P) .nil .nil) .nil) (.node (o112 P) .nil .nil))) (.node (o24 P) (.node (o40 P) (.node (b3o 22) (.node (o136 P) .nil .nil) .nil) (.node (o104 P) .nil .nil)) (.node (b3o 6) (.node (b3o 38) (.node (o152 P) .nil .nil) .nil) (.node (o120 P) .nil .nil)))) (.node (o12v3 P) (.node (o20 P) (.node (o36 P) (.node (b3o 18) (.node (o132 P) .nil .nil) .nil) (.node (o100 P) .nil .nil)) (.node (b3o 2) (.node (b3o 34) (.node (o148 P) .nil .nil) .nil) (.node (o116 P) .nil .nil))) (.node (o28 P) (.node (o44 P) (.node (b3o 26) (.node (o140 P) .nil .nil) .nil) (.node (o108 P) .nil .nil)) (.node (b3o 10) (.node (o92 P) .nil .nil) (.node (o124 P) .nil .nil))))) (.node (boot_o_6 P) (.node (boot_o_10 P) (.node (o18 P) (.node (o34 P) (.node (b3o 16) (.node (o130 P) .nil .nil) .nil) (.node (o98 P) .nil .nil)) (.node (b3o 0) (.node (b3o 32) (.node (o146 P) .nil .nil) .nil) (.node (o114 P) .nil .nil))) (.node (o26 P) (.node (o42 P) (.node (b3o 24) (.node (o138 P) .nil .nil) .nil) (.node (o106 P) .nil .nil)) (.node (b3o 8) (.node (o90 P) .nil .nil) (.node (o122 P) .nil .nil)))) (.node (o14 P) (.node (o22 P) (.node (o38 P) (.node (b3o 20) (.node (o134 P) .nil .nil) .nil) (.node (o102 P) .nil .nil)) (.node (b3o 4) (.node (b3o 36) (.node (o150 P) .nil .nil) .nil) (.node (o118 P) .nil .nil))) (.node (o30 P) (.node (o46 P) (.node (b3o 28) (.node (o142 P) .nil .nil) .nil) (.node (o110 P) .nil .nil)) (.node (b3o 12) (.node (o94 P) .nil .nil) (.node (o126 P) .nil .nil)))))))

end Mine
end
noncomputable section
open PySem PySem.W PySem.Calls PyProof.Rows
set_option linter.unusedVariables false
set_option maxRecDepth 100000
namespace Mine

noncomputable def allConst : List (Option Expr) → List Expr → Bool
  | some (.Constant (.int _) _ _) :: ks, .Constant (.str _) _ _ :: vs => allConst ks vs
  | [], [] => true
  | _, _ => false
theorem shape (env : Env) (pos : Pos) : ∀ (ks : List (Option Expr)) (vs : List Expr), allConst ks vs = true →
    (evalEachOpt ks env).zip ((evalEach vs env).map fun v => do let x ← v; standAt pos; pure x) = (prs pos (constPairs ks vs)).map sp
  | [], [] => fun _ => rfl
  | [], _ :: _ => fun h => by simp [allConst] at h
  | none :: _, _ => fun h => by simp [allConst] at h
  | some _ :: _, [] => fun h => by simp [allConst] at h
  | some k :: ks, v :: vs => fun h => by
    have e : (∃ n p q, k = .Constant (.int n) p q) ∧ (∃ x p q, v = .Constant (.str x) p q) ∧ allConst ks vs = true := by
      unfold allConst at h
      split at h
      · rename_i e1 e2
        cases e1
        cases e2
        exact ⟨⟨_, _, _, rfl⟩, ⟨_, _, _, rfl⟩, h⟩
      · rename_i e1 e2
        cases e1
      · cases h
    obtain ⟨⟨n, p, q, rfl⟩, ⟨x, p2, q2, rfl⟩, h⟩ := e
    exact congrArg (List.cons _) (shape env pos ks vs h)

noncomputable def incr : List Int → Bool
  | a :: b :: l => decide (a < b) && incr (b :: l)
  | _ => true
theorem incr_lt : ∀ (l : List Int) (a : Int), incr (a :: l) = true → ∀ x ∈ l, a < x
  | b :: l, a, h, x, hx => by
    simp only [incr, Bool.and_eq_true, decide_eq_true_eq] at h
    rcases List.mem_cons.mp hx with rfl | hx
    · exact h.1
    · exact Int.lt_trans h.1 (incr_lt l b h.2 x hx)
theorem incr_tail {a : Int} {l : List Int} (h : incr (a :: l) = true) : incr l = true := by
  cases l with
  | nil => rfl
  | cons b l => simp only [incr, Bool.and_eq_true] at h; exact h.2
theorem incr_nodup : ∀ (l : List Int), incr l = true → l.Nodup
  | [], _ => .nil
  | a :: l, h => List.nodup_cons.mpr ⟨fun m => Int.lt_irrefl _ (incr_lt l a h a m), incr_nodup l (incr_tail h)⟩

theorem kvs_const : allConst b3keys b3vals = true := by kernel_rfl!
theorem kvs_incr : incr (kvs.map (·.1)) = true := by kernel_rfl!
theorem kvs_small : (kvs.all fun kv => decide (0 ≤ kv.1) && decide (kv.1 < 2 ^ 31)) = true := by kernel_rfl!
theorem kvs_split : kvs0 ++ kvsC.flatten ++ kvsL = kvs := by kernel_rfl!
theorem kvs_lens : (kvs0.length, kvsC.map List.length, kvsL.length, lens kvsC) = (17, List.replicate 37 17, 4, 629) := by kernel_rfl!

theorem flat_map (pos : Pos) : ∀ l : List (List (Int × Str)), (l.flatMap fun c => (prs pos c).map sp) = (prs pos l.flatten).map sp
  | [] => rfl
  | c :: r => by rw [List.flatMap_cons, flat_map pos r, List.flatten_cons, prs, prs, prs, List.map_append, List.map_append]

theorem b3_shape : (evalEachOpt b3keys env0).zip ((evalEach b3vals env0).map fun v => do let x ← v; standAt b3pos; pure x) =
    (prs b3pos kvs0).map sp ++ ((kvsC.flatMap fun c => (prs b3pos c).map sp) ++ (prs b3pos kvsL).map sp) := by
  rw [shape env0 b3pos b3keys b3vals kvs_const, flat_map, ← List.map_append, ← List.map_append, prs, prs, prs, ← List.map_append, ← List.map_append, ← List.append_assoc, kvs_split]
  rfl

theorem b3_ev {w : World} {s : Shared} {q : Pos} {base : List Obj} {life : Life} (hb : base.length = 50) (hs : s.heap = hp base life []) (ht : s.toks = 294) :
    Ev pw w 11 ann0 cd0 (topFrame q0) (400 * 39 + 1) (eval (.Dict b3keys b3vals b3pos) env0) s q (.ref 50) { s with heap := hp base life b3objs, toks := 2244 } b3pos := by
  have e := kvs_lens
  simp only [Prod.mk.injEq] at e
  obtain ⟨l0, lC, lL, lN⟩ := e
  have hC : ∀ c ∈ kvsC, c.length = 17 := fun c hc => by
    have : c.length ∈ kvsC.map List.length := List.mem_map_of_mem hc
    rw [lC] at this
    exact (List.mem_replicate.mp this).2
  have lC2 : kvsC.length = 37 := by
    have := congrArg List.length lC
    rwa [List.length_map, List.length_replicate] at this
  have k := ev_display (p := pw) (w := w) (n₀ := 11) (ann := ann0) (C := cd0) (F := topFrame q0) (s := s) (q := b3pos) (pos := b3pos) kvs0 kvsC kvsL (by omega) (by omega) hs l0 hC (by intro z; rw [z] at lL; cases lL) (by omega) (by rw [lN]; decide)
    (fun kv h => by
      rw [kvs_split] at h
      have := List.all_eq_true.mp kvs_small kv h
      simp only [Bool.and_eq_true, decide_eq_true_eq] at this
      exact this) (by rw [kvs_split]; exact incr_nodup _ kvs_incr)
  rw [lN, lL, ht, lC2, hb] at k
  show Ev pw w 11 ann0 cd0 (topFrame q0) (400 * 39 + 1) (do standAt b3pos; dictDisplay ((evalEachOpt b3keys env0).zip ((evalEach b3vals env0).map fun v => do let x ← v; standAt b3pos; pure x))) s q _ _ _
  rw [b3_shape]
  exact Ev.as (Ev.bind Ev.standAt k) (by decide) rfl rfl

noncomputable def b3tgt : List Expr := match stm 7 with | .Assign ts _ _ => ts | _ => []
noncomputable def b3apos : Pos := match stm 7 with | .Assign _ _ q => q | _ => q0
theorem b3_stm : (body.drop 7).take 1 = [.Assign b3tgt (.Dict b3keys b3vals b3pos) b3apos] := by kernel_rfl!
theorem b3_tail (w : World) (os : OsState) (q : Pos) : EvN pw w 11 ann0 cd0 (topFrame q0) 7 (do assignStores env0 (.ref 50) (← swappedStores b3tgt (.Dict b3keys b3vals b3pos) env0) ((assignEach b3tgt env0).map (·.2)))
    (⟨T4p w.params, 89, {}, #[], {}, 2244, os⟩ : SharedT).abs q .next (⟨T4 w.params, 89, {}, #[], {}, 2245, os⟩ : SharedT).abs ⟨68, 0, 68, 13⟩ := by
  intro K H gd lv
  refine segGo_of ?_
  kernel_rfl!
end Mine
end
noncomputable section
open PySem PySem.W PySem.Calls PyProof.Rows
set_option linter.unusedVariables false
set_option maxRecDepth 100000
namespace Mine

noncomputable abbrev litA1 : { l : Arguments // fA 1 = l } := by
  refine ⟨?l, ?h⟩
  case h => conv => lhs; whnf
noncomputable abbrev litB1 : { l : List Stmt // fB 1 = l } := by
  refine ⟨?l, ?h⟩
  case h => conv => lhs; whnf
noncomputable abbrev litS1 : { l : Scope // fS 1 = l } := by
  refine ⟨?l, ?h⟩
  case h => conv => lhs; whnf
noncomputable abbrev litA3 : { l : Arguments // fA 3 = l } := by
  refine ⟨?l, ?h⟩
  case h => conv => lhs; whnf
noncomputable abbrev litB3 : { l : List Stmt // fB 3 = l } := by
  refine ⟨?l, ?h⟩
  case h => conv => lhs; whnf
noncomputable abbrev litS3 : { l : Scope // fS 3 = l } := by
  refine ⟨?l, ?h⟩
  case h => conv => lhs; whnf
noncomputable abbrev litA6 : { l : Arguments // fA 6 = l } := by
  refine ⟨?l, ?h⟩
  case h => conv => lhs; whnf
noncomputable abbrev litB6 : { l : List Stmt // fB 6 = l } := by
  refine ⟨?l, ?h⟩
  case h => conv => lhs; whnf
noncomputable abbrev litS6 : { l : Scope // fS 6 = l } := by
  refine ⟨?l, ?h⟩
  case h => conv => lhs; whnf
noncomputable abbrev litA8 : { l : Arguments // fA 8 = l } := by
  refine ⟨?l, ?h⟩
  case h => conv => lhs; whnf
noncomputable abbrev litB8 : { l : List Stmt // fB 8 = l } := by
  refine ⟨?l, ?h⟩
  case h => conv => lhs; whnf
noncomputable abbrev litS8 : { l : Scope // fS 8 = l } := by
  refine ⟨?l, ?h⟩
  case h => conv => lhs; whnf
noncomputable abbrev litA13 : { l : Arguments // fA 13 = l } := by
  refine ⟨?l, ?h⟩
  case h => conv => lhs; whnf
noncomputable abbrev litB13 : { l : List Stmt // fB 13 = l } := by
  refine ⟨?l, ?h⟩
  case h => conv => lhs; whnf
noncomputable abbrev litS13 : { l : Scope // fS 13 = l } := by
  refine ⟨?l, ?h⟩
  case h => conv => lhs; whnf
noncomputable abbrev litA14 : { l : Arguments // fA 14 = l } := by
  refine ⟨?l, ?h⟩
  case h => conv => lhs; whnf
noncomputable abbrev litB14 : { l : List Stmt // fB 14 = l } := by
  refine ⟨?l, ?h⟩
  case h => conv => lhs; whnf
noncomputable abbrev litS14 : { l : Scope // fS 14 = l } := by
  refine ⟨?l, ?h⟩
  case h => conv => lhs; whnf
noncomputable abbrev litA16 : { l : Arguments // fA 16 = l } := by
  refine ⟨?l, ?h⟩
  case h => conv => lhs; whnf
noncomputable abbrev litB16 : { l : List Stmt // fB 16 = l } := by
  refine ⟨?l, ?h⟩
  case h => conv => lhs; whnf
noncomputable abbrev litS16 : { l : Scope // fS 16 = l } := by
  refine ⟨?l, ?h⟩
  case h => conv => lhs; whnf
noncomputable abbrev litA17 : { l : Arguments // fA 17 = l } := by
  refine ⟨?l, ?h⟩
  case h => conv => lhs; whnf
noncomputable abbrev litB17 : { l : List Stmt // fB 17 = l } := by
  refine ⟨?l, ?h⟩
  case h => conv => lhs; whnf
noncomputable abbrev litS17 : { l : Scope // fS 17 = l } := by
  refine ⟨?l, ?h⟩
  case h => conv => lhs; whnf
noncomputable abbrev litA18 : { l : Arguments // fA 18 = l } := by
  refine ⟨?l, ?h⟩
  case h => conv => lhs; whnf
noncomputable abbrev litB18 : { l : List Stmt // fB 18 = l } := by
  refine ⟨?l, ?h⟩
  case h => conv => lhs; whnf
noncomputable abbrev litS18 : { l : Scope // fS 18 = l } := by
  refine ⟨?l, ?h⟩
  case h => conv => lhs; whnf
noncomputable abbrev litA19 : { l : Arguments // fA 19 = l } := by
  refine ⟨?l, ?h⟩
  case h => conv => lhs; whnf
noncomputable abbrev litB19 : { l : List Stmt // fB 19 = l } := by
  refine ⟨?l, ?h⟩
  case h => conv => lhs; whnf
noncomputable abbrev litS19 : { l : Scope // fS 19 = l } := by
  refine ⟨?l, ?h⟩
  case h => conv => lhs; whnf
noncomputable abbrev litA20 : { l : Arguments // fA 20 = l } := by
  refine ⟨?l, ?h⟩
  case h => conv => lhs; whnf
noncomputable abbrev litB20 : { l : List Stmt // fB 20 = l } := by
  refine ⟨?l, ?h⟩
  case h => conv => lhs; whnf
noncomputable abbrev litS20 : { l : Scope // fS 20 = l } := by
  refine ⟨?l, ?h⟩
  case h => conv => lhs; whnf
noncomputable abbrev litA21 : { l : Arguments // fA 21 = l } := by
  refine ⟨?l, ?h⟩
  case h => conv => lhs; whnf
noncomputable abbrev litB21 : { l : List Stmt // fB 21 = l } := by
  refine ⟨?l, ?h⟩
  case h => conv => lhs; whnf
noncomputable abbrev litS21 : { l : Scope // fS 21 = l } := by
  refine ⟨?l, ?h⟩
  case h => conv => lhs; whnf
noncomputable abbrev litA22 : { l : Arguments // fA 22 = l } := by
  refine ⟨?l, ?h⟩
  case h => conv => lhs; whnf
noncomputable abbrev litB22 : { l : List Stmt // fB 22 = l } := by
  refine ⟨?l, ?h⟩
  case h => conv => lhs; whnf
noncomputable abbrev litS22 : { l : Scope // fS 22 = l } := by
  refine ⟨?l, ?h⟩
  case h => conv => lhs; whnf
noncomputable def Kas : List Addr := [2, 3, 6, 15, 16, 18, 19, 21, 22, 23, 24, 25, 27, 28, 30, 31, 39, 43, 45, 46, 48, 49, 50, 89, 91, 92, 94, 95, 96, 98, 99, 101, 102, 103, 105, 106, 108, 109, 110, 113, 114, 115, 117, 118, 120, 121, 122, 125, 126, 127, 129, 130, 132, 133, 134, 136, 137, 139, 140, 141, 143, 144, 146, 147, 148, 151, 152]
noncomputable def Kd (P : Params) : Frag :=
  (nat_lit 2, ⟨.none, none, (.dict #[] 0), #[]⟩) ::
  (nat_lit 3, ⟨(.type "dict"), none, (.dict #[⟨(PyData.keyHash P (Str.ofString "__name__")), (.str (Str.ofString "__name__") 165), (.str (Str.ofString "law_sn0064_01") 2289)⟩, ⟨(PyData.keyHash P (Str.ofString "__doc__")), (.str (Str.ofString "__doc__") 166), .none⟩, ⟨(PyData.keyHash P (Str.ofString "__package__")), (.str (Str.ofString "__package__") 167), .none⟩, ⟨(PyData.keyHash P (Str.ofString "__loader__")), (.str (Str.ofString "__loader__") 168), (.builtin "__main__.__loader__#opaque")⟩, ⟨(PyData.keyHash P (Str.ofString "__spec__")), (.str (Str.ofString "__spec__") 169), .none⟩, ⟨(PyData.keyHash P (Str.ofString "__annotations__")), (.str (Str.ofString "__annotations__") 170), (.ref 6)⟩, ⟨(PyData.keyHash P (Str.ofString "__builtins__")), (.str (Str.ofString "__builtins__") 171), (.ref 4)⟩, ⟨(PyData.keyHash P (Str.ofString "__file__")), (.str (Str.ofString "__file__") 173), (.str (Str.ofString "/claim/cut.py") 172)⟩, ⟨(PyData.keyHash P (Str.ofString "__cached__")), (.str (Str.ofString "__cached__") 174), .none⟩, ⟨(PyData.keyHash P (Str.ofString "compute_powers")), (.str (Str.ofString "compute_powers") 208), (.ref 22)⟩, ⟨(PyData.keyHash P (Str.ofString "bisect_left")), (.str (Str.ofString "bisect_left") 224), (.ref 31)⟩, ⟨(PyData.keyHash P (Str.ofString "b1_set")), (.str (Str.ofString "b1_set") 286), (.ref 39)⟩, ⟨(PyData.keyHash P (Str.ofString "in_table_b1")), (.str (Str.ofString "in_table_b1") 293), (.ref 49)⟩, ⟨(PyData.keyHash P (Str.ofString "b3_exceptions")), (.str (Str.ofString "b3_exceptions") 2244), (.ref 50)⟩, ⟨(PyData.keyHash P (Str.ofString "map_table_b3")), (.str (Str.ofString "map_table_b3") 2252), (.ref 95)⟩, ⟨(PyData.keyHash P (Str.ofString "_MAX_STRING_SIZE")), (.str (Str.ofString "_MAX_STRING_SIZE") 2256), (.int 40 2255)⟩, ⟨(PyData.keyHash P (Str.ofString "_MOVE_COST")), (.str (Str.ofString "_MOVE_COST") 2258), (.int 2 2257)⟩, ⟨(PyData.keyHash P (Str.ofString "_CASE_COST")), (.str (Str.ofString "_CASE_COST") 2260), (.int 1 2259)⟩, ⟨(PyData.keyHash P (Str.ofString "_substitution_cost")), (.str (Str.ofString "_substitution_cost") 2268), (.ref 102)⟩, ⟨(PyData.keyHash P (Str.ofString "_levenshtein_distance")), (.str (Str.ofString "_levenshtein_distance") 2288), (.ref 109)⟩, ⟨(PyData.keyHash P (Str.ofString "_law_prepared")), (.str (Str.ofString "_law_prepared") 2296), (.ref 114)⟩, ⟨(PyData.keyHash P (Str.ofString "_law_typed")), (.str (Str.ofString "_law_typed") 2308), (.ref 121)⟩, ⟨(PyData.keyHash P (Str.ofString "_law_ends")), (.str (Str.ofString "_law_ends") 2314), (.ref 126)⟩, ⟨(PyData.keyHash P (Str.ofString "_law_power")), (.str (Str.ofString "_law_power") 2324), (.ref 133)⟩, ⟨(PyData.keyHash P (Str.ofString "_law_table")), (.str (Str.ofString "_law_table") 2336), (.ref 140)⟩, ⟨(PyData.keyHash P (Str.ofString "_law_due")), (.str (Str.ofString "_law_due") 2350), (.ref 147)⟩, ⟨(PyData.keyHash P (Str.ofString "law")), (.str (Str.ofString "law") 2356), (.ref 152)⟩] 27), #[]⟩) ::
  (nat_lit 6, ⟨(.type "dict"), none, (.dict #[] 0), #[]⟩) ::
  (nat_lit 15, ⟨(.type "tuple"), none, (.seq #[(.bool false)] 0), #[]⟩) ::
  (nat_lit 16, ⟨(.type "tuple"), none, (.seq #[] 0), #[]⟩) ::
  (nat_lit 18, ⟨(.type "tuple"), none, (.seq #[(.str (Str.ofString "w") 192), (.str (Str.ofString "base") 193), (.str (Str.ofString "more_than") 194), (.str (Str.ofString "show") 195), (.str (Str.ofString "seen") 196), (.str (Str.ofString "need") 197), (.str (Str.ofString "ws") 198), (.str (Str.ofString "lo") 199), (.str (Str.ofString "d") 200), (.str (Str.ofString "it") 201), (.str (Str.ofString "first") 202), (.str (Str.ofString "this") 203), (.str (Str.ofString "hi") 204), (.str (Str.ofString "sq") 205)] 0), #[]⟩) ::
  (nat_lit 19, ⟨(.type "tuple"), none, (.seq #[] 0), #[]⟩) ::
  (nat_lit 21, ⟨(.type "code"), none, (.fields #[(.str (Str.ofString "compute_powers") 189), (.str (Str.ofString "compute_powers") 190), (.str (Str.ofString "/claim/cut.py") 191), (.int 2 0), (.int 4 0), (.int 0 0), (.int 0 0), (.int 3 0), (.ref 16), (.bool true), (.int 181 0), (.ref 17), .none, (.ref 18), (.ref 19), (.ref 20), (.int 206 0), (.int 2 0), (.str (Str.ofString "/claim/cut.py") 207)]), #[]⟩) ::
  (nat_lit 22, ⟨(.type "function"), none, (.func (fnOf (Str.ofString "compute_powers") (Str.ofString "compute_powers") litA1.1 litB1.1 litS1.1 (.ref 15) .none .none (.str (Str.ofString "cpy313._pylong") 187) none (.ref 21) .none)), #[]⟩) ::
  (nat_lit 23, ⟨(.type "tuple"), none, (.seq #[(.int 0 211), .none] 0), #[]⟩) ::
  (nat_lit 24, ⟨(.type "dict"), none, (.dict #[⟨(PyData.keyHash P (Str.ofString "key")), (.str (Str.ofString "key") 212), .none⟩] 1), #[]⟩) ::
  (nat_lit 25, ⟨(.type "tuple"), none, (.seq #[] 0), #[]⟩) ::
  (nat_lit 27, ⟨(.type "tuple"), none, (.seq #[(.str (Str.ofString "a") 216), (.str (Str.ofString "x") 217), (.str (Str.ofString "lo") 218), (.str (Str.ofString "hi") 219), (.str (Str.ofString "key") 220), (.str (Str.ofString "mid") 221)] 0), #[]⟩) ::
  (nat_lit 28, ⟨(.type "tuple"), none, (.seq #[] 0), #[]⟩) ::
  (nat_lit 30, ⟨(.type "code"), none, (.fields #[(.str (Str.ofString "bisect_left") 213), (.str (Str.ofString "bisect_left") 214), (.str (Str.ofString "/claim/cut.py") 215), (.int 44 0), (.int 4 0), (.int 0 0), (.int 1 0), (.int 3 0), (.ref 25), (.bool true), (.int 181 0), (.ref 26), .none, (.ref 27), (.ref 28), (.ref 29), (.int 222 0), (.int 44 0), (.str (Str.ofString "/claim/cut.py") 223)]), #[]⟩) ::
  (nat_lit 31, ⟨(.type "function"), none, (.func (fnOf (Str.ofString "bisect_left") (Str.ofString "bisect_left") litA3.1 litB3.1 litS3.1 (.ref 23) (.ref 24) .none (.str (Str.ofString "cpy313.bisect") 209) none (.ref 30) .none)), #[]⟩) ::
  (nat_lit 39, ⟨(.type "set"), none, (.set #[(65024, (.int 65024 243)), (65025, (.int 65025 244)), (65026, (.int 65026 245)), (65027, (.int 65027 246)), (65028, (.int 65028 247)), (65029, (.int 65029 248)), (6150, (.int 6150 229)), (65030, (.int 65030 249)), (65031, (.int 65031 250)), (65032, (.int 65032 251)), (65033, (.int 65033 252)), (6155, (.int 6155 230)), (6156, (.int 6156 231)), (6157, (.int 6157 232)), (8203, (.int 8203 233)), (8204, (.int 8204 234)), (8205, (.int 8205 235)), (65034, (.int 65034 253)), (65035, (.int 65035 254)), (65036, (.int 65036 255)), (65037, (.int 65037 256)), (65038, (.int 65038 257)), (65039, (.int 65039 258)), (173, (.int 173 227)), (847, (.int 847 228)), (8288, (.int 8288 236)), (65279, (.int 65279 237))] 29 ⟨127, #[0, 1, 2, 3, 4, 5, 6, 7, 8, 9, 10, 11, 12, 13, 14, 15, 16, 17, 18, 19, 20, 21, 22, 45, 79, 96, 127], #[], 0, !(P.followText "set-order"), 2, true⟩), #[]⟩) ::
  (nat_lit 43, ⟨(.type "tuple"), none, (.seq #[] 0), #[]⟩) ::
  (nat_lit 45, ⟨(.type "tuple"), none, (.seq #[(.str (Str.ofString "code") 290)] 0), #[]⟩) ::
  (nat_lit 46, ⟨(.type "tuple"), none, (.seq #[] 0), #[]⟩) ::
  (nat_lit 48, ⟨(.type "code"), none, (.fields #[(.str (Str.ofString "in_table_b1") 287), (.str (Str.ofString "in_table_b1") 288), (.str (Str.ofString "/claim/cut.py") 289), (.int 66 0), (.int 1 0), (.int 0 0), (.int 0 0), (.int 3 0), (.ref 43), (.bool true), (.int 181 0), (.ref 44), .none, (.ref 45), (.ref 46), (.ref 47), (.int 291 0), (.int 66 0), (.str (Str.ofString "/claim/cut.py") 292)]), #[]⟩) ::
  (nat_lit 49, ⟨(.type "function"), none, (.func (fnOf (Str.ofString "in_table_b1") (Str.ofString "in_table_b1") litA6.1 litB6.1 litS6.1 .none .none .none (.str (Str.ofString "cpy313.stringprep") 225) none (.ref 48) .none)), #[]⟩) ::
  (nat_lit 50, (b3objs.head?.getD default)) ::
  (nat_lit 89, ⟨(.type "tuple"), none, (.seq #[] 0), #[]⟩) ::
  (nat_lit 91, ⟨(.type "tuple"), none, (.seq #[(.str (Str.ofString "code") 2248), (.str (Str.ofString "r") 2249)] 0), #[]⟩) ::
  (nat_lit 92, ⟨(.type "tuple"), none, (.seq #[] 0), #[]⟩) ::
  (nat_lit 94, ⟨(.type "code"), none, (.fields #[(.str (Str.ofString "map_table_b3") 2245), (.str (Str.ofString "map_table_b3") 2246), (.str (Str.ofString "/claim/cut.py") 2247), (.int 69 0), (.int 1 0), (.int 0 0), (.int 0 0), (.int 3 0), (.ref 89), (.bool true), (.int 181 0), (.ref 90), .none, (.ref 91), (.ref 92), (.ref 93), (.int 2250 0), (.int 69 0), (.str (Str.ofString "/claim/cut.py") 2251)]), #[]⟩) ::
  (nat_lit 95, ⟨(.type "function"), none, (.func (fnOf (Str.ofString "map_table_b3") (Str.ofString "map_table_b3") litA8.1 litB8.1 litS8.1 .none .none .none (.str (Str.ofString "cpy313.stringprep") 225) none (.ref 94) .none)), #[]⟩) ::
  (nat_lit 96, ⟨(.type "tuple"), none, (.seq #[] 0), #[]⟩) ::
  (nat_lit 98, ⟨(.type "tuple"), none, (.seq #[(.str (Str.ofString "ch_a") 2264), (.str (Str.ofString "ch_b") 2265)] 0), #[]⟩) ::
  (nat_lit 99, ⟨(.type "tuple"), none, (.seq #[] 0), #[]⟩) ::
  (nat_lit 101, ⟨(.type "code"), none, (.fields #[(.str (Str.ofString "_substitution_cost") 2261), (.str (Str.ofString "_substitution_cost") 2262), (.str (Str.ofString "/claim/cut.py") 2263), (.int 78 0), (.int 2 0), (.int 0 0), (.int 0 0), (.int 3 0), (.ref 96), (.bool true), (.int 181 0), (.ref 97), .none, (.ref 98), (.ref 99), (.ref 100), (.int 2266 0), (.int 78 0), (.str (Str.ofString "/claim/cut.py") 2267)]), #[]⟩) ::
  (nat_lit 102, ⟨(.type "function"), none, (.func (fnOf (Str.ofString "_substitution_cost") (Str.ofString "_substitution_cost") litA13.1 litB13.1 litS13.1 .none .none .none (.str (Str.ofString "cpy313.traceback") 2253) none (.ref 101) .none)), #[]⟩) ::
  (nat_lit 103, ⟨(.type "tuple"), none, (.seq #[] 0), #[]⟩) ::
  (nat_lit 105, ⟨(.type "tuple"), none, (.seq #[(.str (Str.ofString "a") 2272), (.str (Str.ofString "b") 2273), (.str (Str.ofString "max_cost") 2274), (.str (Str.ofString "pre") 2275), (.str (Str.ofString "post") 2276), (.str (Str.ofString "row") 2277), (.str (Str.ofString "result") 2278), (.str (Str.ofString "bindex") 2279), (.str (Str.ofString "bchar") 2280), (.str (Str.ofString "distance") 2281), (.str (Str.ofString "minimum") 2282), (.str (Str.ofString "index") 2283), (.str (Str.ofString "substitute") 2284), (.str (Str.ofString "insert_delete") 2285)] 0), #[]⟩) ::
  (nat_lit 106, ⟨(.type "tuple"), none, (.seq #[] 0), #[]⟩) ::
  (nat_lit 108, ⟨(.type "code"), none, (.fields #[(.str (Str.ofString "_levenshtein_distance") 2269), (.str (Str.ofString "_levenshtein_distance") 2270), (.str (Str.ofString "/claim/cut.py") 2271), (.int 84 0), (.int 3 0), (.int 0 0), (.int 0 0), (.int 3 0), (.ref 103), (.bool true), (.int 181 0), (.ref 104), .none, (.ref 105), (.ref 106), (.ref 107), (.int 2286 0), (.int 84 0), (.str (Str.ofString "/claim/cut.py") 2287)]), #[]⟩) ::
  (nat_lit 109, ⟨(.type "function"), none, (.func (fnOf (Str.ofString "_levenshtein_distance") (Str.ofString "_levenshtein_distance") litA14.1 litB14.1 litS14.1 .none .none .none (.str (Str.ofString "cpy313.traceback") 2253) none (.ref 108) .none)), #[]⟩) ::
  (nat_lit 110, ⟨(.type "tuple"), none, (.seq #[] 0), #[]⟩) ::
  (nat_lit 113, ⟨(.type "code"), none, (.fields #[(.str (Str.ofString "_law_prepared") 2291), (.str (Str.ofString "_law_prepared") 2292), (.str (Str.ofString "/claim/cut.py") 2293), (.int 123 0), (.int 1 0), (.int 0 0), (.int 0 0), (.int 3 0), (.ref 110), (.bool true), (.int 181 0), (.ref 111), .none, .none, .none, (.ref 112), (.int 2294 0), (.int 123 0), (.str (Str.ofString "/claim/cut.py") 2295)]), #[]⟩) ::
  (nat_lit 114, ⟨(.type "function"), none, (.func (fnOf (Str.ofString "_law_prepared") (Str.ofString "_law_prepared") litA16.1 litB16.1 litS16.1 .none .none .none (.str (Str.ofString "law_sn0064_01") 2289) none (.ref 113) .none)), #[]⟩) ::
  (nat_lit 115, ⟨(.type "tuple"), none, (.seq #[] 0), #[]⟩) ::
  (nat_lit 117, ⟨(.type "tuple"), none, (.seq #[(.str (Str.ofString "letter") 2300), (.str (Str.ofString "count") 2301), (.str (Str.ofString "turn") 2302), (.str (Str.ofString "forms") 2303), (.str (Str.ofString "typed") 2304), (.str (Str.ofString "pick") 2305)] 0), #[]⟩) ::
  (nat_lit 118, ⟨(.type "tuple"), none, (.seq #[] 0), #[]⟩) ::
  (nat_lit 120, ⟨(.type "code"), none, (.fields #[(.str (Str.ofString "_law_typed") 2297), (.str (Str.ofString "_law_typed") 2298), (.str (Str.ofString "/claim/cut.py") 2299), (.int 125 0), (.int 3 0), (.int 0 0), (.int 0 0), (.int 3 0), (.ref 115), (.bool true), (.int 181 0), (.ref 116), .none, (.ref 117), (.ref 118), (.ref 119), (.int 2306 0), (.int 125 0), (.str (Str.ofString "/claim/cut.py") 2307)]), #[]⟩) ::
  (nat_lit 121, ⟨(.type "function"), none, (.func (fnOf (Str.ofString "_law_typed") (Str.ofString "_law_typed") litA17.1 litB17.1 litS17.1 .none .none .none (.str (Str.ofString "law_sn0064_01") 2289) none (.ref 120) .none)), #[]⟩) ::
  (nat_lit 122, ⟨(.type "tuple"), none, (.seq #[] 0), #[]⟩) ::
  (nat_lit 125, ⟨(.type "code"), none, (.fields #[(.str (Str.ofString "_law_ends") 2309), (.str (Str.ofString "_law_ends") 2310), (.str (Str.ofString "/claim/cut.py") 2311), (.int 136 0), (.int 3 0), (.int 0 0), (.int 0 0), (.int 3 0), (.ref 122), (.bool true), (.int 181 0), (.ref 123), .none, .none, .none, (.ref 124), (.int 2312 0), (.int 136 0), (.str (Str.ofString "/claim/cut.py") 2313)]), #[]⟩) ::
  (nat_lit 126, ⟨(.type "function"), none, (.func (fnOf (Str.ofString "_law_ends") (Str.ofString "_law_ends") litA18.1 litB18.1 litS18.1 .none .none .none (.str (Str.ofString "law_sn0064_01") 2289) none (.ref 125) .none)), #[]⟩) ::
  (nat_lit 127, ⟨(.type "tuple"), none, (.seq #[] 0), #[]⟩) ::
  (nat_lit 129, ⟨(.type "tuple"), none, (.seq #[(.str (Str.ofString "base") 2318), (.str (Str.ofString "count") 2319), (.str (Str.ofString "made") 2320), (.str (Str.ofString "_") 2321)] 0), #[]⟩) ::
  (nat_lit 130, ⟨(.type "tuple"), none, (.seq #[] 0), #[]⟩) ::
  (nat_lit 132, ⟨(.type "code"), none, (.fields #[(.str (Str.ofString "_law_power") 2315), (.str (Str.ofString "_law_power") 2316), (.str (Str.ofString "/claim/cut.py") 2317), (.int 158 0), (.int 2 0), (.int 0 0), (.int 0 0), (.int 3 0), (.ref 127), (.bool true), (.int 181 0), (.ref 128), .none, (.ref 129), (.ref 130), (.ref 131), (.int 2322 0), (.int 158 0), (.str (Str.ofString "/claim/cut.py") 2323)]), #[]⟩) ::
  (nat_lit 133, ⟨(.type "function"), none, (.func (fnOf (Str.ofString "_law_power") (Str.ofString "_law_power") litA19.1 litB19.1 litS19.1 .none .none .none (.str (Str.ofString "law_sn0064_01") 2289) none (.ref 132) .none)), #[]⟩) ::
  (nat_lit 134, ⟨(.type "tuple"), none, (.seq #[] 0), #[]⟩) ::
  (nat_lit 136, ⟨(.type "tuple"), none, (.seq #[(.str (Str.ofString "width") 2328), (.str (Str.ofString "base") 2329), (.str (Str.ofString "bound") 2330), (.str (Str.ofString "due") 2331), (.str (Str.ofString "k") 2332), (.str (Str.ofString "part") 2333)] 0), #[]⟩) ::
  (nat_lit 137, ⟨(.type "tuple"), none, (.seq #[] 0), #[]⟩) ::
  (nat_lit 139, ⟨(.type "code"), none, (.fields #[(.str (Str.ofString "_law_table") 2325), (.str (Str.ofString "_law_table") 2326), (.str (Str.ofString "/claim/cut.py") 2327), (.int 163 0), (.int 3 0), (.int 0 0), (.int 0 0), (.int 3 0), (.ref 134), (.bool true), (.int 181 0), (.ref 135), .none, (.ref 136), (.ref 137), (.ref 138), (.int 2334 0), (.int 163 0), (.str (Str.ofString "/claim/cut.py") 2335)]), #[]⟩) ::
  (nat_lit 140, ⟨(.type "function"), none, (.func (fnOf (Str.ofString "_law_table") (Str.ofString "_law_table") litA20.1 litB20.1 litS20.1 .none .none .none (.str (Str.ofString "law_sn0064_01") 2289) none (.ref 139) .none)), #[]⟩) ::
  (nat_lit 141, ⟨(.type "tuple"), none, (.seq #[] 0), #[]⟩) ::
  (nat_lit 143, ⟨(.type "tuple"), none, (.seq #[(.str (Str.ofString "number") 2340), (.str (Str.ofString "grow") 2341), (.str (Str.ofString "k") 2342), (.str (Str.ofString "choice") 2343), (.str (Str.ofString "due") 2344), (.str (Str.ofString "j") 2345), (.str (Str.ofString "width") 2346), (.str (Str.ofString "table") 2347)] 0), #[]⟩) ::
  (nat_lit 144, ⟨(.type "tuple"), none, (.seq #[] 0), #[]⟩) ::
  (nat_lit 146, ⟨(.type "code"), none, (.fields #[(.str (Str.ofString "_law_due") 2337), (.str (Str.ofString "_law_due") 2338), (.str (Str.ofString "/claim/cut.py") 2339), (.int 170 0), (.int 4 0), (.int 0 0), (.int 0 0), (.int 3 0), (.ref 141), (.bool true), (.int 181 0), (.ref 142), .none, (.ref 143), (.ref 144), (.ref 145), (.int 2348 0), (.int 170 0), (.str (Str.ofString "/claim/cut.py") 2349)]), #[]⟩) ::
  (nat_lit 147, ⟨(.type "function"), none, (.func (fnOf (Str.ofString "_law_due") (Str.ofString "_law_due") litA21.1 litB21.1 litS21.1 .none .none .none (.str (Str.ofString "law_sn0064_01") 2289) none (.ref 146) .none)), #[]⟩) ::
  (nat_lit 148, ⟨(.type "tuple"), none, (.seq #[] 0), #[]⟩) ::
  (nat_lit 151, ⟨(.type "code"), none, (.fields #[(.str (Str.ofString "law") 2351), (.str (Str.ofString "law") 2352), (.str (Str.ofString "/claim/cut.py") 2353), (.int 180 0), (.int 1 0), (.int 0 0), (.int 0 0), (.int 3 0), (.ref 148), (.bool true), (.int 181 0), (.ref 149), .none, .none, .none, (.ref 150), (.int 2354 0), (.int 180 0), (.str (Str.ofString "/claim/cut.py") 2355)]), #[]⟩) ::
  (nat_lit 152, ⟨(.type "function"), none, (.func (fnOf (Str.ofString "law") (Str.ofString "law") litA22.1 litB22.1 litS22.1 .none .none .none (.str (Str.ofString "law_sn0064_01") 2289) none (.ref 151) .none)), #[]⟩) :: []

end Mine
end
noncomputable section
open PySem PySem.W PyProof.Rows PySem.Spec PySem.Calls
set_option linter.unusedVariables false
set_option maxRecDepth 100000
namespace Mine
noncomputable def qv : Program := view pw [6, 8, 10, 11, 12, 13, 14, 16, 17, 18, 19, 20, 21, 22]
noncomputable def looseL : List Str := ["compute_powers", "bisect_left", "b1_set", "b3_exceptions"]

/-- what a call of a def of the text's comes to: whatever the caller's frame holds stays -/
noncomputable abbrev Ctr (w : World) (mean : ExcName → Option Value) (mg mb : Str → Option Value) (dd uu : Nat) (f : Addr) (vs : List Value) (news : List (Addr × Obj)) (Ret : Heap → Addr → (Str → Option Value) → Shared → (Value → Shared → Prop) → Prop) : Prop :=
  ∀ (dp un : Nat) (gd : Option (List Code)) (cn : Str) (cs : Scope) (a : Addr) (ccd : Value) (cl : List (Str × Addr)) (outer : List Env) (A₀ : Around) (base h₀ : Heap) (L : Addr) (m : Str → Option Value) (s : Shared) (Q E : Value → Shared → Prop),
    Below A₀ base outer h₀ → Fr h₀ L s.heap m → (Kd w.params).In h₀ → News h₀ L s.heap news → Top qv looseL mean mg mb h₀ → cs.kind = .function →
    dp + dd < recursionLimit → un + uu < cLine → Ret h₀ L m s Q →
      wpAny (model PySem.Challenge.rw_sn0064_01.prog w) (ktrTop dp un gd cn cs L a ccd cl outer) (call (.ref f) vs) Q E s

noncomputable abbrev RetV (news : List (Addr × Obj)) (R : Tok → Value) : Heap → Addr → (Str → Option Value) → Shared → (Value → Shared → Prop) → Prop := fun h₀ L m s Q =>
  ∀ (t : Tok) (h' : Heap) (tk' : Nat), Fr h₀ L h' m → News h₀ L h' news → Q (R t) { s with heap := h', toks := tk' }
end Mine
end
noncomputable section
open PySem PySem.W PySem.Calls PyProof.Rows
set_option linter.unusedVariables false
set_option maxRecDepth 100000
namespace Mine

noncomputable abbrev ShT (T : Params → BT) (n t : Nat) (w : World) (os : OsState) : SharedT := ⟨T w.params, n, {}, #[], {}, t, os⟩

theorem g1 (w : World) (os : OsState) : segRunT treeTable pw w 11 ann0 1 200 (ShT Tb 15 187 w os) (piecesOf (body.take 5) env0 cd0 q0 [topFrame q0]) =
   some (.next, ShT T1 32 227 w os, cd0, ⟨64, 0, 64, 8⟩) := by kernel_rfl
theorem g3 (w : World) (os : OsState) : segRunT treeTable pw w 11 ann0 1 100 (ShT T2 43 287 w os) (piecesOf ((body.drop 6).take 1) env0 cd0 ⟨65, 0, 65, 6⟩ [topFrame q0]) =
   some (.next, ShT T3 50 294 w os, cd0, ⟨66, 0, 67, 30⟩) := by kernel_rfl
theorem g5 (w : World) (os : OsState) : segRunT treeTable pw w 11 ann0 1 600 (ShT T4 89 2245 w os) (piecesOf (body.drop 8) env0 cd0 ⟨68, 0, 68, 13⟩ [topFrame q0]) =
   some (.next, ShT T5 153 2357 w os, cd0, ⟨180, 0, 191, 76⟩) := by kernel_rfl
theorem gb (w : World) (os : OsState) : segRunT treeTable pw w 11 ann0 1 10 (ShT Tb 15 187 w os) (blockOf body env0 cd0 q0 [topFrame q0]) =
   some (.next, ShT Tb 15 187 w os, cd0, q0) := by kernel_rfl
theorem gpre (w : World) (os : OsState) : topGo treeTable pw w 11 ann0 12 ⟨boot_heap w.params, #[], boot_drawn, boot_toks, os⟩ (topStub pw) =
   some ((ShT Tb 15 187 w os).abs, ⟨denote treeTable cd0, cd0, q0, [topFrame q0]⟩) := by kernel_rfl
theorem gfin (w : World) (os : OsState) : topRun treeTable pw w 11 ann0 10 (ShT T5 153 2357 w os).abs ⟨doneF .next, cd0, ⟨180, 0, 191, 76⟩, [topFrame q0]⟩ =
   some (ShT T5 153 2357 w os).abs := by kernel_rfl

noncomputable abbrev G2 (w : World) : Prop := (fun os => segRunT treeTable pw w 11 ann0 1 1100 (ShT T1 32 227 w os) (piecesOf ((body.drop 5).take 1) env0 cd0 ⟨64, 0, 64, 8⟩ [topFrame q0])) =
   fun os => some (.next, ShT T2 43 287 w os, cd0, ⟨65, 0, 65, 6⟩)
theorem g2q (w : World) (h : (fun os => PySem.W.Fast.tw10110043849684766642 PySem.W.Fast.tw14364793385576792824 pw w 11 ann0 1 1100 (ShT T1 32 227 w os) (piecesOf ((body.drop 5).take 1) env0 cd0 ⟨64, 0, 64, 8⟩ [topFrame q0])) =
   fun os => some (.next, ShT T2 43 287 w os, cd0, ⟨65, 0, 65, 6⟩)) : G2 w := by
  unfold G2
  rw [PySem.W.Fast.te10110043849684766642, PySem.W.Fast.te14364793385576792824]
  exact h
theorem g2f (w : World) : G2 (w.withFollow "special-get-raises" false) := g2q _ (by kernel_rfl)
theorem g2t (w : World) : G2 (w.withFollow "special-get-raises" true) := g2q _ (by kernel_rfl)
theorem g2 (w : World) : G2 w := byRow2 "special-get-raises" (P := G2) g2f g2t w
end Mine
end
noncomputable section
open PySem PySem.W PySem.Calls PyProof.Rows
set_option linter.unusedVariables false
set_option maxRecDepth 100000
namespace Mine

theorem abs_hp (T : Params → BT) (n t : Nat) (w : World) (os : OsState) : (ShT T n t w os).abs.heap = hp ((T w.params).list n) {} [] := by
  show absHeap _ _ _ = _
  simp [absHeap, hp]
theorem list_len (T : BT) (n : Nat) : (T.list n).length = n := by
  rw [BT.list, List.length_map, List.length_range]
theorem b3_lists (w : World) : (T3 w.params).list 50 ++ b3objs = (T4p w.params).list 89 := by kernel_rfl

theorem exec_assign (ts : List Expr) (v : Expr) (pos : Pos) (env : Env) : exec (.Assign ts v pos) env = (do
      standAt pos
      if ← swapsWithSole ts v pos.line env then do
        evalThenUse v env fun x => assignAll x ((assignEach ts env).map (·.2))
        pure .next
      else do
        let x ← eval v env
        assignStores env x (← swappedStores ts v env) ((assignEach ts env).map (·.2))) := rfl
theorem execs_one (st : Stmt) (env : Env) : execs [st] env = (do match ← exec st env with
      | .next => pure .next
      | f => pure f) := rfl
theorem b3_exec (w : World) (os : OsState) : Ev pw w 11 ann0 cd0 (topFrame q0) 16000 (execs ((body.drop 7).take 1) env0) (ShT T3 50 294 w os).abs ⟨66, 0, 67, 30⟩ .next (ShT T4 89 2245 w os).abs ⟨68, 0, 68, 13⟩ := by
  rw [b3_stm]
  have e1 : Ev pw w 11 ann0 cd0 (topFrame q0) (400 * 39 + 1) (eval (.Dict b3keys b3vals b3pos) env0) (ShT T3 50 294 w os).abs b3apos (.ref 50) (ShT T4p 89 2244 w os).abs b3pos := by
    have eh : hp ((T3 w.params).list 50) {} b3objs = (ShT T4p 89 2244 w os).abs.heap := by
      show hp _ _ _ = absHeap _ _ _
      unfold hp absHeap
      rw [b3_lists]
    exact Ev.as (b3_ev (q := b3apos) (list_len (T3 w.params) 50) (abs_hp T3 50 294 w os) rfl) (Nat.le_refl _) (sh_eq eh rfl) rfl
  have e2 : Ev pw w 11 ann0 cd0 (topFrame q0) 15700 (exec (.Assign b3tgt (.Dict b3keys b3vals b3pos) b3apos) env0) (ShT T3 50 294 w os).abs ⟨66, 0, 67, 30⟩ .next (ShT T4 89 2245 w os).abs ⟨68, 0, 68, 13⟩ := by
    have sw : swapsWithSole b3tgt (.Dict b3keys b3vals b3pos) b3apos.line env0 = pure false := by kernel_rfl
    rw [exec_assign, sw]
    exact Ev.as (Ev.bind Ev.standAt (Ev.bind (n := 0) (a := false) Ev.pure (Ev.bind e1 (.of (b3_tail w os b3pos))))) (by decide) rfl rfl
  rw [execs_one]
  exact Ev.as (Ev.bind e2 (m := 0) Ev.pure) (by decide) rfl rfl

theorem seg_of_ev {w : World} {l : List Stmt} {s s' : Shared} {q q' : Pos} {b : Nat} (h : Ev pw w 11 ann0 cd0 (topFrame q0) b (execs l env0) s q .next s' q') :
    ∃ n, n ≤ b + 1 ∧ segRun treeTable pw w 11 ann0 1 n s (piecesOf l env0 cd0 q [topFrame q0]) = some (.next, s', cd0, q') := by
  obtain ⟨n, hn, k⟩ := h
  refine ⟨n + 1, by omega, ?_⟩
  exact seg_go (k doneF deadEnd id id) rfl

theorem body_split : body = body.take 5 ++ ((body.drop 5).take 1 ++ ((body.drop 6).take 1 ++ ((body.drop 7).take 1 ++ (body.drop 8 ++ [])))) := by
  rw [List.append_nil]
  have h : ∀ k, body.drop k = (body.drop k).take 1 ++ body.drop (k + 1) := fun k => by
    have := (List.take_append_drop 1 (body.drop k)).symm
    rwa [List.drop_drop] at this
  rw [← h 7, ← h 6, ← h 5, List.take_append_drop]

theorem run_top (w : World) (os : OsState) : topRun treeTable pw w 11 ann0 20000 ⟨boot_heap w.params, #[], boot_drawn, boot_toks, os⟩ (topStub pw) = some (ShT T5 153 2357 w os).abs := by
  obtain ⟨n, hn, b3⟩ := seg_of_ev (b3_exec w os)
  have k5 := piece_app (segRun_of (g5 w os)) (piece_nil (env := env0) (gfin w os))
  have k4 := piece_app b3 k5
  have k3 := piece_app (segRun_of (g3 w os)) k4
  have k2 := piece_app (segRun_of (congrFun (g2 w) os)) k3
  have k1 := piece_app (segRun_of (g1 w os)) k2
  rw [← body_split] at k1
  have kb := piece_block (segRun_of (gb w os)) k1
  have kp := go_top (gpre w os) kb
  have e : 20000 = (12 + (10 + (200 + (1100 + (100 + (n + (600 + 10))))))) + (20000 - (12 + (10 + (200 + (1100 + (100 + (n + (600 + 10)))))))) := by omega
  rw [e]
  exact topRun_mono _ _ _ _ _ kp

noncomputable def keepL : List Nat := [6, 8, 10, 11, 12, 13, 14, 16, 17, 18, 19, 20, 21, 22]
noncomputable abbrev XtL (s : Shared) : Bool := xlAt qv [] s && recOk [] s
noncomputable abbrev YfL (s : Shared) : List (Option Obj) := Kas.map s.heap.get?
noncomputable abbrev YaL (w : World) : List (Option Obj) := (Kd w.params).map fun p => some p.2

noncomputable def H5l (P : Params) : Heap := ⟨⟨[(boot_o_0 P), (boot_o_1 P), (boot_o_2 P), (o3v4 P), (boot_o_4 P), (boot_o_5 P), (boot_o_6 P), (boot_o_7 P), (boot_o_8 P), (boot_o_9 P), (boot_o_10 P), (o11 P), (o12v3 P), (o13 P), (o14 P), (o15 P), (o16 P), (o17 P), (o18 P), (o19 P), (o20 P), (o21 P), (o22 P), (o23 P), (o24 P), (o25 P), (o26 P), (o27 P), (o28 P), (o29 P), (o30 P), (o31 P), (o32 P), (o33 P), (o34 P), (o35 P), (o36 P), (o37 P), (o38 P), (o39 P), (o40 P), (o41 P), (o42 P), (o43 P), (o44 P), (o45 P), (o46 P), (o47 P), (o48 P), (o49 P), (b3o 0), (b3o 1), (b3o 2), (b3o 3), (b3o 4), (b3o 5), (b3o 6), (b3o 7), (b3o 8), (b3o 9), (b3o 10), (b3o 11), (b3o 12), (b3o 13), (b3o 14), (b3o 15), (b3o 16), (b3o 17), (b3o 18), (b3o 19), (b3o 20), (b3o 21), (b3o 22), (b3o 23), (b3o 24), (b3o 25), (b3o 26), (b3o 27), (b3o 28), (b3o 29), (b3o 30), (b3o 31), (b3o 32), (b3o 33), (b3o 34), (b3o 35), (b3o 36), (b3o 37), (b3o 38), (o89 P), (o90 P), (o91 P), (o92 P), (o93 P), (o94 P), (o95 P), (o96 P), (o97 P), (o98 P), (o99 P), (o100 P), (o101 P), (o102 P), (o103 P), (o104 P), (o105 P), (o106 P), (o107 P), (o108 P), (o109 P), (o110 P), (o111 P), (o112 P), (o113 P), (o114 P), (o115 P), (o116 P), (o117 P), (o118 P), (o119 P), (o120 P), (o121 P), (o122 P), (o123 P), (o124 P), (o125 P), (o126 P), (o127 P), (o128 P), (o129 P), (o130 P), (o131 P), (o132 P), (o133 P), (o134 P), (o135 P), (o136 P), (o137 P), (o138 P), (o139 P), (o140 P), (o141 P), (o142 P), (o143 P), (o144 P), (o145 P), (o146 P), (o147 P), (o148 P), (o149 P), (o150 P), (o151 P), (o152 P)]⟩, {}⟩

noncomputable abbrev S5 (w : World) (os : OsState) : Shared := ⟨H5l w.params, #[], {}, 2357, os⟩
theorem abs_H5 (w : World) (os : OsState) : (ShT T5 153 2357 w os).abs = S5 w os := by kernel_rfl
theorem look1 (w : World) (os : OsState) : (staticsOk (importedModules pw.main.body) (boot_heap w.params) (S5 w os).heap && namesBound pw (S5 w os).heap && gensDone (S5 w os) && laidKept (boot_heap w.params) (S5 w os).heap) = true := by kernel_rfl
theorem look2a (w : World) (os : OsState) : seen ((recsOf qv).map (·.name)) (ownsOf qv) [] { S5 w os with gens := #[] } = expectedOf qv := by kernel_rfl
theorem look2b (w : World) (os : OsState) : (S5 w os).heap.bltView = bltViewBooted := by kernel_rfl
theorem look2c (w : World) (os : OsState) : ((S5 w os).heap.keysOk (looseW qv looseL) ((recsOf qv).map (·.name)) ((litsOf qv).map (·.1)) ((clssOf qv (looseW qv looseL)).map (·.name)) && (S5 w os).heap.accountedOkI (importedModules pw.main.body) && (S5 w os).heap.isNs mainGlobals && (S5 w os).heap.isNs builtinsNs && tablesOk qv (S5 w os).heap && XtL (S5 w os) && (if true then (S5 w os).gens.size == 0 else !leftWithCleanup (S5 w os).gens)) = true := by kernel_rfl
theorem look2d (w : World) (os : OsState) : tabsOk qv (S5 w os) = true := by kernel_rfl
theorem look2e (w : World) (os : OsState) : pinSeenD qv (drecsOf qv) (S5 w os) = pinGoodD (drecsOf qv) := by kernel_rfl
theorem look2f (w : World) (os : OsState) : plainSeenE qv (looseW qv looseL) (S5 w os) = plainGoodE qv (looseW qv looseL) := by kernel_rfl
theorem look2g (w : World) (os : OsState) : plainSeenD qv looseL (S5 w os) = plainGoodD qv looseL := by kernel_rfl
theorem look2h (w : World) (os : OsState) : wideSeen qv (S5 w os) = wideGood qv := by kernel_rfl
theorem look2i (w : World) (os : OsState) : clsSeenW qv looseL (S5 w os) = clsGoodW qv looseL := by kernel_rfl
theorem look2 (w : World) (os : OsState) : openSeen qv looseL (importedModules pw.main.body) XtL true (S5 w os) = openGood qv looseL := by
  unfold openSeen openGood
  rw [look2a, look2b, look2c, look2d, look2e, look2f, look2g, look2h, look2i]
theorem look3 (w : World) (os : OsState) : YfL (S5 w os) = YaL w := by kernel_rfl

theorem size0 (w : World) : ((boot_heap w.params).isNs mainGlobals && (#[] : Array GenState).size == 0, (boot_heap w.params).objs.size, (boot_heap w.params).nsMap mainGlobals "__annotations__") = (true, 11, ann0) := by kernel_rfl
theorem plain0 : opening pw = plainProg pw.main.scope.names := by kernel_rfl
theorem fence0 (s : Shared) : fenceModules? pw s = some s := by kernel_rfl

theorem left : LeftO pw qv looseL XtL YfL YaL 20000 :=
  LeftO.of_pieces (H₀ := boot_heap) (H₁ := H5l) (gs₀ := #[]) (gs₁ := #[]) (d₀ := boot_drawn) (d₁ := {}) (k₀ := boot_toks) (k₁ := 2357) (m₀ := 11) (ann := ann0) (M := 20000)
    (boot_open plain0 rfl fence0) size0 (fun w os => by rw [run_top w os, abs_H5]) (Nat.ble_self_eq_true 20000)
    (fun w => funext fun os => by rw [look1 w os, look2 w os, look3 w os])
end Mine
end
noncomputable section
open PySem PySem.W PyProof.Rows PySem.Spec PySem.Calls
set_option linter.unusedVariables false
set_option maxRecDepth 100000
namespace Mine

/-! the set b1_set and the table b3_exceptions as the top left them -/
noncomputable def b1L : List (Int × Value) := [(65024, .int 65024 243), (65025, .int 65025 244), (65026, .int 65026 245), (65027, .int 65027 246), (65028, .int 65028 247), (65029, .int 65029 248), (6150, .int 6150 229), (65030, .int 65030 249), (65031, .int 65031 250), (65032, .int 65032 251), (65033, .int 65033 252), (6155, .int 6155 230), (6156, .int 6156 231), (6157, .int 6157 232), (8203, .int 8203 233), (8204, .int 8204 234), (8205, .int 8205 235), (65034, .int 65034 253), (65035, .int 65035 254), (65036, .int 65036 255), (65037, .int 65037 256), (65038, .int 65038 257), (65039, .int 65039 258), (173, .int 173 227), (847, .int 847 228), (8288, .int 8288 236), (65279, .int 65279 237)]
noncomputable def b1N : List Int := b1L.map (·.1)
theorem k39 (P : Params) : ∃ t, List.lookup 39 (Kd P) = some ⟨.type "set", none, .set b1L.toArray 29 t, #[]⟩ ∧ t.fits 27 = true := ⟨⟨127, #[0, 1, 2, 3, 4, 5, 6, 7, 8, 9, 10, 11, 12, 13, 14, 15, 16, 17, 18, 19, 20, 21, 22, 45, 79, 96, 127], #[], 0, !(P.followText "set-order"), 2, true⟩, by kernel_rfl!, by kernel_rfl!⟩
theorem set39 {prog : Program} {w : World} {h : Heap} (X : (Kd w.params).In h) : h.SetOf (intKind prog w) 39 (fun k => b1N.contains k) 27 := by
  obtain ⟨t, e, f⟩ := k39 w.params
  refine ⟨_, b1L.toArray, 29, t, X _ _ e, ⟨rfl, rfl, rfl⟩, rfl, ?_, fun k => ?_, by decide, f, rfl⟩
  · intro e he
    have : ∀ e ∈ b1L, (∃ t, e.2 = .int e.1 t) ∧ small e.1 := by
      unfold b1L
      intro e he
      simp only [List.mem_cons, List.not_mem_nil, or_false] at he
      rcases he with rfl | rfl | rfl | rfl | rfl | rfl | rfl | rfl | rfl | rfl | rfl | rfl | rfl | rfl | rfl | rfl | rfl | rfl | rfl | rfl | rfl | rfl | rfl | rfl | rfl | rfl | rfl <;> exact ⟨⟨_, rfl⟩, by constructor <;> decide⟩
    obtain ⟨⟨t, ht⟩, hs⟩ := this e he
    refine ⟨⟨e.1, ?_, ?_⟩, ?_⟩
    · rw [ht]; exact intKind_is prog w e.1 t
    · show e.1 = hashInt e.1
      rw [hash_small hs]
    · rw [ht]; rfl
  · show b1N.contains k = true ↔ _
    rw [List.contains_iff_mem]
    unfold b1N
    rw [List.mem_map]
    constructor
    · rintro ⟨e, he, rfl⟩
      refine ⟨e, he, ?_⟩
      have : ∀ e ∈ b1L, ∃ t, e.2 = .int e.1 t := by
        unfold b1L
        intro e he
        simp only [List.mem_cons, List.not_mem_nil, or_false] at he
        rcases he with rfl | rfl | rfl | rfl | rfl | rfl | rfl | rfl | rfl | rfl | rfl | rfl | rfl | rfl | rfl | rfl | rfl | rfl | rfl | rfl | rfl | rfl | rfl | rfl | rfl | rfl | rfl <;> exact ⟨_, rfl⟩
      obtain ⟨t, ht⟩ := this e he
      rw [ht]; exact intKind_is prog w e.1 t
    · rintro ⟨e, he, hk⟩
      refine ⟨e, he, ?_⟩
      have : ∀ e ∈ b1L, ∃ t, e.2 = .int e.1 t := by
        unfold b1L
        intro e he
        simp only [List.mem_cons, List.not_mem_nil, or_false] at he
        rcases he with rfl | rfl | rfl | rfl | rfl | rfl | rfl | rfl | rfl | rfl | rfl | rfl | rfl | rfl | rfl | rfl | rfl | rfl | rfl | rfl | rfl | rfl | rfl | rfl | rfl | rfl | rfl <;> exact ⟨_, rfl⟩
      obtain ⟨t, ht⟩ := this e he
      rw [ht] at hk
      exact ((intKind prog w).inj _ _ _ hk (intKind_is prog w e.1 t)).symm
theorem r_in39 {prog : Program} {w : World} {A : Around} {E : Value → Shared → Prop} {s : Shared} {k : Int} {t : Tok} {Q : Value → Shared → Prop} (X : (Kd w.params).In s.heap)
    (h : Q (.bool (b1N.contains k)) { s with toks := s.toks + 1 }) : wpAny (model prog w) A (compareOp .In (.int k t) (.ref 39)) Q E s :=
  wpAny_inSet_of (intKind_is prog w k t) rfl (set39 X) h

noncomputable def b3ents : List DictEntry := ents3 294 kvs0 ++ accE 345 kvsC ++ ents2 2232 kvsL
theorem k50 (P : Params) : List.lookup 50 (Kd P) = some ⟨.type "dict", none, .dict b3ents.toArray b3ents.length, #[]⟩ := by kernel_rfl!

/-- entries bear the pairs, in order, whatever their tokens -/
noncomputable def Bears : List DictEntry → List (Int × Str) → Prop
  | [], [] => True
  | e :: es, kv :: r => (∃ t u, e = ⟨kv.1, .int kv.1 t, .str kv.2 u⟩) ∧ Bears es r
  | _, _ => False
theorem Bears.append : ∀ {a : List DictEntry} {x : List (Int × Str)} {b : List DictEntry} {y : List (Int × Str)}, Bears a x → Bears b y → Bears (a ++ b) (x ++ y)
  | [], [], _, _, _, h => h
  | _ :: _, _ :: _, _, _, ⟨h1, h2⟩, h => ⟨h1, h2.append h⟩
  | [], _ :: _, _, _, h, _ => h.elim
  | _ :: _, [], _, _, h, _ => h.elim
theorem bears3 : ∀ (t : Nat) (l : List (Int × Str)), Bears (ents3 t l) l
  | _, [] => trivial
  | t, kv :: r => ⟨⟨t, t + 1, rfl⟩, bears3 (t + 3) r⟩
theorem bears2 : ∀ (t : Nat) (l : List (Int × Str)), Bears (ents2 t l) l
  | _, [] => trivial
  | t, kv :: r => ⟨⟨t, t + 1, rfl⟩, bears2 (t + 2) r⟩
theorem bearsA : ∀ (t : Nat) (l : List (List (Int × Str))), Bears (accE t l) l.flatten
  | _, [] => trivial
  | t, c :: r => (bears3 t c).append (bearsA (t + 3 * c.length) r)
theorem b3_bears : Bears b3ents kvs := by
  have := ((bears3 294 kvs0).append (bearsA 345 kvsC)).append (bears2 2232 kvsL)
  rw [kvs_split] at this
  exact this
theorem Bears.keys {prog : Program} {w : World} : ∀ {es : List DictEntry} {l : List (Int × Str)}, Bears es l → (∀ kv ∈ l, small kv.1) → ∀ e, e ∈ es → ∃ k, (intKind prog w).is k e.key = true ∧ e.hash = (intKind prog w).hash k
  | [], _ => fun _ _ e he => absurd he List.not_mem_nil
  | x :: es, [] => fun h => False.elim h
  | x :: es, kv :: l => fun h hs e he => by
    obtain ⟨⟨t, u, rfl⟩, h⟩ := h
    rcases List.mem_cons.mp he with rfl | he
    · exact ⟨kv.1, intKind_is prog w kv.1 t, (hash_small (hs kv (.head _))).symm⟩
    · exact Bears.keys h (fun kv hk => hs kv (.tail _ hk)) e he
theorem Bears.find {prog : Program} {w : World} (k : Int) : ∀ {es : List DictEntry} {l : List (Int × Str)}, Bears es l → match l.lookup k with
    | some x => ∃ t, (es.find? fun e => (intKind prog w).is k e.key).map (·.val) = some (.str x t)
    | none => (es.find? fun e => (intKind prog w).is k e.key).map (·.val) = none
  | [], [], _ => rfl
  | e :: es, kv :: l, ⟨⟨t, u, he⟩, h⟩ => by
    subst he
    have ih := h.find (prog := prog) (w := w) k
    rw [List.lookup_cons, List.find?_cons]
    by_cases hk : k = kv.1
    · subst hk
      have e1 : (kv.1 == kv.1) = true := by simp
      have e2 : (intKind prog w).is kv.1 (.int kv.1 t) = true := intKind_is prog w kv.1 t
      simp only [e1, e2]
      exact ⟨u, rfl⟩
    · have e1 : (k == kv.1) = false := by simp [hk]
      have e2 : (intKind prog w).is k (.int kv.1 t) = false := by
        cases q : (intKind prog w).is k (.int kv.1 t) with
        | false => rfl
        | true => exact absurd ((intKind prog w).inj _ _ _ q (intKind_is prog w kv.1 t)) hk
      simp only [e1, e2]
      exact ih
  | [], _ :: _, h => h.elim
  | _ :: _, [], h => h.elim
noncomputable def b3f (prog : Program) (w : World) (k : Int) : Option Value := findBy (intKind prog w).is b3ents.toArray k
theorem map50 {prog : Program} {w : World} {h : Heap} (X : (Kd w.params).In h) : h.MapOf (intKind prog w) 50 (b3f prog w) :=
  ⟨_, b3ents.toArray, b3ents.length, X _ _ (k50 w.params), ⟨rfl, rfl, rfl⟩, rfl, fun e he => b3_bears.keys (fun kv hk => by
      have := List.all_eq_true.mp kvs_small kv hk
      simp only [Bool.and_eq_true, decide_eq_true_eq] at this
      exact this) e (by simpa using he), fun _ => rfl⟩
theorem b3f_eq (prog : Program) (w : World) (k : Int) : match kvs.lookup k with
    | some x => ∃ t, b3f prog w k = some (.str x t)
    | none => b3f prog w k = none := by
  have e : b3f prog w k = (b3ents.find? fun e => (intKind prog w).is k e.key).map (·.val) := by
    unfold b3f findBy
    simp
  rw [e]
  exact b3_bears.find k
theorem r_get50 {prog : Program} {w : World} {A : Around} {E : Value → Shared → Prop} {s : Shared} {pl : Sem Bool} {Q : Value × List Value → Shared → Prop} (X : (Kd w.params).In s.heap)
    (h : Q (.builtin "dict.get", [.ref 50]) s) : wpAny (model prog w) A (getMethod (.ref 50) "get" pl) Q E s :=
  getMethod_builtin (map50 (prog := prog) X).typeIs PySem.F.plainAttrs_dict PySem.F.slot_dict_get PySem.F.type_dict_get (map50 (prog := prog) X).noDict h
theorem r_call50 {prog : Program} {w : World} {A : Around} {E : Value → Shared → Prop} {s : Shared} {k : Int} {t : Tok} {Q : Value → Shared → Prop} (X : (Kd w.params).In s.heap)
    (h : match kvs.lookup k with | some x => ∀ u, Q (.str x u) { s with toks := s.toks + 1 } | none => Q .none { s with toks := s.toks + 1 }) : wpAny (model prog w) A (call (.builtin "dict.get") [.ref 50, .int k t]) Q E s := by
  refine call_meetsIn PySem.F.slot_dict_get (map50 (prog := prog) X).typeIs PySem.F.entry_dict_get (PySem.F.args_dict_get_2 _ _) (meets_dict_get (intKind prog w) 50 (intKind_is prog w k t) (by decide)) ⟨_, map50 X, ?_⟩
  have e := b3f_eq prog w k
  cases q : kvs.lookup k with
  | none => rw [q] at e h; rw [e]; exact h
  | some x =>
    rw [q] at e h
    obtain ⟨u, e⟩ := e
    rw [e]
    exact h u
end Mine
end
noncomputable section
open PySem PySem.W PyProof.Rows PySem.Spec PySem.Calls
set_option linter.unusedVariables false
set_option maxRecDepth 100000
namespace Mine
local macro_rules | `(tactic| walk_at "compareOp In int ref") => `(tactic| (k_here; (with_reducible show wpAny _ _ (compareOp CmpOp.In (Value.int _ _) (Value.ref 39)) _ _ _); k_dflt (refine' r_in39 ?X ?_; (case X => k_in); k_whole)))
local macro_rules | `(tactic| walk_at "getMethod ref") => `(tactic| (k_here; (with_reducible show wpAny _ _ (getMethod (Value.ref 50) (Str.ofString "get") _) _ _ _); k_dflt (refine' r_get50 ?X ?_; (case X => k_in); k_whole)))
local macro_rules | `(tactic| walk_at "call builtin:dict.get") => `(tactic| (k_here; (with_reducible show wpAny _ _ (call (Value.builtin "dict.get") [Value.ref 50, Value.int _ _]) _ _ _); k_dflt (refine' r_call50 ?X ?_; (case X => k_in)); (split <;> (try intro _))))
noncomputable def b3r (x : Str) : Str := (kvs.lookup ((x.cps.getD 0 0 : Nat) : Int)).getD (Txt.lower x)
theorem b3r_some {x y : Str} (h : kvs.lookup ((x.cps.getD 0 0 : Nat) : Int) = some y) : b3r x = y := by unfold b3r; rw [h]; rfl
theorem b3r_none {x : Str} (h : kvs.lookup ((x.cps.getD 0 0 : Nat) : Int) = none) : b3r x = Txt.lower x := by unfold b3r; rw [h]; rfl
set_option maxHeartbeats 8000000 in
theorem c_power {w mean mg mb} (base count : Int) (t1 t2 : Tok) (news) (h1 : 0 ≤ count ∧ count ≤ 20 ∧ 0 ≤ base ∧ base ≤ 3) :
    Ctr w mean mg mb 1 8 133 [.int base t1, .int count t2] news (RetV news fun t => .int (base ^ count.toNat) t) := by
  unfold Ctr
  k_fill
  intros; rename_i hret
  refine wpAny_call ?_
  k_dflt cell_enter
  k_steps
  refine cb_retI hret ?_ (by assumption) (by assumption)
  have key : ∀ (l : List Int) (a : Int), (List.foldl (fun (σ : Int × Unit) (k : Int) => (σ.fst * base, ())) (a, ()) l).fst = a * base ^ l.length := by
    intro l
    induction l with
    | nil => intro a; simp
    | cons k r ih => intro a; rw [List.foldl_cons, ih, List.length_cons, Int.pow_succ]; rw [Int.mul_assoc, Int.mul_comm base]
  refine (key (rangeInts 0 1 (count - 0).toNat) 1).trans ?_
  rw [Int.one_mul]
  simp [rangeInts]
/-- the substitution's cost -/
noncomputable def subC (a b : Str) : Int := if a = b then 0 else if Txt.lower a = Txt.lower b then 1 else 2
set_option maxHeartbeats 8000000 in
theorem c_subst {w mean mg mb} (a b : Str) (t1 t2 : Tok) (news) (ha : a.length ≤ 1) (hb : b.length ≤ 1) : Ctr w mean mg mb 1 8 102 [.str a t1, .str b t2] news (RetV news fun t => .int (subC a b) t) := by
  unfold Ctr
  k_fill
  intros; rename_i hret
  refine wpAny_call ?_
  k_dflt cell_enter
  k_steps
  · exact cb_retI hret (by simp_all [subC]) (by assumption) (by assumption)
  · exact cb_retI hret (by simp_all [subC]) (by assumption) (by assumption)
  · exact cb_retI hret (by simp_all [subC]) (by assumption) (by assumption)
end Mine
end
noncomputable section
open PySem PySem.W PyProof.Rows PySem.Spec PySem.Calls
set_option linter.unusedVariables false
set_option maxRecDepth 100000
namespace Mine
theorem Ctr.use {w : World} {mean : ExcName → Option Value} {mg mb : Str → Option Value} {dd uu : Nat} {f : Addr} {vs : List Value} {news : List (Addr × Obj)} {Ret : Heap → Addr → (Str → Option Value) → Shared → (Value → Shared → Prop) → Prop}
    {dp un : Nat} {gd : Option (List Code)} {cn : Str} {cs : Scope} {a : Addr} {ccd : Value} {cl : List (Str × Addr)} {outer : List Env} {A₀ : Around} {base h₀ : Heap} {L : Addr} {m : Str → Option Value} {s : Shared} {Q E : Value → Shared → Prop}
    (c : Ctr w mean mg mb dd uu f vs news Ret) (B : Below A₀ base outer h₀) (F : Fr h₀ L s.heap m) (X : (Kd w.params).In h₀) (N : News h₀ L s.heap news) (T : Top qv looseL mean mg mb h₀) (K : cs.kind = .function)
    (hd : dp + dd < recursionLimit) (hu : un + uu < cLine) (R : Ret h₀ L m s Q) :
    wpAny (model PySem.Challenge.rw_sn0064_01.prog w) (ktrTop dp un gd cn cs L a ccd cl outer) (call (.ref f) vs) Q E s :=
  c dp un gd cn cs a ccd cl outer A₀ base h₀ L m s Q E B F X N T K hd hu R
end Mine
end
noncomputable section
open PySem PySem.W PyProof.Rows PySem.Spec PySem.Calls
set_option linter.unusedVariables false
set_option maxRecDepth 100000
namespace Mine
local macro_rules | `(tactic| walk_at "zz pad 0") => `(tactic| skip)
local macro_rules | `(tactic| walk_at "zz pad 1") => `(tactic| skip)
noncomputable abbrev RetK (news : List (Addr × Obj)) (R : Tok → Value) : Heap → Addr → (Str → Option Value) → Shared → (Value → Shared → Prop) → Prop := fun h₀ L m s Q =>
  ∀ (t : Tok) (h' : Heap) (tk' : Nat), Fr h₀ L h' m → News h₀ L h' news → InElt s.heap h' → Q (R t) { s with heap := h', toks := tk' }
local macro_rules | `(tactic| walk_at "compareOp In int ref") => `(tactic| (k_here; (with_reducible show wpAny _ _ (compareOp CmpOp.In (Value.int _ _) (Value.ref 39)) _ _ _); k_dflt (refine' r_in39 ?X ?_; (case X => k_in); k_whole)))
local macro_rules | `(tactic| walk_at "getMethod ref") => `(tactic| (k_here; (with_reducible show wpAny _ _ (getMethod (Value.ref 50) (Str.ofString "get") _) _ _ _); k_dflt (refine' r_get50 ?X ?_; (case X => k_in); k_whole)))
local macro_rules | `(tactic| walk_at "call builtin:dict.get") => `(tactic| (k_here; (with_reducible show wpAny _ _ (call (Value.builtin "dict.get") [Value.ref 50, Value.int _ _]) _ _ _); k_dflt (refine' r_call50 ?X ?_; (case X => k_in)); (split <;> (try intro _))))
set_option maxHeartbeats 8000000 in
theorem c_b1K {w mean mg mb} (x : Str) (t1 : Tok) (news) (ha : x.length = 1) : Ctr w mean mg mb 1 8 49 [.str x t1] news (RetK news fun t => .bool (b1N.contains (x.cps.getD 0 0 : Nat))) := by
  unfold Ctr
  k_fill
  intros; rename_i hret
  refine wpAny_call ?_
  k_dflt (refine' code_defG ?k1 ?k2 ?k3 ?k4 ?k5 ?kA ?kF ?kK ?k6 ?k7 ?k8 ?k9 ?kB ?_ ?c2 ?c3 ?c4 ?c5; (case kA => exact rfl); (case kF => exact rfl); (case kK => assumption); (case k1 => k_asm); (case k2 => k_asm); (case k3 => k_asm); (case k4 => k_asm); (case k5 => k_asm); (case k6 => k_is); (case k7 => k_is); (case k8 => ktr_room); (case k9 => exact BindsTo.of_eq rfl); (case c5 => decide); (case kB => exact locs rfl); (case c2 => exact rfl); (case c3 => exact rfl); (case c4 => exact rfl); k_whole; intro g' L' h' FG' F' N' B' X' T' kG'; (try dsimp only); (try k_lift B'); (try k_fold))
  k_steps
  exact hret 0 _ _ (by assumption) (by assumption) (elt_after (InElt.start _) kG' (by assumption) F' N' (fun _ h => h))
set_option maxHeartbeats 8000000 in
theorem c_b3K {w mean mg mb} (x : Str) (t1 : Tok) (news) (ha : x.length = 1) : Ctr w mean mg mb 1 8 95 [.str x t1] news (RetK news fun t => .str (b3r x) t) := by
  unfold Ctr
  k_fill
  intros; rename_i hret
  refine wpAny_call ?_
  k_dflt (refine' code_defG ?k1 ?k2 ?k3 ?k4 ?k5 ?kA ?kF ?kK ?k6 ?k7 ?k8 ?k9 ?kB ?_ ?c2 ?c3 ?c4 ?c5; (case kA => exact rfl); (case kF => exact rfl); (case kK => assumption); (case k1 => k_asm); (case k2 => k_asm); (case k3 => k_asm); (case k4 => k_asm); (case k5 => k_asm); (case k6 => k_is); (case k7 => k_is); (case k8 => ktr_room); (case k9 => exact BindsTo.of_eq rfl); (case c5 => decide); (case kB => exact locs rfl); (case c2 => exact rfl); (case c3 => exact rfl); (case c4 => exact rfl); k_whole; intro g' L' h' FG' F' N' B' X' T' kG'; (try dsimp only); (try k_lift B'); (try k_fold))
  k_steps
  all_goals (rename Fr g' _ _ _ => F9; rename News g' _ _ _ => N9)
  · have e := b3r_some (x := x) (by assumption)
    exact e ▸ hret _ _ _ (by assumption) (by assumption) (elt_after (InElt.start _) kG' (by assumption) F9 N9 (fun _ h => h))
  · have e := b3r_none (x := x) (by assumption)
    exact e ▸ hret _ _ _ (by assumption) (by assumption) (elt_after (InElt.start _) kG' (by assumption) F9 N9 (fun _ h => h))

section
variable {prog : Program} {w : World} {A : Around} {E : Value → Shared → Prop} {s : Shared} {h₀ : Heap} {L : Addr} {m : Str → Option Value} {news : List (Addr × Obj)} {env : Env}
/-- a list comprehension over a text's signs, whose test and element may call -/
theorem ListComp_S {elt iter : Expr} {x : Str} {px : Pos} {ifs : List Expr} {scope : Scope} {cl : List (Str × Addr)} {pos : Pos} {Q : Value → Shared → Prop} {pz : Str → Bool} {d : Str → PyData}
    (F₀ : Fr h₀ L s.heap m) (N₀ : News h₀ L s.heap news) (hh : A.handled = none) (hclos : closureFor scope env = pure cl) (hcell : ∀ y ∈ scope.names, y.2 ≠ .cell) (hkind : scope.kind = .function)
    (hnames : ∀ y ∈ scope.names, y.2 = .local → scope.names.lookup y.1 = some .local) (hx : scope.names.lookup x = some .local)
    (h : wpAny (model prog w) A (eval iter env) (fun xv s₁ => ∃ y t, xv = .str y t ∧ y.length ≤ sizeLine ∧ Fr h₀ L s₁.heap m ∧ News h₀ L s₁.heap news ∧
      (∀ C a t s₂ m₂ E', a.length = 1 → s₂.heap.Ns (compEnvC scope cl C env).locals m₂ → m₂ x = some (.str a t) → (∀ b o, s₁.heap.get? b = some o → s₂.heap.get? b = some o) → Fr h₀ L s₂.heap m → News h₀ L s₂.heap news → InElt s₂.heap s₂.heap →
        wpAny (model prog w) A (forIn ifs true fun c r => if r = true then do let ok ← isTrue c (compEnvC scope cl C env) (eval c (compEnvC scope cl C env)); pure (ForInStep.yield ok) else pure (ForInStep.yield r))
          (fun ok s₃ => ok = pz a ∧ Keeps s₂ s₃) E' s₂) ∧
      (∀ C a t s₂ m₂ E', a.length = 1 → pz a = true → s₂.heap.Ns (compEnvC scope cl C env).locals m₂ → m₂ x = some (.str a t) → (∀ b o, s₁.heap.get? b = some o → s₂.heap.get? b = some o) → Fr h₀ L s₂.heap m → News h₀ L s₂.heap news → InElt s₂.heap s₂.heap →
        wpAny (model prog w) A (eval elt (compEnvC scope cl C env)) (fun y s₃ => Carried y (d a) ∧ Keeps s₂ s₃) E' s₂) ∧
      (∀ D (ys : List Value) h' tk, Fr h₀ L h' m → News h₀ L h' news → h₀.get? D = none → h'.IsList D ys.toArray → NewPlain h' news D ys.toArray → CarriedAll ys (((signs y).filter pz).map d) → Q (.ref D) { s₁ with heap := h', toks := tk })) E s)
    (hs : ∀ x, foldedSetIterable iter env x = pure x) :
    wpAny (model prog w) A (eval (.ListComp elt [⟨.Name x px, iter, ifs, 0⟩] scope pos) env) Q E s := by
  refine wpAny_ListComp_free (ItemKind.str.lift pz) (fun v r => ∃ a, ItemKind.str.is a v ∧ Carried r (d a)) hclos hcell hkind hnames hx
    (wpAny_mono h (fun xv s₁ h₁ => ?_) fun _ _ e => e) hs
  obtain ⟨y, t, rfl, hsz, F, N, htests, helt, hQ⟩ := h₁
  refine wpAny_pyIter_str fun o St W hst => ?_
  have up : ∀ (h' : Heap), (∀ b o', b ∉ [s₁.heap.objs.size] → (s₁.heap.push o).get? b = some o' → h'.get? b = some o') → ∀ b o', s₁.heap.get? b = some o' → h'.get? b = some o' :=
    fun h' hk b o' e => hk b o' (old_not_new e) (Heap.get?_push_of_some _ e)
  refine ⟨s₁.heap.objs.size, [s₁.heap.objs.size], [s₁.heap.objs.size], y.cps.size, SignAt y, St, rfl, W A hh, hsz, hst, ?_, ⟨?_, ?_⟩, ?_⟩
  · intro b hb
    show b < (s₁.heap.push o).objs.size
    rw [Heap.size_push, List.mem_singleton.mp hb]
    exact Nat.lt_succ_self _
  · intro C i v s₃ m₃ E' _ hP hn hm hk _
    obtain ⟨c, u, _, rfl⟩ := hP
    have ha : ItemKind.str.is ⟨#[c]⟩ (.str ⟨#[c]⟩ u) := ⟨u, rfl⟩
    rw [ItemKind.lift_is ha]
    have k := up s₃.heap hk
    exact htests C _ _ s₃ m₃ E' rfl hn hm k (F.keeps k) (N.grown k) (InElt.start _)
  · intro C i v s₃ m₃ E' _ hP hp hn hm hk _
    obtain ⟨c, u, _, rfl⟩ := hP
    have ha : ItemKind.str.is ⟨#[c]⟩ (.str ⟨#[c]⟩ u) := ⟨u, rfl⟩
    rw [ItemKind.lift_is ha] at hp
    have k := up s₃.heap hk
    exact wpAny_mono (helt C _ _ s₃ m₃ E' rfl hp hn hm k (F.keeps k) (N.grown k) (InElt.start _)) (fun r s₄ h₄ => ⟨⟨_, ha, h₄.1⟩, h₄.2⟩) fun _ _ e => e
  · intro D h' tk ys vs hnew hlD hplD hlen hP hF hk
    refine hQ D ys.toList h' tk (F.keeps (up h' hk)) (N.grown (up h' hk)) ?_ (by rw [Array.toArray_toList]; exact hlD) ⟨by rw [Array.toArray_toList]; exact hplD, fun p hp e => by rw [← e, Heap.get?_push_of_some _ (N p hp).1] at hnew; cases hnew⟩ ((areOf_signs hlen hP).paired pz d _ hF)
    cases e : h₀.get? D with
    | none => rfl
    | some o' => rw [Heap.get?_push_of_some _ (F.keep _ _ e)] at hnew; cases hnew
end
end Mine
end
noncomputable section
open PySem PySem.W PyProof.Rows PySem.Spec PySem.Calls
set_option linter.unusedVariables false
set_option maxRecDepth 100000
namespace Mine
noncomputable def pzN (a : Str) : Bool := !(b1N.contains (a.cps.getD 0 0 : Nat))
noncomputable def prepL (x : Str) : List Str := ((signs x).filter pzN).map b3r
noncomputable def prep (x : Str) : Str := Txt.join Str.empty (prepL x)
local macro_rules | `(tactic| walk_at "eval ListComp") => `(tactic| (k_here; (with_reducible rename Fr _ _ _ _ => kF); (with_reducible rename News _ _ _ _ => kN); k_dflt (refine' ListComp_S (pz := pzN) (d := fun a => PyData.str (b3r a)) kF kN ?hh ?hclos ?hcell ?hkind ?hnames ?hx ?h ?hs; (case hh => with_unfolding_all rfl); (case hclos => with_unfolding_all rfl); (case hcell => decide); (case hkind => with_unfolding_all rfl); (case hnames => decide); (case hx => with_unfolding_all rfl); (case hs => intro _; with_unfolding_all rfl))))
local macro_rules | `(tactic| walk_at "call ref") => `(tactic| (k_here; (with_reducible show wpAny _ _ (call (Value.ref 49) [Value.str _ _]) _ _ _); k_dflt (refine' Ctr.use (c_b1K _ _ _ ?ha) ?B ?F ?X ?N ?T ?K ?d ?u ?R; (case ha => assumption); (case B => k_asm); (case F => k_asm); (case X => k_asm); (case N => k_asm); (case T => k_asm); (case K => first | exact rfl | assumption); (case d => ktr_room); (case u => ktr_units)); (case' R => intro t9 h9 tk9 F9 N9 K9; (try dsimp only); (try k_fold))))
local macro_rules | `(tactic| walk_at "call ref") => `(tactic| (k_here; (with_reducible show wpAny _ _ (call (Value.ref 95) [Value.str _ _]) _ _ _); k_dflt (refine' Ctr.use (c_b3K _ _ _ ?ha) ?B ?F ?X ?N ?T ?K ?d ?u ?R; (case ha => assumption); (case B => k_asm); (case F => k_asm); (case X => k_asm); (case N => k_asm); (case T => k_asm); (case K => first | exact rfl | assumption); (case d => ktr_room); (case u => ktr_units)); (case' R => intro t9 h9 tk9 F9 N9 K9; (try dsimp only); (try k_fold))))
local macro_rules | `(tactic| walk_at "call builtin:str.join") => `(tactic| (k_here; (with_reducible show wpAny _ _ (call (Value.builtin "str.join") [Value.str _ _, Value.ref _]) _ _ _); k_dflt (refine' join_listC (ys := prepL _) ?hl ?hi ?hs ?hok ?h; (case hl => assumption); (case hi => (exact CarriedAll.strsOf (by assumption))); (case hs => decide); (case hok => assumption)); (case' h => intro t9 k9; (try dsimp only); (try k_fold))))
set_option maxHeartbeats 8000000 in
theorem c_prep {w mean mg mb} (x : Str) (t1 : Tok) (news) (ha : x.length ≤ 100) (hj : ((prepL x).map (·.length)).sum + (prepL x).length * 64 ≤ 16777216) : Ctr w mean mg mb 3 30 114 [.str x t1] news (RetV news fun t => .str (prep x) t) := by
  unfold Ctr
  k_fill
  intros; rename_i hret
  refine wpAny_call ?_
  k_dflt cell_enter
  k_steps
  all_goals first
    | assumption
    | exact ⟨_, _, rfl, by assumption⟩
    | exact hret _ _ _ (by assumption) (by assumption)
    | skip
  · k_dflt (refine' Ctr.use (c_b3K _ _ _ ?ha) ?B ?F ?X ?N ?T ?K ?d ?u ?R; (case ha => assumption); (case B => k_asm); (case F => k_asm); (case X => k_asm); (case N => k_asm); (case T => k_asm); (case K => first | exact rfl | assumption); (case d => ktr_room); (case u => ktr_units))
    intro t9 h9 tk9 F9 N9 K9
    exact ⟨.str _ _, _, _, rfl, K9⟩
  · refine hret _ _ _ (by assumption) ?_
    rename News _ _ _ _ => NZ
    exact fun p hp => NZ p (List.mem_cons_of_mem _ hp)
end Mine
namespace Mine
/-- the walk stops here: the rest by hand -/
noncomputable def Halt (p : Prop) : Prop := p
theorem Halt.out {p : Prop} (h : Halt p) : p := h
end Mine
end
noncomputable section
open PySem PySem.W PyProof.Rows PySem.Spec PySem.Calls
set_option linter.unusedVariables false
set_option maxRecDepth 100000
namespace Mine
local macro_rules | `(tactic| walk_at "zz pad 0") => `(tactic| skip)
local macro_rules | `(tactic| walk_at "zz pad 1") => `(tactic| skip)
noncomputable def flat (x : Str) : List Nat := (prepL x).flatMap fun y => y.cps.toList
theorem flat_append (a b : Str) : flat (a ++ b) = flat a ++ flat b := by
  show (((signs (a.append b)).filter pzN).map b3r).flatMap _ = _
  have : signs (a.append b) = signs a ++ signs b := by unfold signs Str.append; simp
  rw [this, List.filter_append, List.map_append, List.flatMap_append]
  rfl
noncomputable def TyOk (c : Nat) (n : Int) (x : Str) : Prop := flat x = List.replicate n.toNat c
theorem le_sl {a : Nat} (h : a ≤ 1000) : a ≤ sizeLine := Nat.le_trans h (by decide)
noncomputable abbrev RetSP (news : List (Addr × Obj)) (P : Str → Prop) : Heap → Addr → (Str → Option Value) → Shared → (Value → Shared → Prop) → Prop := fun h₀ L m s Q =>
  ∀ (x : Str) (t : Tok) (h' : Heap) (tk' : Nat), P x → Fr h₀ L h' m → News h₀ L h' news → Q (.str x t) { s with heap := h', toks := tk' }
theorem ty_start {c : Nat} {n r : Int} (h1 : 0 ≤ n ∧ n ≤ 6 ∧ 0 ≤ r ∧ r < 1000000) : TyOk c (n - n) (Str.ofString "") ∧ ((Str.ofString "").length : Int) ≤ n - n ∧ 0 ≤ n ∧ n ≤ n ∧ 0 ≤ r ∧ r ≤ 1000000 := by
  refine ⟨?_, ?_, h1.1, Int.le_refl _, h1.2.2.1, Int.le_of_lt h1.2.2.2⟩
  · rw [Int.sub_self]
    exact rfl
  · rw [Int.sub_self]
    decide
theorem ty_turn {c : Nat} {n k m r : Int} {x y : Str} (h : TyOk c (n - m) x) (h0 : (x.length : Int) ≤ n - m) (h2 : 0 ≤ r ∧ r ≤ 1000000) (hy : flat y = List.replicate k.toNat c) (hl : (y.length : Int) ≤ k) (hk : 1 ≤ k ∧ k ≤ m) (hm : m ≤ n) : TyOk c (n - (m - k)) (x ++ y) ∧ ((x ++ y).length : Int) ≤ n - (m - k) ∧ 0 ≤ m - k ∧ m - k ≤ n ∧ 0 ≤ Int.fdiv r 4 + 3 ∧ Int.fdiv r 4 + 3 ≤ 1000000 := by
  have e : Int.fdiv r 4 = r / 4 := Int.fdiv_eq_ediv_of_nonneg _ (by decide)
  refine ⟨?_, ?_, by omega, by omega, by omega, by omega⟩
  · show flat (x ++ y) = _
    rw [flat_append, h, hy, List.replicate_append_replicate]
    congr 1
    omega
  · have : (x ++ y).length = x.length + y.length := by show (x.cps ++ y.cps).size = _; simp [Str.length]
    omega
/-- the four forms of a letter: three of them stand for one, the last for two -/
noncomputable def Forms (c : Nat) (F : Str) : Prop := flat (Txt.item F 0) = [c] ∧ flat (Txt.item F 1) = [c] ∧ flat (Txt.item F 2) = [c] ∧ flat (Txt.item F 3) = [c, c]
theorem ty_two {c : Nat} {n m r : Int} {x F : Str} (f : Forms c F) (h : TyOk c (n - m) x) (h0 : (x.length : Int) ≤ n - m) (h2 : 0 ≤ r ∧ r ≤ 1000000) (e : r.fmod 4 = 3) (hk : 2 ≤ m) (hm : m ≤ n) :
    TyOk c (n - (m - 2)) (x ++ Txt.item F (r.fmod 4)) ∧ ((x ++ Txt.item F (r.fmod 4)).length : Int) ≤ n - (m - 2) ∧ 0 ≤ m - 2 ∧ m - 2 ≤ n ∧ 0 ≤ Int.fdiv r 4 + 3 ∧ Int.fdiv r 4 + 3 ≤ 1000000 :=
  ty_turn h h0 h2 (by rw [e]; exact f.2.2.2) (by rw [len_item]; decide) ⟨by decide, hk⟩ hm
theorem ty_one {c : Nat} {n m r : Int} {x F : Str} (f : Forms c F) (h : TyOk c (n - m) x) (h0 : (x.length : Int) ≤ n - m) (h2 : 0 ≤ r ∧ r ≤ 1000000) (e : r.fmod 4 ≠ 3) (hk : 1 ≤ m) (hm : m ≤ n) :
    TyOk c (n - (m - 1)) (x ++ Txt.item F (r.fmod 4)) ∧ ((x ++ Txt.item F (r.fmod 4)).length : Int) ≤ n - (m - 1) ∧ 0 ≤ m - 1 ∧ m - 1 ≤ n ∧ 0 ≤ Int.fdiv r 4 + 3 ∧ Int.fdiv r 4 + 3 ≤ 1000000 := by
  refine ty_turn h h0 h2 ?_ (by rw [len_item]; decide) ⟨by decide, hk⟩ hm
  have e2 : Int.fmod r 4 = r % 4 := Int.fmod_eq_emod_of_nonneg _ (by decide)
  have : Int.fmod r 4 = 0 ∨ Int.fmod r 4 = 1 ∨ Int.fmod r 4 = 2 := by omega
  rcases this with e | e | e
  · rw [e]; exact f.1
  · rw [e]; exact f.2.1
  · rw [e]; exact f.2.2.1
theorem ty_zero {c : Nat} {n m r : Int} {x y : Str} (f : flat y = [c]) (hy : y.length = 1) (h : TyOk c (n - m) x) (h0 : (x.length : Int) ≤ n - m) (h2 : 0 ≤ r ∧ r ≤ 1000000) (hk : 1 ≤ m) (hm : m ≤ n) :
    TyOk c (n - (m - 1)) (x ++ y) ∧ ((x ++ y).length : Int) ≤ n - (m - 1) ∧ 0 ≤ m - 1 ∧ m - 1 ≤ n ∧ 0 ≤ Int.fdiv r 4 + 3 ∧ Int.fdiv r 4 + 3 ≤ 1000000 :=
  ty_turn h h0 h2 f (by rw [hy]; decide) ⟨by decide, hk⟩ hm
theorem ty_end {c : Nat} {n m : Int} {x : Str} (h : TyOk c (n - m) x) (h0 : (x.length : Int) ≤ n - m) (h1 : 0 ≤ m) (h2 : ¬ 0 < m) : TyOk c n x ∧ (x.length : Int) ≤ n := by
  have : m = 0 := by omega
  subst this
  rw [Int.sub_zero] at h h0
  exact ⟨h, h0⟩
local macro_rules | `(tactic| walk_at "inplaceOp Add str str") => `(tactic| (k_here; (refine SB.iadd (hsz := ?hsz) ?_); (case hsz => exact le_sl (by simp only [len_item]; omega)); intro _ _))
local macro_rules | `(tactic| walk_at "subscriptTail") => `(tactic| (k_here; (with_reducible show wpAny _ _ (subscriptTail (PySem.Expr.Dict _ _ _) _ _ _) _ _ _); refine Halt.out ?_))
local macro_rules | `(tactic| walk_at "subscriptTail Name Name str int") => `(tactic| (k_here; k_dflt (refine item_str (fitsSsize_of (N := 9223372036854775808) (by rw [Int.fmod_eq_emod_of_nonneg _ (by decide)]; omega) (by rw [Int.fmod_eq_emod_of_nonneg _ (by decide)]; omega) (Int.le_refl _)) (by rw [Int.fmod_eq_emod_of_nonneg _ (by decide)]; omega) (by rw [Int.fmod_eq_emod_of_nonneg _ (by decide)]; omega) ?_); intro _))
local macro_rules | `(tactic| walk_at "exec While Compare cons nil") => `(tactic| (k_here; refine Halt.out ?_))
theorem forms_f : Forms 102 (Str.ofString "fF𝐅ﬀ") := ⟨by kernel_rfl!, by kernel_rfl!, by kernel_rfl!, by kernel_rfl!⟩
theorem forms_s : Forms 115 (Str.ofString "sSſß") := ⟨by kernel_rfl!, by kernel_rfl!, by kernel_rfl!, by kernel_rfl!⟩
theorem forms_k : Forms 107 (Str.ofString "kK𝐊㏍") := ⟨by kernel_rfl!, by kernel_rfl!, by kernel_rfl!, by kernel_rfl!⟩
noncomputable def formT : List (PyData × PyData) := [(.str (Str.ofString "f"), .str (Str.ofString "fF𝐅ﬀ")), (.str (Str.ofString "s"), .str (Str.ofString "sSſß")), (.str (Str.ofString "k"), .str (Str.ofString "kK𝐊㏍"))]
set_option maxHeartbeats 1000000 in
theorem c_typed {w mean mg mb} (ch F : Str) (c : Nat) (n r : Int) (t1 t2 t3 : Tok) (news) (hl : PySem.Spec.lookup (.str ch) formT = some (.str F)) (e4 : F.length = 4) (ff : Forms c F) (h1 : 0 ≤ n ∧ n ≤ 6 ∧ 0 ≤ r ∧ r < 1000000) : Ctr w mean mg mb 3 30 121 [.str ch t1, .int n t2, .int r t3] news (RetSP news fun x => TyOk c n x ∧ (x.length : Int) ≤ n) := by
  unfold Ctr
  k_fill
  intros; rename_i hret
  refine wpAny_call ?_
  k_dflt cell_enter
  k_steps
  unfold Halt
  rename PyProof.V.FlatPairs _ _ _ => hf
  rename Obj.IsDictOf _ _ _ => hd
  rename (_ == sysModules) = false => lo
  rename News _ _ _ _ => N1
  have hf : PyProof.V.FlatPairs PyData.str _ formT := hf
  refine kba_turn (value' := .Name (Str.ofString "_") ⟨0, 0, 0, 0⟩) (fun _ => rfl) ?_
  refine item_strTab (TabAt.ofObj lo (N1 _ (.head _)).1 hd hf) hl ?_
  intro v9 hv9
  obtain ⟨t9, rfl⟩ := PyProof.V.Flat.str_inv hv9
  clear hf hd lo
  (try dsimp only); (try k_fold)
  k_steps
  unfold Halt
  have f0 : flat (Txt.item F 0) = [c] := ff.1
  have hsy : TyOk c (n - n) (Str.ofString "") ∧ ((Str.ofString "").length : Int) ≤ n - n ∧ 0 ≤ n ∧ n ≤ n ∧ 0 ≤ r ∧ r ≤ 1000000 := ty_start h1
  k_with "state" => first | with_reducible exact hsy | (with_reducible refine ty_two ff ?_ ?_ ?_ ?_ ?_ ?_ <;> first | with_reducible assumption | omega) | (with_reducible refine ty_one ff ?_ ?_ ?_ ?_ ?_ ?_ <;> first | with_reducible assumption | omega) | (with_reducible refine ty_zero f0 (len_item _ _) ?_ ?_ ?_ ?_ ?_ <;> first | with_reducible assumption | omega) | (trace_state; fail)
  k_while (fun (script : List Int) (typed : Str) (count turn : Int) => TyOk c (n - count) typed ∧ (typed.length : Int) ≤ n - count ∧ 0 ≤ count ∧ count ≤ n ∧ 0 ≤ turn ∧ turn ≤ 1000000) (fun (script : List Int) (typed : Str) (count turn : Int) => count.toNat) "typed" "count" "turn"
  k_steps
  all_goals first
    | (exfalso; omega)
    | (rename News _ _ _ _ => NZ; exact hret _ _ _ _ (ty_end (by assumption) (by assumption) (by omega) (by omega)) (by assumption) (fun p hp => NZ p (by first | exact hp | exact List.mem_cons_of_mem _ hp | exact List.mem_append_right _ hp)))
theorem c_typedf {w mean mg mb} (n r : Int) (t1 t2 t3 : Tok) (news) (h1 : 0 ≤ n ∧ n ≤ 6 ∧ 0 ≤ r ∧ r < 1000000) : Ctr w mean mg mb 3 30 121 [.str (Str.ofString "f") t1, .int n t2, .int r t3] news (RetSP news fun x => TyOk 102 n x ∧ (x.length : Int) ≤ n) :=
  c_typed _ _ _ n r t1 t2 t3 news (by kernel_rfl!) (by decide +kernel) forms_f h1
theorem c_typeds {w mean mg mb} (n r : Int) (t1 t2 t3 : Tok) (news) (h1 : 0 ≤ n ∧ n ≤ 6 ∧ 0 ≤ r ∧ r < 1000000) : Ctr w mean mg mb 3 30 121 [.str (Str.ofString "s") t1, .int n t2, .int r t3] news (RetSP news fun x => TyOk 115 n x ∧ (x.length : Int) ≤ n) :=
  c_typed _ _ _ n r t1 t2 t3 news (by kernel_rfl!) (by decide +kernel) forms_s h1
theorem c_typedk {w mean mg mb} (n r : Int) (t1 t2 t3 : Tok) (news) (h1 : 0 ≤ n ∧ n ≤ 6 ∧ 0 ≤ r ∧ r < 1000000) : Ctr w mean mg mb 3 30 121 [.str (Str.ofString "k") t1, .int n t2, .int r t3] news (RetSP news fun x => TyOk 107 n x ∧ (x.length : Int) ≤ n) :=
  c_typed _ _ _ n r t1 t2 t3 news (by kernel_rfl!) (by decide +kernel) forms_k h1
end Mine
end
noncomputable section
open PySem PySem.W PyProof.Rows PySem.Spec PySem.Calls
set_option linter.unusedVariables false
set_option maxRecDepth 100000
namespace Mine
noncomputable def cnt (x : Int) (ns : List Int) : Nat := (ns.filter (· < x)).length
theorem cnt_le (x : Int) (ns : List Int) : cnt x ns ≤ ns.length := List.length_filter_le _ _
theorem cnt_at (x : Int) : ∀ (ns : List Int), ns.Pairwise (· ≤ ·) → ∀ i, i < ns.length → (ns.getD i 0 < x ↔ i < cnt x ns)
  | [], _, _, h => absurd h (Nat.not_lt_zero _)
  | a :: r, hp, i, h => by
    rw [List.pairwise_cons] at hp
    by_cases ha : a < x
    · have e : cnt x (a :: r) = cnt x r + 1 := by unfold cnt; rw [List.filter_cons_of_pos (by simpa using ha)]; rfl
      rw [e]
      cases i with
      | zero => simp [ha]
      | succ i =>
        have := cnt_at x r hp.2 i (by simpa using h)
        rw [List.getD_cons_succ, this]
        omega
    · have e : cnt x (a :: r) = 0 := by
        unfold cnt
        rw [List.length_eq_zero_iff, List.filter_eq_nil_iff]
        intro b hb
        rcases List.mem_cons.mp hb with rfl | hb
        · simpa using ha
        · have := hp.1 b hb
          simp only [decide_eq_true_eq]
          omega
      rw [e]
      constructor
      · intro h'
        exfalso
        have : a ≤ (a :: r).getD i 0 := by
          cases i with
          | zero => exact Int.le_refl _
          | succ i =>
            have hi : i < r.length := by simpa using h
            have h1 : (a :: r).getD (i + 1) 0 = r[i] := by simp [List.getD, hi]
            rw [h1]
            exact hp.1 _ (List.getElem_mem hi)
        omega
      · intro h'
        exact absurd h' (Nat.not_lt_zero _)
theorem bs_up {x lo hi : Int} {ns : List Int} (hs : ns.Pairwise (· ≤ ·)) (h0 : 0 ≤ lo) (h1 : lo ≤ (cnt x ns : Int)) (h2 : (cnt x ns : Int) ≤ hi) (h3 : hi ≤ (ns.length : Int)) (h4 : lo < hi) (h : ns.getD (Int.fdiv (lo + hi) 2).toNat 0 < x) :
    0 ≤ Int.fdiv (lo + hi) 2 + 1 ∧ Int.fdiv (lo + hi) 2 + 1 ≤ (cnt x ns : Int) ∧ (cnt x ns : Int) ≤ hi ∧ hi ≤ (ns.length : Int) := by
  have e : Int.fdiv (lo + hi) 2 = (lo + hi) / 2 := Int.fdiv_eq_ediv_of_nonneg _ (by decide)
  have := (cnt_at x ns hs (Int.fdiv (lo + hi) 2).toNat (by omega)).mp h
  omega
theorem bs_down {x lo hi : Int} {ns : List Int} (hs : ns.Pairwise (· ≤ ·)) (h0 : 0 ≤ lo) (h1 : lo ≤ (cnt x ns : Int)) (h2 : (cnt x ns : Int) ≤ hi) (h3 : hi ≤ (ns.length : Int)) (h4 : lo < hi) (h : ¬ ns.getD (Int.fdiv (lo + hi) 2).toNat 0 < x) :
    0 ≤ lo ∧ lo ≤ (cnt x ns : Int) ∧ (cnt x ns : Int) ≤ Int.fdiv (lo + hi) 2 ∧ Int.fdiv (lo + hi) 2 ≤ (ns.length : Int) := by
  have e : Int.fdiv (lo + hi) 2 = (lo + hi) / 2 := Int.fdiv_eq_ediv_of_nonneg _ (by decide)
  have := mt (cnt_at x ns hs (Int.fdiv (lo + hi) 2).toNat (by omega)).mpr h
  omega
theorem fd2 (a : Int) : Int.fdiv a 2 = a / 2 := Int.fdiv_eq_ediv_of_nonneg _ (by decide)
local macro_rules | `(tactic| walk_at "exec While Compare cons nil") => `(tactic| (k_here; refine Halt.out ?_))
set_option maxHeartbeats 8000000 in
theorem c_bisect {w mean mg mb} (l : Addr) (vs : List Value) (ns : List Int) (nn : Nat) (x : Int) (t1 : Tok) (news) (hi : IntsAre vs ns) (hn : ns.length ≤ 20) (hs : ns.Pairwise (· ≤ ·)) : Ctr w mean mg mb 1 8 31 [.ref l, .int x t1] ((l, listOf vs.toArray nn) :: news) (RetV ((l, listOf vs.toArray nn) :: news) fun t => .int (cnt x ns : Int) t) := by
  unfold Ctr
  k_fill
  intros; rename_i hret
  refine wpAny_call ?_
  k_dflt (refine' code_def ?k1 ?k2 ?k3 ?k4 ?k5 ?kA ?kF ?kK ?k6 ?k7 ?k8 ?k9 ?kB ?_ ?c2 ?c3 ?c4 ?c5; (case kA => exact rfl); (case kF => exact rfl); (case kK => assumption); (case k1 => k_asm); (case k2 => k_asm); (case k3 => k_asm); (case k4 => k_asm); (case k5 => k_asm); (case k6 => k_is); (case k7 => k_is); (case k8 => ktr_room); (case k9 => (refine' kp_binds ?kx ?ke; (case kx => k_in); (case ke => exact fun _ => rfl))); (case c5 => decide); (case kB => exact locs rfl); (case c2 => exact rfl); (case c3 => exact rfl); (case c4 => exact rfl); k_whole; intro g' L' h' FG' F' N' B' X' T'; (try dsimp only); (try k_lift B'); (try k_fold))
  k_steps
  unfold Halt
  have e0 := cnt_le x ns
  k_with "state" => first | exact ⟨by decide, by omega, by omega, by omega⟩ | exact bs_up hs (by assumption) (by assumption) (by assumption) (by assumption) (by assumption) (by assumption) | exact bs_down hs (by assumption) (by assumption) (by assumption) (by assumption) (by assumption) (by omega) 
  k_with "measure" => (simp only [fd2]; omega)
  k_while (fun (script : List Int) (lo hi : Int) => 0 ≤ lo ∧ lo ≤ (cnt x ns : Int) ∧ (cnt x ns : Int) ≤ hi ∧ hi ≤ (ns.length : Int)) (fun (script : List Int) (lo hi : Int) => (hi - lo).toNat) "lo" "hi"
  k_steps
  rename News _ _ _ _ => NZ
  rename Fr _ _ _ _ => FZ
  refine cb_retI hret ?_ FZ NZ
  omega
end Mine
end
noncomputable section
open PySem PySem.W PyProof.Rows PySem.Spec PySem.Calls
set_option linter.unusedVariables false
set_option maxRecDepth 100000
namespace Mine
theorem cutI {M : Model} {A : Around} {E : Value → Shared → Prop} {s : Shared} {c : Sem Flow} {Q : Flow → Shared → Prop} {g : Heap} {L : Addr} {m : Str → Option Value} {news : List (Addr × Obj)} (F : Fr g L s.heap m) (N : News g L s.heap news) (x : Str) (n : Int)
    (h1 : ∀ Q' : Flow → Shared → Prop, (∀ t h tk, Fr g L h (fun y => if y = x then some (.int n t) else m y) → News g L h news → Q' .next { s with heap := h, toks := tk }) → wpAny M A c Q' E s)
    (h2 : ∀ t h tk, Fr g L h (fun y => if y = x then some (.int n t) else m y) → News g L h news → Q .next { s with heap := h, toks := tk }) : wpAny M A c Q E s := h1 Q h2
theorem cutV {M : Model} {A : Around} {E : Value → Shared → Prop} {s : Shared} {c : Sem Value} {Q : Value → Shared → Prop} (v : Tok → Value)
    (h1 : ∀ Q' : Value → Shared → Prop, (∀ t tk, Q' (v t) { s with toks := tk }) → wpAny M A c Q' E s)
    (h2 : ∀ t tk, Q (v t) { s with toks := tk }) : wpAny M A c Q E s := h1 Q h2
/-- the common start's length, from n on -/
noncomputable def preGo (a b : Str) : Nat → Int → Int
  | 0, n => n
  | k + 1, n => if (Txt.slice a (some n) none).length = 0 then n else if (Txt.slice b (some n) none).length = 0 then n else if (Txt.item a n == Txt.item b n) then preGo a b k (n + 1) else n
noncomputable def preF (a b : Str) : Int := preGo a b 15 0
theorem tn_up {n : Int} (h0 : 0 ≤ n) (h1 : n ≤ 14) : 15 - n.toNat = (15 - (n + 1).toNat) + 1 := by
  obtain ⟨k, rfl⟩ := Int.eq_ofNat_of_zero_le h0
  have h2 : k ≤ 14 := Int.ofNat_le.mp h1
  show 15 - k = 15 - (k + 1) + 1
  clear h0 h1
  omega
theorem tn_at {n : Int} (h0 : 0 ≤ n) (h1 : n ≤ 14) : 15 - n.toNat = (14 - n.toNat) + 1 := by
  obtain ⟨k, rfl⟩ := Int.eq_ofNat_of_zero_le h0
  have h2 : k ≤ 14 := Int.ofNat_le.mp h1
  show 15 - k = 14 - k + 1
  clear h0 h1
  omega
theorem tn_down {n : Int} (h1 : -14 ≤ n) : (15 + n).toNat = (15 + (n - 1)).toNat + 1 := by
  obtain ⟨k, hk⟩ := Int.eq_ofNat_of_zero_le (show 0 ≤ 14 + n by omega)
  have e1 : 15 + n = (k : Int) + 1 := by omega
  have e2 : 15 + (n - 1) = (k : Int) := by omega
  rw [e1, e2]
  rfl
theorem tn_low {n : Int} (h1 : -14 ≤ n) : (15 + n).toNat = (14 + n).toNat + 1 := by
  obtain ⟨k, hk⟩ := Int.eq_ofNat_of_zero_le (show 0 ≤ 14 + n by omega)
  have e1 : 15 + n = (k : Int) + 1 := by omega
  rw [e1, hk]
  rfl
theorem nz_of {n : Nat} (h : (n : Int) ≠ 0) : ¬ n = 0 := fun q => h (by rw [q]; rfl)
theorem pre_step {a b : Str} {n : Int} (h : preGo a b (15 - n.toNat) n = preF a b) (h0 : 0 ≤ n) (h1 : n ≤ 14) (ha : ((Txt.slice a (some n) none).length : Int) ≠ 0) (hb : ((Txt.slice b (some n) none).length : Int) ≠ 0) (e : (Txt.item a n == Txt.item b n) = true) :
    preGo a b (15 - (n + 1).toNat) (n + 1) = preF a b := by
  have : 15 - n.toNat = (15 - (n + 1).toNat) + 1 := tn_up h0 h1
  rw [this] at h
  rw [← h]
  unfold preGo
  rw [if_neg (nz_of ha), if_neg (nz_of hb), if_pos e]
  cases 15 - (n + 1).toNat <;> rfl
theorem pre_stop {a b : Str} {n : Int} (h : preGo a b (15 - n.toNat) n = preF a b) (h0 : 0 ≤ n) (h1 : n ≤ 14) (hx : (Txt.slice a (some n) none).length = 0 ∨ (Txt.slice b (some n) none).length = 0 ∨ (Txt.item a n == Txt.item b n) = false) : n = preF a b := by
  have : 15 - n.toNat = (14 - n.toNat) + 1 := tn_at h0 h1
  rw [this] at h
  rw [← h]
  unfold preGo
  rcases hx with hx | hx | hx
  · rw [if_pos hx]
  · by_cases h9 : (Txt.slice a (some n) none).length = 0
    · rw [if_pos h9]
    · rw [if_neg h9, if_pos hx]
  · by_cases h9 : (Txt.slice a (some n) none).length = 0
    · rw [if_pos h9]
    · by_cases h8 : (Txt.slice b (some n) none).length = 0
      · rw [if_neg h9, if_pos h8]
      · rw [if_neg h9, if_neg h8, if_neg (by simp [hx])]
/-- a[:n or None] -/
noncomputable def cutS (x : Str) (n : Int) : Str := Txt.slice x none (if n = 0 then none else some n)
theorem cutS_zero (x : Str) : cutS x 0 = Txt.slice x none none := rfl
theorem cutS_neg {x : Str} {n : Int} (h : n ≠ 0) : cutS x n = Txt.slice x none (some n) := by unfold cutS; rw [if_neg h]
theorem cutS_len (x : Str) {n : Int} (h : n ≤ 0) : ((cutS x n).length : Int) = max 0 (x.length + n) := by
  by_cases h0 : n = 0
  · subst h0
    rw [cutS_zero]
    have e : Txt.slice x none none = Txt.slice x none (some (x.length : Int)) := by
      show StrLaws.sliceText x none none = StrLaws.sliceText x none (some (x.length : Int))
      unfold StrLaws.sliceText
      rw [StrLaws.sliceIdx_none_hi]
    rw [e]
    rcases slice_ns_cases' x (x.length : Int) with ⟨h1, h2⟩ | ⟨h1, h3, h2⟩ | ⟨h1, h2⟩ <;> rw [h2] <;> omega
  · rw [cutS_neg h0]
    rcases slice_ns_cases' x n with ⟨h1, h2⟩ | ⟨h1, h3, h2⟩ | ⟨h1, h2⟩ <;> rw [h2] <;> omega
/-- the common end's length (negative), from n on -/
noncomputable def postGo (a b : Str) : Nat → Int → Int
  | 0, n => n
  | k + 1, n => if (cutS a n).length = 0 then n else if (cutS b n).length = 0 then n else if (Txt.item a (n - 1) == Txt.item b (n - 1)) then postGo a b k (n - 1) else n
noncomputable def postF (a b : Str) : Int := postGo a b 15 0
theorem post_step {a b : Str} {n : Int} (h : postGo a b (15 + n).toNat n = postF a b) (h0 : n ≤ 0) (h1 : -14 ≤ n) (ha : ((cutS a n).length : Int) ≠ 0) (hb : ((cutS b n).length : Int) ≠ 0) (e : (Txt.item a (n - 1) == Txt.item b (n - 1)) = true) :
    postGo a b (15 + (n - 1)).toNat (n - 1) = postF a b := by
  have : (15 + n).toNat = (15 + (n - 1)).toNat + 1 := tn_down h1
  rw [this] at h
  rw [← h]
  conv => rhs; unfold postGo
  rw [if_neg (nz_of ha), if_neg (nz_of hb), if_pos e]
theorem post_stop {a b : Str} {n : Int} (h : postGo a b (15 + n).toNat n = postF a b) (h0 : n ≤ 0) (h1 : -14 ≤ n) (hx : (cutS a n).length = 0 ∨ (cutS b n).length = 0 ∨ (Txt.item a (n - 1) == Txt.item b (n - 1)) = false) : n = postF a b := by
  have : (15 + n).toNat = (14 + n).toNat + 1 := tn_low h1
  rw [this] at h
  rw [← h]
  unfold postGo
  rcases hx with hx | hx | hx
  · rw [if_pos hx]
  · by_cases h9 : (cutS a n).length = 0
    · rw [if_pos h9]
    · rw [if_neg h9, if_pos hx]
  · by_cases h9 : (cutS a n).length = 0
    · rw [if_pos h9]
    · by_cases h8 : (cutS b n).length = 0
      · rw [if_neg h9, if_pos h8]
      · rw [if_neg h9, if_neg h8, if_neg (by simp [hx])]
structure OrMark : Prop where
  mark :: (one : True)
theorem orNone {M : Model} {A : Around} {E : Value → Shared → Prop} {s : Shared} {p1 p2 p4 p5 p6 : Pos} {op : BoolOp} {e3 : Expr} {env : Env} {Q : Value → Shared → Prop} {g : Heap} {L : Addr} {m : Str → Option Value} {news : List (Addr × Obj)} {y z : Str} {x : Str} {tx tn : Tok} {n : Int}
    (F : Fr g L s.heap m) (N : News g L s.heap news) (hx : m y = some (.str x tx)) (hn : m z = some (.int n tn)) (h0 : n ≤ 0)
    (h1 : ∀ Q' : Value → Shared → Prop, OrMark → (∀ u, (u = none ∧ n = 0) ∨ (u = some n ∧ n ≠ 0) → ∀ t h tk, Fr g L h m → News g L h news → Q' (.str (Txt.slice x none u) t) { s with heap := h, toks := tk }) → wpAny M A (eval (Expr.Subscript (Expr.Name y p1) (Expr.Slice none (some (Expr.BoolOp op [Expr.Name z p2, e3] p4)) none p5) p6) env) Q' E s)
    (h2 : ∀ t h tk, ((cutS x n).length : Int) = max 0 (x.length + n) → Fr g L h m → News g L h news → Q (.str (cutS x n) t) { s with heap := h, toks := tk }) : wpAny M A (eval (Expr.Subscript (Expr.Name y p1) (Expr.Slice none (some (Expr.BoolOp op [Expr.Name z p2, e3] p4)) none p5) p6) env) Q E s := by
  refine h1 Q ⟨trivial⟩ (fun u e t h tk F N => ?_)
  have : Txt.slice x none u = cutS x n := by
    rcases e with ⟨rfl, rfl⟩ | ⟨rfl, e⟩
    · rfl
    · exact (cutS_neg e).symm
  rw [this]
  exact h2 t h tk (cutS_len x h0) F N
structure And3 (p q r : Prop) : Prop where
  p : p
  q : q
  r : r
structure LevShape (a b a1 b1 a2 b2 : Str) : Prop where
  e1 : Txt.slice a (some (preF a b)) none = a1
  e2 : Txt.slice b (some (preF a b)) none = b1
  e3 : cutS a1 (postF a1 b1) = a2
  e4 : cutS b1 (postF a1 b1) = b2
  hl : b2.length < a2.length
  hl2 : a2.length ≤ 14
  hp : postF a1 b1 ≤ 0
section
variable {prog : Program} {w : World} {A : Around} {E : Value → Shared → Prop} {s : Shared} {h₀ : Heap} {L l r : Addr} {m : Str → Option Value} {news : List (Addr × Obj)} {b : Int} {t₀ u₀ v₀ : Tok} {Q : Value → Shared → Prop}
theorem ints_of_get : ∀ (vs : List Value) (ns : List Int), vs.length = ns.length → (∀ (j : Nat) (v : Value), vs[j]? = some v → ∃ t, v = .int (ns.getD j 0) t) → IntsAre vs ns
  | [], [], _, _ => IntsAre.nil
  | [], _ :: _, e, _ => by cases e
  | _ :: _, [], e, _ => by cases e
  | v :: vs, n :: ns, e, h => by
    obtain ⟨t, ht⟩ := h 0 v rfl
    have hv : v = .int n t := ht
    subst hv
    exact IntsAre.cons _ _ (ints_of_get vs ns (by simpa using e) fun j v hj => h (j + 1) v hj)
theorem size2 (k : Nat) : Builtin.Range.rangeSize 2 (2 * ((k : Int) + 1)) 2 = (k : Int) := by
  unfold Builtin.Range.rangeSize
  simp only [show (2 : Int) > 0 by decide, if_true]
  split <;> omega
/-- list(range(2, 2 * (k + 1), 2)) -/
theorem l_range2 {k : Nat} (hh : A.handled = none) (F : Fr h₀ L s.heap m) (N : News h₀ L s.heap news) (hr : IsRange s.heap r 2 b 2 t₀ u₀ v₀) (hb : b = 2 * ((k : Int) + 1)) (hz : k ≤ 1000)
    (h : ∀ D us c h' tk, Fr h₀ L h' m → News h₀ L h' ((D, listOf (List.toArray us) c) :: news) → (∀ p ∈ news, p.1 < D) → IntsAre us (rangeInts 2 2 k) → Q (.ref D) { s with heap := h', toks := tk }) :
    wpAny (model prog w) A (call (.type "list") [.ref r]) Q E s := by
  subst hb
  have hs : Builtin.Range.small 2 (2 * ((k : Int) + 1)) 2 = true := by
    unfold Builtin.Range.small
    rw [size2]
    unfold Builtin.Range.rangeFitsLong
    simp only [Bool.and_eq_true, Bool.or_eq_true, decide_eq_true_eq, beq_iff_eq]
    (try split)
    all_goals (try simp only [Bool.and_eq_true, Bool.or_eq_true, decide_eq_true_eq, beq_iff_eq])
    all_goals (try omega)
  refine call_list_range hh hr hs (size2 k) (Nat.le_trans hz (by decide)) fun h' tk acc c hk hD hI => ?_
  have hD' : h'.get? s.heap.objs.size = some (listOf (List.toArray acc.toList) c) := by
    rw [Array.toArray_toList]
    exact hD
  refine h _ acc.toList c h' tk (F.keeps hk) (news_pushed F N hk hD' rfl) (fun p hp => Heap.lt_size (N p hp).1) (ints_of_get _ _ (by rw [Array.length_toList, rangeInts_length]; exact hI.1) fun j v hj => ?_)
  have hj' : acc[j]? = some v := by rw [← hj, Array.getElem?_toList]
  obtain ⟨t, ht⟩ := hI.2 j v hj'
  have hlt : j < k := by
    have := (Array.getElem?_eq_some_iff.mp hj').1
    rw [hI.1] at this
    exact this
  refine ⟨t, ?_⟩
  rw [ht, List.getD_eq_getElem?_getD, rangeInts_get hlt]
  rfl
end
end Mine
end
noncomputable section
open PySem PySem.W PyProof.Rows PySem.Spec PySem.Calls
set_option linter.unusedVariables false
set_option maxRecDepth 100000
namespace Mine
/-! the distance's two loops as plain functions -/
noncomputable abbrev insC (row : List Int) (i r : Int) : Int := (if row.getD i.toNat 0 < r then row.getD i.toNat 0 else r) + 2
noncomputable abbrev resC (row : List Int) (i d r c : Int) : Int := if d + c < insC row i r then d + c else insC row i r
noncomputable def innerGo (A ch : Str) : List Int → List Int → Int → Int → Int → List Int × Int × Int
  | [], row, _, r, mn => (row, r, mn)
  | i :: is, row, d, r, mn => innerGo A ch is (row.set i.toNat (resC row i d r (subC ch (Txt.item A i)))) (row.getD i.toNat 0) (resC row i d r (subC ch (Txt.item A i))) (if resC row i d r (subC ch (Txt.item A i)) < mn then resC row i d r (subC ch (Txt.item A i)) else mn)
noncomputable def outerGo (A B : Str) (m : Int) : List Int → List Int → Int → Int
  | [], _, r => r
  | k :: ks, row, _ => if m < (innerGo A (Txt.item B k) (rangeKs 0 A.length) row (k * 2) (k * 2) 9223372036854775807).2.2 then m + 1
    else outerGo A B m ks (innerGo A (Txt.item B k) (rangeKs 0 A.length) row (k * 2) (k * 2) 9223372036854775807).1 (innerGo A (Txt.item B k) (rangeKs 0 A.length) row (k * 2) (k * 2) 9223372036854775807).2.1
theorem drop_ks {n : Nat} {pre : List Int} {i : Int} (hi : i = (pre.length : Int)) (hlt : pre.length < n) : (rangeKs 0 n).drop pre.length = i :: (rangeKs 0 n).drop (pre ++ [i]).length := by
  have hl : pre.length < (rangeKs 0 n).length := by rw [rangeKs_length]; exact hlt
  rw [List.drop_eq_getElem_cons hl, List.length_append, List.length_singleton]
  congr 1
  unfold rangeKs
  simp [hi]
theorem inner_less {A ch : Str} {n : Nat} {pre row : List Int} {d r mn i c : Int} {W : List Int × Int × Int} (h : innerGo A ch ((rangeKs 0 n).drop pre.length) row d r mn = W) (hi : i = (pre.length : Int)) (hlt : pre.length < n) (hc : c = subC ch (Txt.item A i)) (hm : resC row i d r c < mn) :
    innerGo A ch ((rangeKs 0 n).drop (pre ++ [i]).length) (row.set i.toNat (resC row i d r c)) (row.getD i.toNat 0) (resC row i d r c) (resC row i d r c) = W := by
  subst hc
  rw [drop_ks hi hlt] at h
  rw [← h, innerGo, if_pos hm]
theorem inner_more {A ch : Str} {n : Nat} {pre row : List Int} {d r mn i c : Int} {W : List Int × Int × Int} (h : innerGo A ch ((rangeKs 0 n).drop pre.length) row d r mn = W) (hi : i = (pre.length : Int)) (hlt : pre.length < n) (hc : c = subC ch (Txt.item A i)) (hm : ¬ resC row i d r c < mn) :
    innerGo A ch ((rangeKs 0 n).drop (pre ++ [i]).length) (row.set i.toNat (resC row i d r c)) (row.getD i.toNat 0) (resC row i d r c) mn = W := by
  subst hc
  rw [drop_ks hi hlt] at h
  rw [← h, innerGo, if_neg hm]
theorem inner_len {A ch : Str} : ∀ {is row : List Int} {d r mn : Int}, (innerGo A ch is row d r mn).1.length = row.length
  | [], _, _, _, _ => rfl
  | i :: is, row, d, r, mn => by rw [innerGo, inner_len, List.length_set]
theorem outer_step {A B : Str} {n : Nat} {m k V : Int} {pre row row' : List Int} {r r' mn' : Int} (h : outerGo A B m ((rangeKs 0 n).drop pre.length) row r = V) (hk : k = (pre.length : Int)) (hlt : pre.length < n)
    (e : innerGo A (Txt.item B k) (rangeKs 0 A.length) row (k * 2) (k * 2) 9223372036854775807 = (row', r', mn')) (hm : ¬ m < mn') : outerGo A B m ((rangeKs 0 n).drop (pre ++ [k]).length) row' r' = V := by
  rw [drop_ks hk hlt] at h
  rw [← h, outerGo, e, if_neg hm]
theorem outer_stop {A B : Str} {n : Nat} {m k V : Int} {pre row row' : List Int} {r r' mn' : Int} (h : outerGo A B m ((rangeKs 0 n).drop pre.length) row r = V) (hk : k = (pre.length : Int)) (hlt : pre.length < n)
    (e : innerGo A (Txt.item B k) (rangeKs 0 A.length) row (k * 2) (k * 2) 9223372036854775807 = (row', r', mn')) (hm : m < mn') : m + 1 = V := by
  rw [drop_ks hk hlt] at h
  rw [← h, outerGo, e, if_pos hm]
theorem outer_end {A B : Str} {n : Nat} {m V r : Int} {pre row : List Int} (h : outerGo A B m ((rangeKs 0 n).drop pre.length) row r = V) (hl : n ≤ pre.length) : r = V := by
  rw [List.drop_eq_nil_of_le (by rw [rangeKs_length]; exact hl)] at h
  exact h
theorem inner_end {A ch : Str} {n : Nat} {pre row : List Int} {d r mn : Int} {W : List Int × Int × Int} (h : innerGo A ch ((rangeKs 0 n).drop pre.length) row d r mn = W) (hl : n ≤ pre.length) : W = (row, r, mn) := by
  rw [List.drop_eq_nil_of_le (by rw [rangeKs_length]; exact hl)] at h
  exact h.symm
/-- what the distance comes to -/
noncomputable def lev (a b : Str) (m : Int) : Int :=
  if (a == b) = true then 0 else
    if (cutS (Txt.slice a (some (preF a b)) none) (postF (Txt.slice a (some (preF a b)) none) (Txt.slice b (some (preF a b)) none))).length = 0 ∨ (cutS (Txt.slice b (some (preF a b)) none) (postF (Txt.slice a (some (preF a b)) none) (Txt.slice b (some (preF a b)) none))).length = 0 then
      2 * (((cutS (Txt.slice a (some (preF a b)) none) (postF (Txt.slice a (some (preF a b)) none) (Txt.slice b (some (preF a b)) none))).length : Int) + ((cutS (Txt.slice b (some (preF a b)) none) (postF (Txt.slice a (some (preF a b)) none) (Txt.slice b (some (preF a b)) none))).length : Int))
    else if m < (((cutS (Txt.slice a (some (preF a b)) none) (postF (Txt.slice a (some (preF a b)) none) (Txt.slice b (some (preF a b)) none))).length : Int) - ((cutS (Txt.slice b (some (preF a b)) none) (postF (Txt.slice a (some (preF a b)) none) (Txt.slice b (some (preF a b)) none))).length : Int)) * 2 then m + 1
    else outerGo (cutS (Txt.slice b (some (preF a b)) none) (postF (Txt.slice a (some (preF a b)) none) (Txt.slice b (some (preF a b)) none))) (cutS (Txt.slice a (some (preF a b)) none) (postF (Txt.slice a (some (preF a b)) none) (Txt.slice b (some (preF a b)) none))) m
      (rangeKs 0 (cutS (Txt.slice a (some (preF a b)) none) (postF (Txt.slice a (some (preF a b)) none) (Txt.slice b (some (preF a b)) none))).length) (rangeInts 2 2 (cutS (Txt.slice b (some (preF a b)) none) (postF (Txt.slice a (some (preF a b)) none) (Txt.slice b (some (preF a b)) none))).length) 0
end Mine
end
noncomputable section
open PySem PySem.W PyProof.Rows PySem.Spec PySem.Calls
set_option linter.unusedVariables false
set_option maxRecDepth 100000
namespace Mine
structure LevIn (a b a1 b1 : Str) : Prop where
  e1 : Txt.slice a (some (preF a b)) none = a1
  e2 : Txt.slice b (some (preF a b)) none = b1
  hl : (cutS b1 (postF a1 b1)).length < (cutS a1 (postF a1 b1)).length
  hp : postF a1 b1 ≤ 0
theorem lev_same {a b : Str} {m : Int} (h : (a == b) = true) : lev a b m = 0 := by unfold lev; rw [if_pos h]
theorem lev_eq {a b a1 b1 : Str} {m : Int} (e1 : Txt.slice a (some (preF a b)) none = a1) (e2 : Txt.slice b (some (preF a b)) none = b1) (h : (a == b) = false) : lev a b m =
    if (cutS a1 (postF a1 b1)).length = 0 ∨ (cutS b1 (postF a1 b1)).length = 0 then 2 * (((cutS a1 (postF a1 b1)).length : Int) + ((cutS b1 (postF a1 b1)).length : Int))
    else if m < (((cutS a1 (postF a1 b1)).length : Int) - ((cutS b1 (postF a1 b1)).length : Int)) * 2 then m + 1
    else outerGo (cutS b1 (postF a1 b1)) (cutS a1 (postF a1 b1)) m (rangeKs 0 (cutS a1 (postF a1 b1)).length) (rangeInts 2 2 (cutS b1 (postF a1 b1)).length) 0 := by
  subst e1 e2
  unfold lev
  rw [if_neg (by rw [h]; decide)]
structure LevAt (a b a1 b1 : Str) (m : Int) : Prop where
  e : lev a b m = if (cutS a1 (postF a1 b1)).length = 0 ∨ (cutS b1 (postF a1 b1)).length = 0 then 2 * (((cutS a1 (postF a1 b1)).length : Int) + ((cutS b1 (postF a1 b1)).length : Int))
    else if m < (((cutS a1 (postF a1 b1)).length : Int) - ((cutS b1 (postF a1 b1)).length : Int)) * 2 then m + 1
    else outerGo (cutS b1 (postF a1 b1)) (cutS a1 (postF a1 b1)) m (rangeKs 0 (cutS a1 (postF a1 b1)).length) (rangeInts 2 2 (cutS b1 (postF a1 b1)).length) 0
theorem lev_none {a b a1 b1 : Str} {m : Int} (e : lev a b m = if (cutS a1 (postF a1 b1)).length = 0 ∨ (cutS b1 (postF a1 b1)).length = 0 then 2 * (((cutS a1 (postF a1 b1)).length : Int) + ((cutS b1 (postF a1 b1)).length : Int))
    else if m < (((cutS a1 (postF a1 b1)).length : Int) - ((cutS b1 (postF a1 b1)).length : Int)) * 2 then m + 1
    else outerGo (cutS b1 (postF a1 b1)) (cutS a1 (postF a1 b1)) m (rangeKs 0 (cutS a1 (postF a1 b1)).length) (rangeInts 2 2 (cutS b1 (postF a1 b1)).length) 0)
    (h : (cutS a1 (postF a1 b1)).length = 0 ∨ (cutS b1 (postF a1 b1)).length = 0) : lev a b m = 2 * (((cutS a1 (postF a1 b1)).length : Int) + ((cutS b1 (postF a1 b1)).length : Int)) := by rw [e, if_pos h]
theorem lev_far {a b a1 b1 : Str} {m : Int} (e : lev a b m = if (cutS a1 (postF a1 b1)).length = 0 ∨ (cutS b1 (postF a1 b1)).length = 0 then 2 * (((cutS a1 (postF a1 b1)).length : Int) + ((cutS b1 (postF a1 b1)).length : Int))
    else if m < (((cutS a1 (postF a1 b1)).length : Int) - ((cutS b1 (postF a1 b1)).length : Int)) * 2 then m + 1
    else outerGo (cutS b1 (postF a1 b1)) (cutS a1 (postF a1 b1)) m (rangeKs 0 (cutS a1 (postF a1 b1)).length) (rangeInts 2 2 (cutS b1 (postF a1 b1)).length) 0)
    (h1 : ((cutS a1 (postF a1 b1)).length : Int) ≠ 0) (h2 : ((cutS b1 (postF a1 b1)).length : Int) ≠ 0) (h3 : m < (((cutS a1 (postF a1 b1)).length : Int) - ((cutS b1 (postF a1 b1)).length : Int)) * 2) : lev a b m = m + 1 := by
  rw [e, if_neg (by omega), if_pos h3]
theorem lev_loop {a b a1 b1 : Str} {m : Int} (e : lev a b m = if (cutS a1 (postF a1 b1)).length = 0 ∨ (cutS b1 (postF a1 b1)).length = 0 then 2 * (((cutS a1 (postF a1 b1)).length : Int) + ((cutS b1 (postF a1 b1)).length : Int))
    else if m < (((cutS a1 (postF a1 b1)).length : Int) - ((cutS b1 (postF a1 b1)).length : Int)) * 2 then m + 1
    else outerGo (cutS b1 (postF a1 b1)) (cutS a1 (postF a1 b1)) m (rangeKs 0 (cutS a1 (postF a1 b1)).length) (rangeInts 2 2 (cutS b1 (postF a1 b1)).length) 0)
    (h1 : ((cutS a1 (postF a1 b1)).length : Int) ≠ 0) (h2 : ((cutS b1 (postF a1 b1)).length : Int) ≠ 0) (h3 : ¬ m < (((cutS a1 (postF a1 b1)).length : Int) - ((cutS b1 (postF a1 b1)).length : Int)) * 2) :
    lev a b m = outerGo (cutS b1 (postF a1 b1)) (cutS a1 (postF a1 b1)) m (rangeKs 0 (cutS a1 (postF a1 b1)).length) (rangeInts 2 2 (cutS b1 (postF a1 b1)).length) 0 := by
  rw [e, if_neg (by omega), if_neg h3]
end Mine
end
noncomputable section
open PySem PySem.W PyProof.Rows PySem.Spec PySem.Calls
set_option linter.unusedVariables false
set_option maxRecDepth 100000
namespace Mine
structure LevCut (a1 b1 a2 b2 : Str) : Prop where
  e3 : cutS a1 (postF a1 b1) = a2
  e4 : cutS b1 (postF a1 b1) = b2
structure LevL (a b a1 b1 a2 b2 : Str) : Prop where
  e1 : Txt.slice a (some (preF a b)) none = a1
  e2 : Txt.slice b (some (preF a b)) none = b1
  hc : LevCut a1 b1 a2 b2
  hl : b2.length < a2.length
  hp : postF a1 b1 ≤ 0
  la : a2.length ≤ 14
structure Lev2 (a b a2 b2 : Str) (m : Int) : Prop where
  e : lev a b m = if a2.length = 0 ∨ b2.length = 0 then 2 * ((a2.length : Int) + (b2.length : Int)) else if m < ((a2.length : Int) - (b2.length : Int)) * 2 then m + 1
    else outerGo b2 a2 m (rangeKs 0 a2.length) (rangeInts 2 2 b2.length) 0
theorem LevL.at {a b a1 b1 a2 b2 : Str} (h : LevL a b a1 b1 a2 b2) (m : Int) (hn : (a == b) = false) : Lev2 a b a2 b2 m := by
  obtain ⟨e1, e2, ⟨e3, e4⟩, _, _, _⟩ := h
  have := lev_eq (m := m) e1 e2 hn
  rw [e3, e4] at this
  exact ⟨this⟩
theorem Lev2.none {a b a2 b2 : Str} {m : Int} (h : Lev2 a b a2 b2 m) (x : a2.length = 0 ∨ b2.length = 0) : lev a b m = 2 * ((a2.length : Int) + (b2.length : Int)) := by rw [h.e, if_pos x]
theorem Lev2.far {a b a2 b2 : Str} {m : Int} (h : Lev2 a b a2 b2 m) (h1 : (a2.length : Int) ≠ 0) (h2 : (b2.length : Int) ≠ 0) (h3 : m < ((a2.length : Int) - (b2.length : Int)) * 2) : lev a b m = m + 1 := by rw [h.e, if_neg (by omega), if_pos h3]
theorem Lev2.loop {a b a2 b2 : Str} {m : Int} (h : Lev2 a b a2 b2 m) (h1 : (a2.length : Int) ≠ 0) (h2 : (b2.length : Int) ≠ 0) (h3 : ¬ m < ((a2.length : Int) - (b2.length : Int)) * 2) : lev a b m = outerGo b2 a2 m (rangeKs 0 a2.length) (rangeInts 2 2 b2.length) 0 := by rw [h.e, if_neg (by omega), if_neg h3]
local macro_rules | `(tactic| walk_at "exec While BoolOp cons nil") => `(tactic| (k_here; refine Halt.out ?_))
local macro_rules | `(tactic| walk_at "exec While BoolOp") => `(tactic| (k_here; refine Halt.out ?_))
local macro_rules | `(tactic| walk_at "pyIter ref") => `(tactic| (k_here; refine Halt.out ?_))
local macro_rules | `(tactic| walk_at "subscriptTail Name Slice str ref") => `(tactic| (k_here; (with_reducible show wpAny _ _ (subscriptTail _ (Expr.Slice none (some (Expr.BoolOp _ _ _)) none _) _ _) _ _ _); (with_reducible rename Fr _ _ _ _ => F7); (with_reducible rename News _ _ _ _ => N7); (refine slice_strN_nn (hsz := ?hsz) (s := ⟨_, _, _, _, _⟩) F7 N7 ?_); (case hsz => size_fits); intro _ _ _ _ _))
local macro_rules | `(tactic| walk_at "eval Subscript") => `(tactic| (k_here; (with_reducible show wpAny _ _ (eval (Expr.Subscript (Expr.Name _ _) (Expr.Slice none (some (Expr.BoolOp _ [Expr.Name _ _, _] _)) none _) _) _) _ _ _); (fail_if_success (have q9 : OrMark := by assumption)); (with_reducible rename Fr _ _ _ _ => F7); (with_reducible rename News _ _ _ _ => N7); k_dflt (refine orNone (by exact F7) (by exact N7) (by with_unfolding_all rfl) (by with_unfolding_all rfl) (by omega) (by intro Q7 mk7 hq7; k_steps; all_goals (refine hq7 _ ?_ _ _ _ (by assumption) (by assumption); first | exact .inl ⟨rfl, by assumption⟩ | exact .inr ⟨rfl, by assumption⟩)) ?_; intro t7 h7 tk7 l7 F8 N8; (with_reducible rename LevCut _ _ _ _ => hc7); (first | (rw [LevCut.e3 hc7]; clear l7) | (rw [LevCut.e4 hc7]; clear l7) | skip); (try dsimp only); (try k_fold))))
local macro_rules | `(tactic| walk_at "call type:list") => `(tactic| (k_here; (with_reducible show wpAny _ _ (call (Value.type _) [Value.ref _]) _ _ _); (rename IsRange _ _ _ _ _ _ _ _ => rgX); k_dflt (refine l_range2 rfl (by k_asm) (by k_asm) (by exact rgX) (by rfl) (by omega) ?_; intro D' us' c' h' tk' F' N' l1 hI'; (try k_lt l1); (try dsimp only); (try k_fold))))
local macro_rules | `(tactic| walk_at "call ref") => `(tactic| (k_here; (with_reducible show wpAny _ _ (call (Value.ref 102) [Value.str _ _, Value.str _ _]) _ _ _); k_dflt (refine Ctr.use (c_subst _ _ _ _ _ (by omega) (by omega)) (by k_asm) (by k_asm) (by k_asm) (by k_asm) (by k_asm) (by first | exact rfl | assumption) (by ktr_room) (by ktr_units) ?_; intro t9 h9 tk9 F9 N9; (try dsimp only); (try k_fold))))
theorem kx_ok {k : Int} {n len : Nat} (h : k = 0 + (n : Int)) (h2 : n < ((len : Int) - 0).toNat) (hl : len ≤ 14) : -(9223372036854775808 : Int) < k ∧ k < 9223372036854775808 ∧ -(len : Int) ≤ k ∧ k < (len : Int) ∧ 0 ≤ k := by omega
theorem fr_five {h₀ h : Heap} {L : Addr} {m : Str → Option Value} {x1 x2 x3 x4 x5 : Str} {v1 v2 v3 v4 v5 : Value} (F : Fr h₀ L h m) (e1 : m x1 = some v1) (e2 : m x2 = some v2) (e3 : m x3 = some v3) (e4 : m x4 = some v4) (e5 : m x5 = some v5) :
    ∃ mm : Str → Option Value, Fr h₀ L h (fun z => if z = x1 then some v1 else if z = x2 then some v2 else if z = x3 then some v3 else if z = x4 then some v4 else if z = x5 then some v5 else mm z) := by
  refine ⟨m, ?_⟩
  have e : m = fun z => if z = x1 then some v1 else if z = x2 then some v2 else if z = x3 then some v3 else if z = x4 then some v4 else if z = x5 then some v5 else m z := by
    funext z
    by_cases h1 : z = x1
    · rw [if_pos h1, h1, e1]
    rw [if_neg h1]
    by_cases h2 : z = x2
    · rw [if_pos h2, h2, e2]
    rw [if_neg h2]
    by_cases h3 : z = x3
    · rw [if_pos h3, h3, e3]
    rw [if_neg h3]
    by_cases h4 : z = x4
    · rw [if_pos h4, h4, e4]
    rw [if_neg h4]
    by_cases h5 : z = x5
    · rw [if_pos h5, h5, e5]
    rw [if_neg h5]
  rw [← e]
  exact F
theorem fr_four {h₀ h : Heap} {L : Addr} {m : Str → Option Value} {x1 x2 x3 x4 : Str} {v1 v2 v3 v4 : Value} (F : Fr h₀ L h m) (e1 : m x1 = some v1) (e2 : m x2 = some v2) (e3 : m x3 = some v3) (e4 : m x4 = some v4) :
    ∃ mm : Str → Option Value, Fr h₀ L h (fun z => if z = x1 then some v1 else if z = x2 then some v2 else if z = x3 then some v3 else if z = x4 then some v4 else mm z) := by
  refine ⟨m, ?_⟩
  have e : m = fun z => if z = x1 then some v1 else if z = x2 then some v2 else if z = x3 then some v3 else if z = x4 then some v4 else m z := by
    funext z
    by_cases h1 : z = x1
    · rw [if_pos h1, h1, e1]
    rw [if_neg h1]
    by_cases h2 : z = x2
    · rw [if_pos h2, h2, e2]
    rw [if_neg h2]
    by_cases h3 : z = x3
    · rw [if_pos h3, h3, e3]
    rw [if_neg h3]
    by_cases h4 : z = x4
    · rw [if_pos h4, h4, e4]
    rw [if_neg h4]
  rw [← e]
  exact F
theorem outer_start {A B : Str} {m : Int} {ks row : List Int} {r : Int} : outerGo A B m (ks.drop ([] : List Int).length) row r = outerGo A B m ks row r := rfl
theorem inner_start {A ch : Str} {ks row : List Int} {d r mn : Int} : innerGo A ch (ks.drop ([] : List Int).length) row d r mn = innerGo A ch ks row d r mn := rfl
set_option maxHeartbeats 8000000 in
theorem c_lev {w mean mg mb} (a b : Str) (m : Int) (t1 t2 t3 : Tok) (news) (h1 : a.length ≤ 14 ∧ b.length ≤ 14 ∧ 0 ≤ m ∧ m ≤ 100) (a1 b1 a2 b2 : Str) (sh : LevL a b a1 b1 a2 b2) :
    Ctr w mean mg mb 3 30 109 [.str a t1, .str b t2, .int m t3] news (RetV news fun t => .int (lev a b m) t) := by
  unfold Ctr
  k_fill
  intros; rename_i hret
  refine wpAny_call ?_
  k_dflt cell_enter
  k_steps
  · rename News _ _ _ _ => NZ; rename Fr _ _ _ _ => FZ
    exact cb_retI hret (lev_same (by simpa using ‹(a == b) = true›)).symm FZ NZ
  unfold Halt
  have hne : (a == b) = false := by assumption
  rename Fr _ _ _ _ => F0; rename News _ _ _ _ => N0
  obtain ⟨m1, F1⟩ := fr_four (x1 := Str.ofString "pre") (x2 := Str.ofString "a") (x3 := Str.ofString "b") (x4 := Str.ofString "max_cost") F0 (by with_unfolding_all rfl) (by with_unfolding_all rfl) (by with_unfolding_all rfl) (by with_unfolding_all rfl)
  clear F0
  refine cutI F1 N0 (Str.ofString "pre") (preF a b) ?_ ?_
  · intro Q' hq
    k_with "state" => first | exact ⟨rfl, by decide, by decide⟩ | exact ⟨pre_step (by assumption) (by assumption) (by assumption) (by assumption) (by assumption) (by assumption), by omega, by omega⟩
    k_while (fun (script : List Int) (pre : Int) => preGo a b (15 - pre.toNat) pre = preF a b ∧ 0 ≤ pre ∧ pre ≤ 14) (fun (script : List Int) (pre : Int) => (15 - pre).toNat) "pre"
    k_steps
    all_goals (have e9 := pre_stop (a := a) (b := b) (by assumption) (by assumption) (by assumption) (by first | exact .inl (by omega) | exact .inr (.inl (by omega)) | exact .inr (.inr (by assumption))); rw [← e9] at hq; exact hq _ _ _ (by assumption) (by assumption))
  intro t8 h8 tk8 F8 N8
  (try dsimp only); (try k_fold)
  k_steps
  unfold Halt
  rename Fr _ _ _ _ => F0; rename News _ _ _ _ => N0
  have lv := sh.at m hne
  obtain ⟨e1, e2, hc3, hl3, hp0, la3⟩ := sh
  rw [e1, e2] at F0
  have l1 : a1.length ≤ 14 := by rw [← e1]; exact Nat.le_trans (Txt.slice_le _ _ _) h1.1
  have l2 : b1.length ≤ 14 := by rw [← e2]; exact Nat.le_trans (Txt.slice_le _ _ _) h1.2.1
  clear e1 e2
  obtain ⟨m2, F2⟩ := fr_four (x1 := Str.ofString "post") (x2 := Str.ofString "a") (x3 := Str.ofString "b") (x4 := Str.ofString "max_cost") F0 (by with_unfolding_all rfl) (by with_unfolding_all rfl) (by with_unfolding_all rfl) (by with_unfolding_all rfl)
  clear F0
  refine cutI F2 N0 (Str.ofString "post") (postF a1 b1) ?_ ?_
  · intro Q' hq
    k_with "state" => first | exact ⟨rfl, by decide, by decide⟩ | exact ⟨post_step (by assumption) (by assumption) (by assumption) (by assumption) (by assumption) (by assumption), by omega, by omega⟩
    k_while (fun (script : List Int) (post : Int) => postGo a1 b1 (15 + post).toNat post = postF a1 b1 ∧ post ≤ 0 ∧ -14 ≤ post) (fun (script : List Int) (post : Int) => (post + 15).toNat) "post"
    k_steps
    all_goals (have e9 := post_stop (a := a1) (b := b1) (by assumption) (by assumption) (by assumption) (by first | exact .inl (by omega) | exact .inr (.inl (by omega)) | exact .inr (.inr (by assumption))); rw [← e9] at hq; exact hq _ _ _ (by assumption) (by assumption))
  intro t9 h9 tk9 F9 N9
  (try dsimp only); (try k_fold)
  k_steps
  · rename News _ _ _ _ => NZ; rename Fr _ _ _ _ => FZ
    exact cb_retI hret (lv.far (by assumption) (by assumption) (by assumption)).symm FZ (fun p hp => NZ p (List.mem_cons_of_mem _ hp))
  · unfold Halt
    have lv2 := lv.loop (by assumption) (by assumption) (by assumption)
    clear lv hp0
    rename LevCut _ _ _ _ => hc3
    clear hc3
    rename ((_ : Str).length : Int) ≠ 0 => q1
    clear q1
    rename ((_ : Str).length : Int) ≠ 0 => q2
    clear q2
    rename ¬ m < _ => q3
    clear q3
    rename (Txt.slice _ _ _).length ≤ _ => q4
    clear q4
    rename (Txt.slice _ _ _).length ≤ _ => q5
    have hm9 := h1.2.2
    clear q5 l1 l2 h1
    rename Fr _ _ _ _ => F5
    obtain ⟨mm, F6⟩ := fr_five (x1 := Str.ofString "result") (x2 := Str.ofString "row") (x3 := Str.ofString "a") (x4 := Str.ofString "b") (x5 := Str.ofString "max_cost") F5 (by with_unfolding_all rfl) (by with_unfolding_all rfl) (by with_unfolding_all rfl) (by with_unfolding_all rfl) (by with_unfolding_all rfl)
    clear F5
    k_with "state" => (with_reducible (first
      | exact ⟨outer_start, rangeInts_length _ _ _⟩
      | exact ⟨inner_start, rfl⟩
      | exact ⟨inner_less (by assumption) (by omega) (by omega) rfl (by assumption), by rw [List.length_set]; assumption⟩
      | exact ⟨inner_more (by assumption) (by omega) (by omega) rfl (by assumption), by rw [List.length_set]; assumption⟩
      | exact ⟨outer_step (by assumption) (by omega) (by omega) (inner_end (by assumption) (by rw [rangeKs_length]; omega)) (by omega), by omega⟩
     ))
    k_state (fun (pre row : List Int) (result : Int) => outerGo b2 a2 m ((rangeKs 0 a2.length).drop pre.length) row result = outerGo b2 a2 m (rangeKs 0 a2.length) (rangeInts 2 2 b2.length) 0 ∧ row.length = b2.length) "row" "result"
    · (try (rename _ = 0 + (_ : Int) => hk1; rename _ < (_ : Int).toNat => hk2; obtain ⟨x1, x2, x3, x4, x5⟩ := kx_ok hk1 hk2 la3))
      k_steps
      unfold Halt
      have lb3 : b2.length ≤ 14 := Nat.le_of_lt (Nat.lt_of_lt_of_le hl3 la3)
      k_state_given ["row!", "distance!", "result!", "minimum!", "bchar"] (fun (row₀ : List Int) (d₀ r₀ m₀ : Int) (ch : Str) (pre row : List Int) (d r mn : Int) => innerGo b2 ch ((rangeKs 0 b2.length).drop pre.length) row d r mn = innerGo b2 ch (rangeKs 0 b2.length) row₀ d₀ r₀ m₀ ∧ row.length = row₀.length) "row" "distance" "result" "minimum"
      · (try (rename _ = 0 + (_ : Int) => hk3; rename _ < (_ : Int).toNat => hk4; obtain ⟨y1, y2, y3, y4, y5⟩ := kx_ok hk3 hk4 lb3))
        k_steps
      · k_steps
        have ei := inner_end (by assumption) (by rw [rangeKs_length]; omega)
        have e9 := (outer_stop (by assumption) (by omega) (by omega) ei (by assumption)).trans lv2.symm
        rename News _ _ _ _ => NZ; rename Fr _ _ _ _ => FZ
        first | exact cb_retI hret e9 FZ NZ | exact cb_retI hret e9 FZ (fun p hp => NZ p (by simp [hp]))
    · k_steps
      have e9 := (outer_end (by assumption) (by rw [rangeKs_length]; omega)).trans lv2.symm
      rename News _ _ _ _ => NZ; rename Fr _ _ _ _ => FZ
      first | exact cb_retI hret e9 FZ NZ | exact cb_retI hret e9 FZ (fun p hp => NZ p (by simp [hp]))
  · rename News _ _ _ _ => NZ; rename Fr _ _ _ _ => FZ
    exact cb_retI hret (lv.none (by omega)).symm FZ NZ
  · rename News _ _ _ _ => NZ; rename Fr _ _ _ _ => FZ
    exact cb_retI hret (lv.none (by omega)).symm FZ NZ
end Mine
end
noncomputable section
open PySem PySem.W PyProof.Rows PySem.Spec PySem.Calls
set_option linter.unusedVariables false
set_option maxRecDepth 100000
namespace Mine
noncomputable def txt (w : World) : Bool := w.params.followText "set-order"
noncomputable def keyI : Value → Int
  | .int n _ => n
  | _ => 0
noncomputable abbrev keysA (es : Array (Int × Value)) : List Int := es.toList.map fun e => keyI e.2
/-- entries of ints with their hashes -/
noncomputable def ElI (l : List (Int × Value)) : Prop := ∀ e ∈ l, ∃ k t, e = (hashInt k, .int k t)
theorem ElI.of {prog : Program} {w : World} {l : List (Int × Value)} (h : ElI l) : ElemsOf (intKind prog w) l := fun e he => by
  obtain ⟨k, t, rfl⟩ := h e he
  exact ⟨⟨k, intKind_is _ _ _ _, rfl⟩, rfl⟩
theorem ElI.perm {l l' : List (Int × Value)} (h : ElI l) (p : l'.Perm l) : ElI l' := fun e he => h e (p.mem_iff.mp he)
theorem ElI.push {es : Array (Int × Value)} (h : ElI es.toList) (k : Int) (t : Tok) : ElI (es.push (hashInt k, .int k t)).toList := fun e he => by
  rw [Array.toList_push] at he
  rcases List.mem_append.mp he with he | he
  · exact h e he
  · rw [List.mem_singleton] at he
    exact ⟨k, t, he⟩
noncomputable def addT (t : SetTable) (es : Array (Int × Value)) (h : Int) (x : Value) : Array (Int × Value) × SetTable :=
  if (!(layNew t es h x).2.2.1 && (layNew t es h x).2.1.tooFull) = true then
    ((relayAll (layNew t es h x).2.1 (layNew t es h x).1 (SetTable.grown (layNew t es h x).1.size)).1, (relayAll (layNew t es h x).2.1 (layNew t es h x).1 (SetTable.grown (layNew t es h x).1.size)).2.1)
  else ((layNew t es h x).1, (layNew t es h x).2.1)
theorem addT_perm (t : SetTable) (es : Array (Int × Value)) (h : Int) (x : Value) : List.Perm (addT t es h x).1.toList (es.push (h, x)).toList := by
  unfold addT
  split
  · exact (relayAll_perm _ _ _).trans (layNew_perm t es h x)
  · exact layNew_perm t es h x
theorem addT_fits (t : SetTable) (es : Array (Int × Value)) (h : Int) (x : Value) : (addT t es h x).2.fits (addT t es h x).1.size = true := by
  unfold addT
  split
  · exact relayAll_fits _ _ _
  · exact layNew_fits t es h x
theorem layNew_led (t : SetTable) (es : Array (Int × Value)) (h : Int) (x : Value) : (layNew t es h x).2.1.led = t.led := by
  unfold layNew
  split
  · dsimp only [SetTable.put, SetTable.orStandIn]
    repeat (first | rfl | split)
  · rfl
theorem laid_led {mask finger moves : Nat} {led plain : Bool} {hs : Array Int} {r : SetTable × Array Nat} (h : SetTable.laid mask finger moves led plain hs = some r) : r.1.led = led := by
  unfold SetTable.laid at h
  cases hc : SetTable.layClean mask hs with
  | none => rw [hc] at h; exact nomatch h
  | some o =>
    rw [hc] at h
    have := Option.some.inj h
    rw [← this]
theorem relayAll_led (t : SetTable) (es : Array (Int × Value)) (wanted : Nat) : (relayAll t es wanted).2.1.led = t.led := by
  unfold relayAll
  split
  · rename_i t' order he
    dsimp only
    split
    · exact laid_led (r := (t', order)) he
    · rfl
  · rfl
theorem addT_led (t : SetTable) (es : Array (Int × Value)) (h : Int) (x : Value) : (addT t es h x).2.led = t.led := by
  unfold addT
  split
  · exact (relayAll_led _ _ _).trans (layNew_led t es h x)
  · exact layNew_led t es h x
section
variable {prog : Program} {w : World} {A : Around} {E : Value → Shared → Prop} {s : Shared}
theorem is_int_iff (k : Int) (e : Int × Value) (he : ∃ j t, e = (hashInt j, .int j t)) : (intKind prog w).is k e.2 = true ↔ keyI e.2 = k := by
  obtain ⟨j, t, rfl⟩ := he
  show (j == k) = true ↔ j = k
  simp
theorem gave_ok (b : Bool) {Q' : Unit → Shared → Prop} (hq : Q' () s) : wpAny (model prog w) A (match b with | true => rule "set.scan.the-table-gave-way" | false => pure ()) Q' E s := by
  cases b <;> first | exact wpAny_pure hq | exact wpAny_rule hq
theorem find_none {es : Array (Int × Value)} {k : Int} (hel : ElI es.toList) (h : es.toList.findIdx? (fun e => (intKind prog w).is k e.2) = none) : k ∉ keysA es := by
  intro hk
  obtain ⟨e, he, e2⟩ := List.mem_map.mp hk
  have := List.findIdx?_eq_none_iff.mp h e he
  rw [(is_int_iff (prog := prog) (w := w) k e (hel e he)).mpr e2] at this
  exact Bool.noConfusion this
theorem find_some {es : Array (Int × Value)} {k : Int} {j : Nat} (hel : ElI es.toList) (h : es.toList.findIdx? (fun e => (intKind prog w).is k e.2) = some j) : k ∈ keysA es := by
  obtain ⟨hj, hp, _⟩ := List.findIdx?_eq_some_iff_getElem.mp h
  exact List.mem_map.mpr ⟨_, List.getElem_mem hj, (is_int_iff (prog := prog) (w := w) k _ (hel _ (List.getElem_mem hj))).mp hp⟩
theorem setAdd_T {a : Addr} {o : Obj} {es : Array (Int × Value)} {ep : Nat} {t : SetTable} {k : Int} {tk : Tok} {Q : Bool → Shared → Prop} (ho : s.heap.get? a = some o) (hd : o.data = .set es ep t) (hel : ElI es.toList) (hf : t.fits es.size = true) (hb : es.size + 1 < scanBound)
    (h0 : k ∈ keysA es → Q false { s with toks := s.toks + 1 })
    (h1 : k ∉ keysA es → ∀ h' ep', Heap.SameBut a s.heap h' → h'.get? a = some { o with data := .set (addT t es (hashInt k) (.int k tk)).1 ep' (addT t es (hashInt k) (.int k tk)).2 } → Q true { s with heap := h', toks := s.toks + 1 }) :
    wpAny (model prog w) A (setAdd a (.int k tk)) Q E s := by
  have hkey : (intKind prog w).is k (.int k tk) = true := intKind_is _ _ _ _
  have hsc : (Value.int k tk).scannable = true := rfl
  unfold setAdd
  refine wpAny_holding (wpAny_bind ((intKind prog w).pyHash hkey ?_))
  show wpAny (model prog w) A (setAddHashed a (.int k tk) (hashInt k)) Q E { s with toks := s.toks + 1 }
  unfold setAddHashed setAddHashedIn
  refine wpAny_holding (wpAny_bind (wpAny_setState_of (s := { s with toks := s.toks + 1 }) ho hd hf ?_))
  dsimp only
  rw [byScan_of (knd := intKind prog w) hsc (by omega) hel.of]
  simp only [↓reduceIte]
  unfold setAddByScan
  refine wpAny_bind ?_
  refine wpAny_bind (wpAny_rule ?_)
  refine wpAny_bind (wpAny_setScan_of (s := { s with toks := s.toks + 1 }) (knd := intKind prog w) (k := k) hkey ho hd hf hel.of ?_)
  cases hr : List.findIdx? (fun e => (intKind prog w).is k e.2) es.toList with
  | some j =>
    dsimp only
    exact wpAny_pure (wpAny_pure (h0 (find_some hel hr)))
  | none =>
    dsimp only
    have hk := h1 (find_none hel hr)
    unfold addT at hk
    have hsz : (layNew t es (hashInt k) (.int k tk)).1.size < scanBound := by
      have := (layNew_perm t es (hashInt k) (.int k tk)).length_eq
      rw [Array.length_toList, Array.length_toList, Array.size_push] at this
      omega
    generalize hL : layNew t es (hashInt k) (.int k tk) = L at hk hsz ⊢
    obtain ⟨es1, t1, wd, gv⟩ := L
    dsimp only at hk hsz ⊢
    refine wpAny_bind (gave_ok _ ?_)
    have tail : wpAny (model prog w) A (do
        storeSet a es1 t1
        if (!wd && t1.tooFull) = true then do
            (match (relayAll t1 es1 (SetTable.grown es1.size)).2.2 with | true => rule "set.scan.the-table-gave-way" | false => pure ())
            storeSet a (relayAll t1 es1 (SetTable.grown es1.size)).1 (relayAll t1 es1 (SetTable.grown es1.size)).2.1
            pure (some true)
          else pure (some true)) (fun r s' => r = some true ∧ Q true s') E { s with toks := s.toks + 1 } := by
      refine wpAny_bind (wpAny_storeSet_of (s := { s with toks := s.toks + 1 }) ho hd ?_ (fits_of_scanBound hsz))
      have hg1 : (s.heap.update a (Obj.putSet es1 t1)).get? a = some { o with data := .set es1 (ep + 1) t1 } := by
        have := Heap.get?_update_self (Obj.putSet es1 t1) ho (by rw [putSet_of es1 t1 hd]; rfl)
        rw [putSet_of es1 t1 hd] at this
        exact this
      have hsb1 := Heap.SameBut.update s.heap a (Obj.putSet es1 t1)
      split
      · rename_i hc
        rw [if_pos hc] at hk
        refine wpAny_bind (gave_ok _ ?_)
        have hsz2 : (relayAll t1 es1 (SetTable.grown es1.size)).1.size < scanBound := by
          have := (relayAll_perm t1 es1 (SetTable.grown es1.size)).length_eq
          rw [Array.length_toList, Array.length_toList] at this
          omega
        refine wpAny_bind (wpAny_storeSet_of hg1 rfl ?_ (fits_of_scanBound hsz2))
        refine wpAny_pure ⟨rfl, ?_⟩
        refine hk _ (ep + 1 + 1) (hsb1.trans (Heap.SameBut.update _ a _)) ?_
        have := Heap.get?_update_self (Obj.putSet (relayAll t1 es1 (SetTable.grown es1.size)).1 (relayAll t1 es1 (SetTable.grown es1.size)).2.1) hg1 (by rw [putSet_of (ep := ep + 1) (es := es1) (t := t1) _ _ rfl]; rfl)
        rw [putSet_of (ep := ep + 1) (es := es1) (t := t1) _ _ rfl] at this
        exact this
      · rename_i hc
        rw [if_neg hc] at hk
        exact wpAny_pure ⟨rfl, hk _ (ep + 1) hsb1 hg1⟩
    split
    · refine wpAny_bind ?_
      rw [hashByValue_scannable 8 hsc]
      refine wpAny_pure ?_
      show wpAny _ _ _ _ _ _
      simp only [plainKind, ↓reduceIte]
      refine wpAny_mono tail (fun r s' h' => ?_) fun _ _ x => x
      obtain ⟨rfl, h'⟩ := h'
      exact wpAny_pure h'
    · refine wpAny_bind (wpAny_pure ?_)
      simp only [↓reduceIte]
      refine wpAny_mono tail (fun r s' h' => ?_) fun _ _ x => x
      obtain ⟨rfl, h'⟩ := h'
      exact wpAny_pure h'
end
end Mine
end
noncomputable section
open PySem PySem.W PyProof.Rows PySem.Spec PySem.Calls
set_option linter.unusedVariables false
set_option maxRecDepth 100000
namespace Mine
/-- a set of the call's own, its ints in no order -/
noncomputable def SetI (w : World) (o : Obj) (ns : List Int) : Prop :=
  o.ExactSet ∧ ∃ es ep t, o.data = .set es ep t ∧ ElI es.toList ∧ (keysA es).Perm ns ∧ t.fits es.size = true ∧ (txt w = false → t.led = true)
noncomputable def addN (k : Int) (ns : List Int) : List Int := if k ∈ ns then ns else k :: ns
theorem keysA_push (es : Array (Int × Value)) (h k : Int) (tk : Tok) : keysA (es.push (h, .int k tk)) = keysA es ++ [k] := by
  unfold keysA
  rw [Array.toList_push, List.map_append]
  rfl
theorem keysA_len (es : Array (Int × Value)) : (keysA es).length = es.size := by
  unfold keysA
  rw [List.length_map, Array.length_toList]
theorem SetI.setOf {prog : Program} {w : World} {h : Heap} {a : Addr} {o : Obj} {ns : List Int} (hs : SetI w o ns) (ho : h.get? a = some o) (hb : ns.length < scanBound) : h.SetOf (intKind prog w) a (fun k => decide (k ∈ ns)) ns.length := by
  obtain ⟨hex, es, ep, t, hd, hel, hp, hf, _⟩ := hs
  have hl : es.size = ns.length := by rw [← keysA_len, hp.length_eq]
  refine ⟨o, es, ep, t, ho, hex, hd, hel.of, fun k => ?_, by omega, hf, hl⟩
  rw [decide_eq_true_eq, ← hp.mem_iff]
  constructor
  · intro hk
    obtain ⟨e, he, e2⟩ := List.mem_map.mp hk
    exact ⟨e, he, (is_int_iff k e (hel e he)).mpr e2⟩
  · rintro ⟨e, he, e2⟩
    exact List.mem_map.mpr ⟨e, he, (is_int_iff k e (hel e he)).mp e2⟩
theorem erase_toList {α : Type} (xs : Array α) (i : Nat) : (SetTable.eraseAt xs i).toList = xs.toList.take i ++ xs.toList.drop (i + 1) := by
  unfold SetTable.eraseAt
  simp [Array.toList_extract, List.extract]
  rw [List.take_of_length_le (by simp)]
theorem fits_iff {t : SetTable} {n : Nat} : t.fits n = true ↔ t.place.size = n ∧ t.place.size + t.dummies.size ≤ t.mask := by
  unfold SetTable.fits
  rw [Bool.and_eq_true, beq_iff_eq]
  exact ⟨fun h => ⟨h.1, of_decide_eq_true h.2⟩, fun h => ⟨h.1, decide_eq_true h.2⟩⟩
theorem SetI.wf {w : World} {o : Obj} {ns : List Int} (h : SetI w o ns) {ns' : List Int} (p : ns.Perm ns') : SetI w o ns' := by
  obtain ⟨hex, es, ep, t, hd, hel, hp, hf, hl⟩ := h
  exact ⟨hex, es, ep, t, hd, hel, hp.trans p, hf, hl⟩
section
variable {prog : Program} {w : World} {A : Around} {E : Value → Shared → Prop} {s : Shared} {h₀ : Heap} {L sa : Addr} {m : Str → Option Value} {news : List (Addr × Obj)} {g : Obj → List (Addr × Obj)} {so : Obj} {ns : List Int} {k : Int} {tk : Tok}
theorem s_add {Q : Value → Shared → Prop} (F : Fr h₀ L s.heap m) (N : News h₀ L s.heap news) (U : UpdF sa so news g) (hso : SetI w so ns) (hb : ns.length + 1 < scanBound)
    (h : ∀ h' so', Fr h₀ L h' m → News h₀ L h' (g so') → SetI w so' (addN k ns) → Q .none { s with heap := h', toks := s.toks + 1 }) :
    wpAny (model prog w) A (call (.builtin "set.add") [.ref sa, .int k tk]) Q E s := by
  obtain ⟨pre, post, rfl, hg, a, b⟩ := U.split
  have hm := N (sa, so) (List.mem_append_right _ (.head _))
  obtain ⟨hex, es, ep, t, hd, hel, hp, hf, hl⟩ := hso
  have hsz : es.size = ns.length := by rw [← keysA_len, hp.length_eq]
  refine wpAny_call_entry PySem.F.slot_set_add ⟨so, hm.1, hex.1⟩ PySem.F.entry_set_add ?_ (PySem.F.args_set_add_2 _ _)
  unfold Builtin.«set.add» Builtin.Frozenset.oneOther
  simp only [List.isEmpty_nil, bind_assoc]
  unfold Builtin.Frozenset.addrOf
  refine wpAny_bind (wpAny_pure ?_)
  try dsimp only
  refine wpAny_bind (wpAny_pure ?_)
  try dsimp only
  refine wpAny_bind ?_
  refine setAdd_T (ep := ep) hm.1 hd hel hf (by omega) (fun hk => ?_) (fun hk h' ep' hsb hg' => ?_)
  · refine wpAny_pure ⟨_, rfl, ?_⟩
    have := h s.heap so F (hg so ▸ N) ⟨hex, es, ep, t, hd, hel, by unfold addN; rw [if_pos (hp.mem_iff.mp hk)]; exact hp, hf, hl⟩
    exact this
  · refine wpAny_pure ⟨_, rfl, ?_⟩
    refine h h' { so with data := .set (addT t es (hashInt k) (.int k tk)).1 ep' (addT t es (hashInt k) (.int k tk)).2 } (F.change hsb hm.2.1 hm.2.2) (hg _ ▸ N.setIn a b hsb hg') ⟨hex, _, _, _, rfl, (hel.push k tk).perm (addT_perm _ _ _ _), ?_, addT_fits _ _ _ _, fun e => (addT_led _ _ _ _).trans (hl e)⟩
    unfold addN
    rw [if_neg (fun x => hk (hp.mem_iff.mpr x))]
    have p1 : (keysA (addT t es (hashInt k) (.int k tk)).1).Perm (keysA (es.push (hashInt k, .int k tk))) := (addT_perm t es (hashInt k) (.int k tk)).map _
    rw [keysA_push] at p1
    exact p1.trans ((List.perm_append_comm).trans (hp.cons k))
theorem s_in {Q : Value → Shared → Prop} (N : News h₀ L s.heap news) (hmem : (sa, so) ∈ news) (hso : SetI w so ns) (hb : ns.length < scanBound) (h : Q (.bool (decide (k ∈ ns))) { s with toks := s.toks + 1 }) :
    wpAny (model prog w) A (compareOp .In (.int k tk) (.ref sa)) Q E s :=
  wpAny_inSet_of (knd := intKind prog w) (k := k) (intKind_is _ _ _ _) rfl (hso.setOf (N _ hmem).1 hb) h
theorem s_addM {pl : Sem Bool} {Q : Value × List Value → Shared → Prop} (N : News h₀ L s.heap news) (hmem : (sa, so) ∈ news) (hso : SetI w so ns) (hb : ns.length < scanBound) (h : Q (.builtin "set.add", [.ref sa]) s) :
    wpAny (model prog w) A (getMethod (.ref sa) "add" pl) Q E s :=
  getMethod_set_add (knd := intKind prog w) (hso.setOf (N _ hmem).1 hb) h
theorem s_popM {pl : Sem Bool} {Q : Value × List Value → Shared → Prop} (N : News h₀ L s.heap news) (hmem : (sa, so) ∈ news) (hso : SetI w so ns) (hb : ns.length < scanBound) (h : Q (.builtin "set.pop", [.ref sa]) s) :
    wpAny (model prog w) A (getMethod (.ref sa) "pop" pl) Q E s :=
  getMethod_builtin (hso.setOf (prog := prog) (N _ hmem).1 hb).typeIs PySem.F.plainAttrs_set PySem.F.slot_set_pop PySem.F.type_set_pop (hso.setOf (prog := prog) (N _ hmem).1 hb).noDict h
theorem noBool_set : typeLookup (.type "set") "__bool__" = pure none := by rw [typeLookup_type, builtinLookup_eq_fast]; kernel_rfl
theorem s_truth {Q : Bool → Shared → Prop} (N : News h₀ L s.heap news) (hmem : (sa, so) ∈ news) (hso : SetI w so ns) (hb : ns.length < scanBound)
    (h : Q (!ns.isEmpty) { s with toks := s.toks + 1 + 1 }) : wpAny (model prog w) A (truthy (.ref sa)) Q E s := by
  have hm := N _ hmem
  obtain ⟨hex, es, ep, t, hd, hel, hp, hf, hl⟩ := hso
  have hsz : es.size = ns.length := by rw [← keysA_len, hp.length_eq]
  have hT : s.TypeIs (.ref sa) "set" := ⟨so, hm.1, hex.1⟩
  have hne : ((es.size : Int) != 0) = !ns.isEmpty := by rw [hsz]; cases ns <;> simp <;> omega
  have hb' : ns.length < 4096 := hb
  have key : wpAny (model prog w) A (runValue (.builtin "len" ⟨[.ref sa], []⟩)) (fun r s' => r = .int es.size (s.toks + 1) ∧ Q (!ns.isEmpty) s') E s := by
    refine wpAny_runValue (codeAny_builtin entry_len ?_)
    rw [Around.under_plainId plain_len _]
    exact wpAny_mono (wpAny_len_body_set (Q := fun r s' => r = .int es.size (s.toks + 1) ∧ Q (!ns.isEmpty) s') hm.1 hex hd hf (by omega) ⟨rfl, h⟩)
      (fun fin s' h' => by obtain ⟨r, rfl, hq⟩ := h'; exact hq) fun _ _ e => e
  unfold truthy
  first
    | refine wpAny_bind (wpAny_callSpecial?_none (name := Str.ofString "__bool__") hT noBool_set ?_)
    | refine wpAny_bind (wpAny_pure (wpAny_bind (wpAny_callSpecial?_none (name := Str.ofString "__bool__") hT noBool_set ?_)))
  first
    | refine wpAny_bind (wpAny_specialOf (name := Str.ofString "__len__") hT PySem.F.slot_set_len.lookup ?_)
    | refine wpAny_bind (wpAny_pure (wpAny_bind (wpAny_specialOf (name := Str.ofString "__len__") hT PySem.F.slot_set_len.lookup ?_)))
  exact wpAny_bind (wpAny_mono key (fun r s' h' => by obtain ⟨rfl, hq⟩ := h'; exact wpAny_pure (hne ▸ hq)) fun _ _ e => e)
theorem wpAny_choose {M : Model} {src : Source} {n : Nat} {Q : Nat → Shared → Prop} (hn : n ≠ 0) (h : ∀ i, i < n → Q i { s with drawn := s.drawn.bump src }) : wpAny M A (choose src n) Q E s :=
  fun Γ p _ => ⟨hn, h _ (Nat.mod_lt _ (Nat.pos_of_ne_zero hn))⟩
theorem popped_fits {t : SetTable} {n i : Nat} (hf : t.fits (n + 1) = true) (hi : i < n + 1) : (t.popped i).fits n = true := by
  rw [fits_iff] at hf ⊢
  have hlt : i < t.place.size := by omega
  have e : (t.popped i).place = SetTable.eraseAt t.place i := by
    unfold SetTable.popped SetTable.drop
    rw [Array.getElem?_eq_getElem hlt]
  have e2 : (t.popped i).dummies = SetTable.insertAt t.dummies (SetTable.below t.dummies t.place[i]) t.place[i] := by
    unfold SetTable.popped SetTable.drop
    rw [Array.getElem?_eq_getElem hlt]
  have e3 : (t.popped i).mask = t.mask := by
    unfold SetTable.popped SetTable.drop
    rw [Array.getElem?_eq_getElem hlt]
  have l1 : (SetTable.eraseAt t.place i).size = n := by
    rw [← Array.length_toList, erase_toList, List.length_append, List.length_take, List.length_drop, Array.length_toList]
    omega
  have l2 : (SetTable.insertAt t.dummies (SetTable.below t.dummies t.place[i]) t.place[i]).size = t.dummies.size + 1 := by
    have := (SetTable.insertAt_perm t.dummies (SetTable.below t.dummies t.place[i]) t.place[i]).length_eq
    rw [Array.length_toList, Array.length_toList, Array.size_push] at this
    exact this
  rw [e, e2, e3, l1, l2]
  omega
theorem popped_led (t : SetTable) (i : Nat) : (t.popped i).led = t.led := by
  unfold SetTable.popped SetTable.drop
  split <;> rfl
theorem erase_perm {l : List Int} {k : Int} {i : Nat} (h : l[i]? = some k) : (l.take i ++ l.drop (i + 1)).Perm (l.erase k) := by
  obtain ⟨hi, e⟩ := List.getElem?_eq_some_iff.mp h
  have p1 : l.Perm (k :: (l.take i ++ l.drop (i + 1))) := by
    conv => lhs; rw [← List.take_append_drop i l, List.drop_eq_getElem_cons hi, e]
    exact List.perm_middle
  have p2 := p1.erase k
  rw [List.erase_cons_head] at p2
  exact p2.symm
theorem s_pop {Q : Value → Shared → Prop} (F : Fr h₀ L s.heap m) (N : News h₀ L s.heap news) (U : UpdF sa so news g) (hso : SetI w so ns) (hb : ns.length < scanBound) (hne : ns ≠ [])
    (h : ∀ k tk h' so' dr, k ∈ ns → Fr h₀ L h' m → News h₀ L h' (g so') → SetI w so' (ns.erase k) → Q (.int k tk) { s with heap := h', drawn := dr }) :
    wpAny (model prog w) A (call (.builtin "set.pop") [.ref sa]) Q E s := by
  obtain ⟨pre, post, rfl, hg, a, b⟩ := U.split
  have hm := N (sa, so) (List.mem_append_right _ (.head _))
  obtain ⟨hex, es, ep, t, hd, hel, hp, hf, hl⟩ := hso
  have hsz : es.size = ns.length := by rw [← keysA_len, hp.length_eq]
  have hpos : 0 < ns.length := List.length_pos_iff.mpr hne
  obtain ⟨n, hn⟩ : ∃ n, es.size = n + 1 := ⟨es.size - 1, by omega⟩
  refine wpAny_call_entry PySem.F.slot_set_pop ⟨so, hm.1, hex.1⟩ PySem.F.entry_set_pop ?_ (PySem.F.args_set_pop_1 _)
  unfold Builtin.«set.pop» Builtin.Frozenset.noArgs
  simp only [List.isEmpty_nil, bind_assoc]
  unfold Builtin.Frozenset.addrOf setPop
  refine wpAny_bind (wpAny_pure ?_)
  try dsimp only
  refine wpAny_bind ?_
  refine wpAny_bind (wpAny_setState_of hm.1 hd hf ?_)
  dsimp only
  have hps : t.place.size = n + 1 := by
    simp only [SetTable.fits, Bool.and_eq_true, beq_iff_eq] at hf
    omega
  have fin : ∀ (i : Nat) (dr : Drawn), i < es.size → wpAny (model prog w) A.in1 (do
      let some (_, x) := es[i]? | unsupported "internal:set.pop"
      storeSet sa (SetTable.eraseAt es i) (t.popped i)
      return some x) (fun o s' => wpAny (model prog w) A.in1 (do
        let some x := o | (do rule "set.pop.empty"; raiseError "KeyError" "pop from an empty set")
        ret x) (fun f s₂ => ∃ v, f = .done (.ret v) ∧ Q v s₂) E s') E { s with drawn := dr } := by
    intro i dr hi
    rw [Array.getElem?_eq_getElem hi]
    obtain ⟨k, tk, hek⟩ := hel es[i] (by simp)
    have hb' : ns.length < 4096 := hb
    have hsz' : (SetTable.eraseAt es i).size = n := by
      rw [← Array.length_toList, erase_toList, List.length_append, List.length_take, List.length_drop, Array.length_toList]
      omega
    dsimp only
    refine wpAny_bind (wpAny_storeSet_of (s := { s with drawn := dr }) hm.1 hd ?_ (by rw [sizeLine_eq]; omega))
    refine wpAny_pure ?_
    dsimp only
    rw [hek]
    dsimp only
    refine wpAny_pure ⟨_, rfl, ?_⟩
    have hgx : (keysA es)[i]? = some k := by
      unfold keysA
      rw [List.getElem?_map, Array.getElem?_toList, Array.getElem?_eq_getElem hi, hek]
      rfl
    have hg1 : (s.heap.update sa (Obj.putSet (SetTable.eraseAt es i) (t.popped i))).get? sa = some { so with data := .set (SetTable.eraseAt es i) (ep + 1) (t.popped i) } := by
      have := Heap.get?_update_self (Obj.putSet (SetTable.eraseAt es i) (t.popped i)) hm.1 (by rw [putSet_of _ _ hd]; rfl)
      rw [putSet_of _ _ hd] at this
      exact this
    have hsb := Heap.SameBut.update s.heap sa (Obj.putSet (SetTable.eraseAt es i) (t.popped i))
    refine h k tk _ { so with data := .set (SetTable.eraseAt es i) (ep + 1) (t.popped i) } dr ?_ (F.change hsb hm.2.1 hm.2.2) (hg _ ▸ N.setIn a b hsb hg1) ⟨hex, _, _, _, rfl, ?_, ?_, ?_, fun e => (popped_led _ _).trans (hl e)⟩
    · exact hp.mem_iff.mp (List.mem_of_getElem? hgx)
    · intro e he
      rw [erase_toList] at he
      refine hel e ?_
      rcases List.mem_append.mp he with he | he
      · exact List.mem_of_mem_take he
      · exact List.mem_of_mem_drop he
    · have : keysA (SetTable.eraseAt es i) = (keysA es).take i ++ (keysA es).drop (i + 1) := by
        unfold keysA
        rw [erase_toList, List.map_append, List.map_take, List.map_drop]
      rw [this]
      exact (erase_perm hgx).trans (hp.erase k)
    · rw [hsz']
      exact popped_fits (by rw [← hn]; exact hf) (by omega)
  have hpp : ∃ i, t.popPlace = some i ∧ i < es.size := by
    unfold SetTable.popPlace
    have : t.place.isEmpty = false := by
      rw [Array.isEmpty_eq_false_iff]
      intro e
      rw [e] at hps
      simp at hps
    rw [this]
    refine ⟨_, rfl, ?_⟩
    split <;> omega
  obtain ⟨i0, hi0, hi0'⟩ := hpp
  rw [hi0]
  dsimp only
  unfold setsByText
  refine wpAny_bind (wpAny_bind (wpAny_askSetting (wpAny_pure ?_)))
  split
  · refine wpAny_bind (wpAny_choose (by omega) fun i hi => ?_)
    have e : s = { s with drawn := s.drawn } := by cases s; rfl
    exact fin i _ hi
  · rename_i hc
    have hx : txt w = false := by
      cases hx : txt w with
      | false => rfl
      | true => exact absurd (by show (txt w || _) = true; rw [hx]; rfl) hc
    have hled : t.led = true := hl hx
    refine wpAny_bind ?_
    show wpAny _ _ (if (!t.led && decide (es.size > 1)) = true then unsupported _ else pure ()) _ _ _
    rw [if_neg (by rw [hled]; simp)]
    refine wpAny_pure (wpAny_bind (wpAny_pure ?_))
    exact fin i0 s.drawn hi0'
end
end Mine
end
noncomputable section
open PySem PySem.W PyProof.Rows PySem.Spec PySem.Calls
set_option linter.unusedVariables false
set_option linter.unusedSimpArgs false
set_option maxRecDepth 100000
namespace Mine
noncomputable abbrev set0 (w : World) : Obj := { cls := .type "set", dict := none, data := .set #[] 0 (.fresh 0 0 (!txt w)) }
theorem set0_I (w : World) : SetI w (set0 w) [] :=
  ⟨⟨rfl, rfl, rfl⟩, #[], 0, _, rfl, fun e he => by simp at he, List.Perm.refl _, rfl, fun e => by show (!txt w) = true; rw [e]; rfl⟩
section
variable {prog : Program} {w : World} {A : Around} {E : Value → Shared → Prop} {s : Shared} {h₀ : Heap} {L sa : Addr} {m : Str → Option Value} {news : List (Addr × Obj)} {g : Obj → List (Addr × Obj)} {so : Obj} {ns : List Int} {k : Int} {tk : Tok}
theorem newSet_txt {Q : Value → Shared → Prop} (h : Q (.ref s.heap.objs.size) { s with heap := s.heap.push (set0 w) }) : wpAny (model prog w) A (newSet (.type "set")) Q E s := by
  unfold newSet setsByText
  refine wpAny_bind (wpAny_bind (wpAny_askSetting (wpAny_pure ?_)))
  dsimp only
  simp only [newObj]
  exact wpAny_bind (wpAny_alloc (wpAny_pure h))
theorem code_set_txt {Q₁ : Value → Shared → Prop} (h : Q₁ (.ref s.heap.objs.size) { s with heap := s.heap.push (set0 w) }) :
    codeAny (model prog w) A (.call (.builtin "set.__new__") ⟨[.type "set"], []⟩) (wants Q₁ E) s := by
  refine codeAny_of_tree ?_
  show wpAny _ A.in1 (do checkBuiltinCall "set.__new__" ⟨[.type "set"], []⟩; again (.builtin "set.__new__" ⟨[.type "set"], []⟩)) _ _ s
  refine wpAny_bind (wpAny_of_eq PySem.F.newCall_set_0 (wpAny_pure ⟨plainId_quiet PySem.F.plain_set_new _, codeAny_builtin PySem.F.entry_set_new ?_⟩))
  rw [Around.under_plainId PySem.F.plain_set_new _]
  unfold Builtin.«set.__new__» Builtin.Frozenset.newClass
  have hsub := sub_set_self
  obtain ⟨hp, g, d, tk, os⟩ := s
  dsimp only
  wp_walk
  refine wpAny_askSetting (wpAny_pure ?_)
  dsimp only
  simp only [newObj]
  exact wpAny_bind (wpAny_alloc (wpAny_pure (wpAny_pure h)))
set_option maxHeartbeats 2000000 in
theorem call_set_txt {Q : Value → Shared → Prop} (h : Q (.ref s.heap.objs.size) { s with heap := s.heap.push (set0 w) }) : wpAny (model prog w) A (call (.type "set") []) Q E s := by
  obtain ⟨c, tl, hmro⟩ := PySem.F.called_set.mro
  have hmade := PySem.F.called_set.made
  have hsub := PySem.F.called_set.sub
  refine wpAny_call (codeAny_of_tree ?_)
  show wpAny _ _ (callAny (.type "set") _) _ _ _
  refine wpAny_pure ⟨Code.quiet_builtin _ (by decide +kernel), codeAny_builtin PySem.F.entry_type_call ?_⟩
  rw [Around.under_plain (weight_type_call_type "set" [] []) rfl]
  have h1 := PySem.F.called_set.notType
  have h2 := PySem.F.called_set.canCreate
  have hct := PySem.F.typeCall_set_0
  repeat (any_goals (first | assumption | wp_step))
  refine codeAny_mono (code_set_txt (E := E) (Q₁ := fun obj s₁ => obj = .ref s.heap.objs.size ∧ s₁ = { s with heap := s.heap.push (set0 w) }) ⟨rfl, rfl⟩) fun r s₁ hr => ?_
  cases r with
  | error e => exact hr
  | ok fl =>
    cases fl with
    | ret obj =>
      obtain ⟨rfl, rfl⟩ := hr
      have hS : (s.heap.push (set0 w)).get? s.heap.objs.size = some (set0 w) := Heap.get?_push_size _ rfl
      have hT : Shared.TypeIs { s with heap := s.heap.push (set0 w) } (.ref s.heap.objs.size) "set" := ⟨_, hS, rfl⟩
      have hli := PySem.F.called_set.init.lookup
      have hbi := PySem.F.called_set.init.bind (.ref s.heap.objs.size)
      repeat (any_goals (first | assumption | wp_step))
      refine codeAny_mono (codeAny_call_builtin (R := wants (fun r s₂ => r = .none ∧ Q (.ref s.heap.objs.size) s₂) E) PySem.F.called_set.init.plain PySem.F.entry_set_init (check_set_init hT ?_)) fun r₂ s₂ hr₂ => ?_
      · unfold Builtin.«set.__init__» noKeywords
        wp_walk
        exact ⟨rfl, h⟩
      · cases r₂ with
        | error e => exact hr₂
        | ok fl₂ =>
          cases fl₂ with
          | ret r =>
            obtain ⟨rfl, hq⟩ := hr₂
            repeat (any_goals (first | assumption | wp_step))
          | _ => exact hr₂.elim
    | _ => exact hr.elim
theorem s_new {Q : Value → Shared → Prop} (F : Fr h₀ L s.heap m) (N : News h₀ L s.heap news)
    (h : ∀ D h', Fr h₀ L h' m → News h₀ L h' ((D, set0 w) :: news) → (∀ p ∈ news, p.1 < D) → Q (.ref D) { s with heap := h' }) :
    wpAny (model prog w) A (call (.type "set") []) Q E s :=
  call_set_txt (h _ _ (F.push _) (N.push F _) fun p hp => Heap.lt_size (N p hp).1)
theorem s_core {road : DisplayRoad} {b : Bool} {elts : List (Bool × Sem Value)} {ts : List (Sem Value)} {Q : Value → Shared → Prop} (hroad : (road == .constants) = false) (hru : (road == .unsure) = false) (hs : elts.findIdx? (·.1) = none) (hlen : elts.length ≤ 30) (hm : elts.map (·.2) = ts)
    (h : wpAny (model prog w) A (evalAll ts) (fun vs s' => KdsFill (model prog w) A E false s.heap.objs.size Q vs s') E { s with heap := s.heap.push (set0 w) }) :
    wpAny (model prog w) A (setDisplay road b elts) Q E s := by
  have hn : (if elts.length > 30 then 0 else (elts.findIdx? (·.1)).getD elts.length) = elts.length := by rw [if_neg (by omega), hs]; rfl
  unfold setDisplay
  try dsimp only
  rw [if_neg (by rw [hroad]; exact Bool.false_ne_true)]
  refine wpAny_bind (newSet_txt ?_)
  dsimp only
  rw [hn, List.take_length, List.drop_length, hm, hru]
  refine wpAny_bind (wpAny_holding (wpAny_bind (wpAny_mono h (fun vs s' h' => ?_) fun _ _ x => x)))
  refine wpAny_bind (wpAny_holding (wpAny_bind (wpAny_mono (kds_for (fun x P s hx => ?_) vs s' h') (fun _ s1 h1 => ?_) fun _ _ x => x)))
  · refine wpAny_bind (wpAny_mono hx (fun _ s2 h2 => ?_) fun _ _ x => x)
    first | exact wpAny_pure ⟨rfl, h2⟩ | exact wpAny_bind (wpAny_pure (wpAny_pure ⟨rfl, h2⟩))
  · have h2 : Q (.ref s.heap.objs.size) s1 := by simpa [KdsFill] using h1
    rw [if_neg Bool.false_ne_true]
    refine wpAny_pure ?_
    rw [List.forIn_nil]
    exact wpAny_pure (wpAny_pure h2)
theorem s_disp {K : Frag} {elts : List Expr} {k : Nat} {pos : Pos} {env : Env} {Q : Value → Shared → Prop} (F : Fr h₀ L s.heap m) (N : News h₀ L s.heap news) (X : K.In h₀) (hc : kdsCode K env.code = true)
    (hroad : (displayRoad k elts == .constants) = false) (hru : (displayRoad k elts == .unsure) = false) (hp : elts.all kdsPlain = true) (hlen : elts.length ≤ 30)
    (h : ∀ D h', Fr h₀ L h' m → News h₀ L h' ((D, set0 w) :: news) → (∀ p ∈ news, p.1 < D) → SetI w (set0 w) [] →
      KdsAll (model prog w) A E env elts (fun vs s' => KdsFill (model prog w) A E false D Q vs s') { s with heap := h' }) :
    wpAny (model prog w) A (eval (.Set elts k pos) env) Q E s := by
  rw [arm_eval_Set]
  refine wpAny_bind (wpAny_standAt ?_)
  refine wpAny_bind (kds_main (X.keeps F.keep) hc fun b => ?_)
  rw [kds_star elts hp, List.map_map]
  refine s_core (ts := (evalEach elts env).map fun t => do let v ← t; standAt pos; pure v) hroad hru ?_ ?_ ?_ ?_
  · refine List.findIdx?_eq_none_iff.mpr fun x hx => ?_
    obtain ⟨t, _, rfl⟩ := List.mem_map.mp hx
    rfl
  · rw [List.length_map, kds_len]; exact hlen
  · rw [List.map_map]; try rfl
  · exact kds_all pos elts _ _ (h _ _ (F.push _) (News.push F N _ rfl) (fun p hp => Heap.lt_size (N p hp).1) (set0_I w))
theorem s_setAdd {Q : Bool → Shared → Prop} (F : Fr h₀ L s.heap m) (N : News h₀ L s.heap news) (U : UpdF sa so news g) (hso : SetI w so ns) (hb : ns.length + 1 < scanBound)
    (h : ∀ b h' so', Fr h₀ L h' m → News h₀ L h' (g so') → SetI w so' (addN k ns) → Q b { s with heap := h', toks := s.toks + 1 }) :
    wpAny (model prog w) A (setAdd sa (.int k tk)) Q E s := by
  obtain ⟨pre, post, rfl, hg, a, b⟩ := U.split
  have hm := N (sa, so) (List.mem_append_right _ (.head _))
  obtain ⟨hex, es, ep, t, hd, hel, hp, hf, hl⟩ := hso
  have hsz : es.size = ns.length := by rw [← keysA_len, hp.length_eq]
  refine setAdd_T (ep := ep) hm.1 hd hel hf (by omega) (fun hk => ?_) (fun hk h' ep' hsb hg' => ?_)
  · exact h false s.heap so F (hg so ▸ N) ⟨hex, es, ep, t, hd, hel, by unfold addN; rw [if_pos (hp.mem_iff.mp hk)]; exact hp, hf, hl⟩
  · refine h true h' { so with data := .set (addT t es (hashInt k) (.int k tk)).1 ep' (addT t es (hashInt k) (.int k tk)).2 } (F.change hsb hm.2.1 hm.2.2) (hg _ ▸ N.setIn a b hsb hg') ⟨hex, _, _, _, rfl, (hel.push k tk).perm (addT_perm _ _ _ _), ?_, addT_fits _ _ _ _, fun e => (addT_led _ _ _ _).trans (hl e)⟩
    unfold addN
    rw [if_neg (fun x => hk (hp.mem_iff.mpr x))]
    have p1 : (keysA (addT t es (hashInt k) (.int k tk)).1).Perm (keysA (es.push (hashInt k, .int k tk))) := (addT_perm t es (hashInt k) (.int k tk)).map _
    rw [keysA_push] at p1
    exact p1.trans ((List.perm_append_comm).trans (hp.cons k))
end
end Mine
end
noncomputable section
open PySem PySem.W PyProof.Rows PySem.Spec PySem.Calls
set_option linter.unusedVariables false
set_option linter.unusedSimpArgs false
set_option maxRecDepth 100000
namespace Mine
/-! a set of ints of 0 .. 5 that only grows: its table told -/
noncomputable def tabS (led : Bool) (l : List Nat) : SetTable := { mask := if l.length < 5 then 7 else 31, place := l.toArray, dummies := #[], finger := 0, led := led, moves := if l.length < 5 then 0 else 1, plain := true }
noncomputable def subsets : List Nat → List (List Nat)
  | [] => [[]]
  | x :: xs => subsets xs ++ (subsets xs).map (x :: ·)
noncomputable def subs6 : List (List Nat) := subsets [0, 1, 2, 3, 4, 5]
noncomputable def ins (k : Nat) (l : List Nat) : List Nat := l.filter (· < k) ++ k :: l.filter (k < ·)
noncomputable def tab7 (led : Bool) (l : List Nat) : SetTable := { mask := if l.length < 6 then 7 else 31, place := l.toArray, dummies := #[], finger := 0, led := led, moves := if l.length < 6 then 0 else 1, plain := true }
set_option synthInstance.maxHeartbeats 400000 in
set_option synthInstance.maxSize 2000 in
theorem tab_put : ∀ led ∈ [true, false], ∀ l ∈ subs6, ∀ k ∈ List.range 6, k ∉ l →
    (tabS led l).freeSlot (hashInt k) = some (k, false) ∧ (tabS led l).put k = (tab7 led (ins k l), (l.filter (· < k)).length) ∧ ins k l ∈ subs6 ∧
    l.take (l.filter (· < k)).length ++ k :: l.drop (l.filter (· < k)).length = ins k l ∧ (ins k l).length = l.length + 1 ∧ (tab7 led (ins k l)).tooFull = decide (l.length = 4) ∧ (tab7 led (ins k l)).fits (l.length + 1) = true ∧
    (l.length ≠ 4 → tab7 led (ins k l) = tabS led (ins k l)) := by decide +kernel
theorem tab_relaid : ∀ led ∈ [true, false], ∀ l ∈ subs6, l.length = 5 →
    (tab7 led l).relaid ((l.map fun (n : Nat) => hashInt (n : Int)).toArray) (SetTable.grown 5) = some (tabS led l, #[0, 1, 2, 3, 4]) ∧ (tabS led l).fits 5 = true := by decide +kernel
theorem tab_fits : ∀ led ∈ [true, false], ∀ l ∈ subs6, (tabS led l).fits l.length = true := by decide +kernel
theorem led_mem (b : Bool) : b ∈ [true, false] := by cases b <;> decide
noncomputable abbrev ofNats (l : List Nat) : List Int := l.map fun (n : Nat) => (n : Int)
theorem ElI.hashes {l : List (Int × Value)} (h : ElI l) : l.map (·.1) = (l.map fun e => keyI e.2).map hashInt := by
  induction l with
  | nil => rfl
  | cons e r ih =>
    obtain ⟨k, t, rfl⟩ := h e (.head _)
    rw [List.map_cons, List.map_cons, List.map_cons, ih fun x hx => h x (.tail _ hx)]
    rfl
theorem insert_keys (es : Array (Int × Value)) (p : Nat) (h k : Int) (tk : Tok) : keysA (SetTable.insertAt es p (h, .int k tk)) = (keysA es).take p ++ k :: (keysA es).drop p := by
  unfold keysA SetTable.insertAt
  simp [Array.toList_extract, List.extract, List.map_take, List.map_drop, keyI]
  rw [List.take_of_length_le (by simp)]
theorem keys5 (es : Array (Int × Value)) (h : es.size = 5) : (#[0, 1, 2, 3, 4] : Array Nat).filterMap (fun i => es[i]?) = es := by
  obtain ⟨l⟩ := es
  have h : l.length = 5 := h
  obtain ⟨a, l, rfl⟩ := List.exists_cons_of_length_pos (by omega : 0 < l.length)
  obtain ⟨b, l, rfl⟩ := List.exists_cons_of_length_pos (by simp only [List.length_cons] at h; omega : 0 < l.length)
  obtain ⟨c, l, rfl⟩ := List.exists_cons_of_length_pos (by simp only [List.length_cons] at h; omega : 0 < l.length)
  obtain ⟨d, l, rfl⟩ := List.exists_cons_of_length_pos (by simp only [List.length_cons] at h; omega : 0 < l.length)
  obtain ⟨e, l, rfl⟩ := List.exists_cons_of_length_pos (by simp only [List.length_cons] at h; omega : 0 < l.length)
  have e0 : l = [] := List.eq_nil_of_length_eq_zero (by simp only [List.length_cons] at h; omega)
  subst e0
  rfl
theorem addT_small {led : Bool} {l : List Nat} {k : Nat} {es : Array (Int × Value)} {tk : Tok} (hl : l ∈ subs6) (hk : k < 6) (hn : k ∉ l) (hel : ElI es.toList) (he : keysA es = ofNats l) :
    (addT (tabS led l) es (hashInt k) (.int k tk)).2 = tabS led (ins k l) ∧ keysA (addT (tabS led l) es (hashInt k) (.int k tk)).1 = ofNats (ins k l) ∧ ins k l ∈ subs6 := by
  obtain ⟨f1, f2, f3, f4, f5, f6, f7, f8⟩ := tab_put led (led_mem led) l hl k (List.mem_range.mpr hk) hn
  have hsz : es.size = l.length := by rw [← keysA_len, he, List.length_map]
  have hL : layNew (tabS led l) es (hashInt k) (.int k tk) = (SetTable.insertAt es (l.filter (· < k)).length (hashInt k, .int k tk), tab7 led (ins k l), false, false) := by
    unfold layNew
    rw [f1]
    dsimp only
    rw [f2]
    dsimp only
    have hz : (SetTable.insertAt es (l.filter (· < k)).length (hashInt (k : Int), Value.int (k : Int) tk)).size = l.length + 1 := by
      rw [← keysA_len, insert_keys, he, List.length_append, List.length_cons, ← Nat.add_assoc, ← List.length_append, List.take_append_drop, List.length_map]
    rw [hz, f7]
    unfold SetTable.orStandIn
    rw [f7]
    rfl
  have hK : keysA (SetTable.insertAt es (l.filter (· < k)).length (hashInt k, .int k tk)) = ofNats (ins k l) := by
    rw [insert_keys, he, ← f4]
    unfold ofNats
    rw [List.map_append, List.map_cons, List.map_take, List.map_drop]
  have hz1 : (SetTable.insertAt es (l.filter (· < k)).length (hashInt k, .int k tk)).size = l.length + 1 := by rw [← keysA_len, hK, List.length_map, f5]
  have hE1 : ElI (SetTable.insertAt es (l.filter (· < k)).length (hashInt k, .int k tk)).toList := (hel.push k tk).perm (SetTable.insertAt_perm _ _ _)
  have hR : l.length = 4 → relayAll (tab7 led (ins k l)) (SetTable.insertAt es (l.filter (· < k)).length (hashInt k, .int k tk)) (SetTable.grown (SetTable.insertAt es (l.filter (· < k)).length (hashInt k, .int k tk)).size) = (SetTable.insertAt es (l.filter (· < k)).length (hashInt k, .int k tk), tabS led (ins k l), false) := by
    intro h4
    have hz5 : (SetTable.insertAt es (l.filter (· < k)).length (hashInt k, .int k tk)).size = 5 := by rw [hz1, h4]
    obtain ⟨r1, r2⟩ := tab_relaid led (led_mem led) (ins k l) f3 (by rw [f5, h4])
    have hm : (SetTable.insertAt es (l.filter (· < k)).length (hashInt k, .int k tk)).map (·.1) = ((ins k l).map fun (n : Nat) => hashInt (n : Int)).toArray := by
      apply Array.toList_inj.mp
      rw [Array.toList_map, hE1.hashes]
      show (keysA _).map hashInt = _
      rw [hK, List.map_map]
      rfl
    unfold relayAll
    rw [hm, hz5, r1]
    dsimp only
    rw [keys5 _ hz5, hz5, r2]
    rfl
  unfold addT
  rw [hL]
  dsimp only
  rw [f6]
  by_cases h4 : l.length = 4
  · rw [if_pos (by simp [h4]), hR h4]
    exact ⟨rfl, hK, f3⟩
  · rw [if_neg (by simp [h4])]
    exact ⟨f8 h4, hK, f3⟩
noncomputable def SmallI (w : World) (o : Obj) (l : List Nat) : Prop :=
  o.ExactSet ∧ ∃ es ep led, o.data = .set es ep (tabS led l) ∧ ElI es.toList ∧ keysA es = ofNats l ∧ l ∈ subs6 ∧ (txt w = false → led = true)
noncomputable def addS (k : Nat) (l : List Nat) : List Nat := if k ∈ l then l else ins k l
theorem set0_S (w : World) : SmallI w (set0 w) [] :=
  ⟨⟨rfl, rfl, rfl⟩, #[], 0, !txt w, rfl, fun e he => by simp at he, rfl, by decide, fun e => by rw [e]; rfl⟩
theorem SmallI.setI {w : World} {o : Obj} {l : List Nat} (h : SmallI w o l) : SetI w o (ofNats l) := by
  obtain ⟨hex, es, ep, led, hd, hel, he, hl, hw⟩ := h
  have hsz : es.size = l.length := by rw [← keysA_len, he, List.length_map]
  exact ⟨hex, es, ep, _, hd, hel, by rw [he], by rw [hsz]; exact tab_fits led (led_mem led) l hl, hw⟩
theorem subs_len : ∀ l ∈ subs6, l.length ≤ 6 := by decide +kernel
theorem SmallI.len {w : World} {o : Obj} {l : List Nat} (h : SmallI w o l) : l.length ≤ 6 := by
  obtain ⟨hex, es, ep, led, hd, hel, he, hl, hw⟩ := h
  exact subs_len l hl
section
variable {prog : Program} {w : World} {A : Around} {E : Value → Shared → Prop} {s : Shared} {h₀ : Heap} {L sa : Addr} {m : Str → Option Value} {news : List (Addr × Obj)} {g : Obj → List (Addr × Obj)} {so : Obj} {l : List Nat} {k : Int} {tk : Tok}
theorem s_addS {Q : Value → Shared → Prop} (F : Fr h₀ L s.heap m) (N : News h₀ L s.heap news) (U : UpdF sa so news g) (hso : SmallI w so l) (h0 : 0 ≤ k) (h6 : k < 6)
    (h : ∀ h' so', Fr h₀ L h' m → News h₀ L h' (g so') → SmallI w so' (addS k.toNat l) → Q .none { s with heap := h', toks := s.toks + 1 }) :
    wpAny (model prog w) A (call (.builtin "set.add") [.ref sa, .int k tk]) Q E s := by
  obtain ⟨n, rfl⟩ : ∃ n : Nat, k = (n : Int) := ⟨k.toNat, by omega⟩
  have hlen := hso.len
  obtain ⟨pre, post, rfl, hg, a, b⟩ := U.split
  have hm := N (sa, so) (List.mem_append_right _ (.head _))
  have hso' := hso
  obtain ⟨hex, es, ep, led, hd, hel, he, hl, hw⟩ := hso
  have hsz : es.size = l.length := by rw [← keysA_len, he, List.length_map]
  have hmemk : (n : Int) ∈ keysA es ↔ n ∈ l := by
    rw [he]
    constructor
    · intro x
      obtain ⟨y, hy, e⟩ := List.mem_map.mp x
      have : y = n := by omega
      exact this ▸ hy
    · exact fun x => List.mem_map.mpr ⟨n, x, rfl⟩
  refine wpAny_call_entry PySem.F.slot_set_add ⟨so, hm.1, hex.1⟩ PySem.F.entry_set_add ?_ (PySem.F.args_set_add_2 _ _)
  unfold Builtin.«set.add» Builtin.Frozenset.oneOther
  simp only [List.isEmpty_nil, bind_assoc]
  unfold Builtin.Frozenset.addrOf
  refine wpAny_bind (wpAny_pure ?_)
  try dsimp only
  refine wpAny_bind (wpAny_pure ?_)
  try dsimp only
  refine wpAny_bind ?_
  refine setAdd_T (ep := ep) hm.1 hd hel (by rw [hsz]; exact tab_fits led (led_mem led) l hl) (by show es.size + 1 < 4096; omega) (fun hk => ?_) (fun hk h' ep' hsb hg' => ?_)
  · refine wpAny_pure ⟨_, rfl, ?_⟩
    have := h s.heap so F (hg so ▸ N) (by rw [Int.toNat_natCast]; unfold addS; rw [if_pos (hmemk.mp hk)]; exact hso')
    exact this
  · refine wpAny_pure ⟨_, rfl, ?_⟩
    obtain ⟨t1, t2, t3⟩ := addT_small (tk := tk) hl (by omega : n < 6) (fun x => hk (hmemk.mpr x)) hel he
    refine h h' { so with data := .set (addT (tabS led l) es (hashInt n) (.int n tk)).1 ep' (addT (tabS led l) es (hashInt n) (.int n tk)).2 } (F.change hsb hm.2.1 hm.2.2) (hg _ ▸ N.setIn a b hsb hg') ?_
    rw [Int.toNat_natCast]
    unfold addS
    rw [if_neg (fun x => hk (hmemk.mpr x))]
    exact ⟨hex, _, _, led, by rw [t1], (hel.push _ tk).perm (addT_perm _ _ _ _), t2, t3, hw⟩
end
end Mine
end
noncomputable section
open PySem PySem.W PyProof.Rows PySem.Spec PySem.Calls
set_option linter.unusedVariables false
set_option linter.unusedSimpArgs false
set_option maxRecDepth 100000
namespace Mine
/-! the walk over such a set -/
noncomputable def slotAt (l : List Nat) : Nat → Nat
  | 0 => 0
  | i + 1 => l.getD i 0 + 1
theorem below_at : ∀ l ∈ subs6, ∀ i ∈ List.range 7, i ≤ l.length → SetTable.below l.toArray (slotAt l i) = i := by decide +kernel
theorem pick_go {α : Type} (f : Nat → Nat) : ∀ (fuel k : Nat) (left : List α) (out : Array α), fuel = left.length → List.Perm (pickOrder.go f fuel k left out).toList (out.toList ++ left)
  | 0, k, left, out, h => by
    have : left = [] := List.length_eq_zero_iff.mp h.symm
    subst this
    simp [pickOrder.go]
  | fuel + 1, k, left, out, h => by
    have hpos : 0 < left.length := by omega
    have hlt : f k % left.length < left.length := Nat.mod_lt _ hpos
    unfold pickOrder.go
    rw [List.getElem?_eq_getElem hlt]
    dsimp only
    refine (pick_go f fuel (k + 1) _ _ (by rw [List.length_eraseIdx, if_pos hlt]; omega)).trans ?_
    rw [Array.toList_push, List.append_assoc]
    refine List.Perm.append_left _ ?_
    have : left.Perm (left[f k % left.length] :: left.eraseIdx (f k % left.length)) := by
      rw [List.eraseIdx_eq_take_drop_succ]
      conv => lhs; rw [← List.take_append_drop (f k % left.length) left, List.drop_eq_getElem_cons hlt]
      exact List.perm_middle
    exact this.symm
theorem pick_perm {α : Type} (f : Nat → Nat) (xs : Array α) : List.Perm (pickOrder f xs).toList xs.toList := by
  have := pick_go f xs.size 0 xs.toList #[] (by rw [Array.length_toList])
  unfold pickOrder
  simpa using this
theorem owner_set_iterator : Manifest.owners.lookup (String.ofList ['r', 'o', 't', 'a', 'r', 'e', 't', 'i', '_', 't', 'e', 's'].reverse) = some Manifest.sig_set_iterator := by kernel_rfl
theorem slot_si_next : Slot "set_iterator" "__next__" "set_iterator.__next__" :=
  .of (owner := "set_iterator") (n := "__next__") (by rw [typeLookup_type, builtinLookup_eq_fast]; kernel_rfl) (by decide +kernel) (by decide +kernel) (by decide +kernel)
    (by first | exact .inl (by decide +kernel) | exact .inr (by decide +kernel)) (by rw [isSubtype_type]; kernel_rfl)
theorem entry_si_next : entryFor table "set_iterator.__next__" = some Builtin.«set_iterator.__next__» := entryFor_of_tree (by kernel_rfl)
theorem args_si_next (a : Value) : argsOk "set_iterator.__next__" ⟨[a], []⟩ := by
  unfold argsOk; rw [signature?_of (id := "set_iterator.__next__") (n := ['_', '_', 't', 'x', 'e', 'n', '_', '_']) (o := ['r', 'o', 't', 'a', 'r', 'e', 't', 'i', '_', 't', 'e', 's']) (by kernel_rfl) owner_set_iterator]; kernel_rfl
theorem slot_si_iter : Slot "set_iterator" "__iter__" "set_iterator.__iter__" :=
  .of (owner := "set_iterator") (n := "__iter__") (by rw [typeLookup_type, builtinLookup_eq_fast]; kernel_rfl) (by decide +kernel) (by decide +kernel) (by decide +kernel)
    (by first | exact .inl (by decide +kernel) | exact .inr (by decide +kernel)) (by rw [isSubtype_type]; kernel_rfl)
theorem args_si_iter (a : Value) : argsOk "set_iterator.__iter__" ⟨[a], []⟩ := by
  unfold argsOk; rw [signature?_of (id := "set_iterator.__iter__") (n := ['_', '_', 'r', 'e', 't', 'i', '_', '_']) (o := ['r', 'o', 't', 'a', 'r', 'e', 't', 'i', '_', 't', 'e', 's']) (by kernel_rfl) owner_set_iterator]; kernel_rfl
theorem entry_set_iter' : entryFor table "set.__iter__" = some Builtin.«frozenset.__iter__» :=
  entryFor_alias (id' := "frozenset.__iter__") (by rw [fastTable_eq_tree]; kernel_rfl) rfl (by rw [PySem.W.Fast.canonicalQ_eq]; decide +kernel) (by rw [fastTable_eq_tree]; kernel_rfl)
noncomputable abbrev itO (a : Addr) (sl i n ep : Nat) : Obj := { cls := .type "set_iterator", data := .fields #[rawInt sl, rawInt i, .ref a, rawInt n, rawInt ep] }
noncomputable def orderS (w : World) (a : Addr) (ep : Nat) (es : Array (Int × Value)) : List Int := if txt w = true then keysA (pickOrder (w.params.setOrder a ep) es) else keysA es
theorem orderS_perm (w : World) (a : Addr) (ep : Nat) (es : Array (Int × Value)) : (orderS w a ep es).Perm (keysA es) := by
  unfold orderS
  split
  · exact (pick_perm _ _).map _
  · exact List.Perm.refl _
section
variable {prog : Program} {w : World} {A : Around} {E : Value → Shared → Prop} {s : Shared}
theorem hint_set {r : Addr} {Q : Bool → Shared → Prop} (hT : s.TypeIs (.ref r) "set") (h : Q false s) : wpAny (model prog w) A (Builtin.List.listLengthHint (.ref r)) Q E s := by
  unfold Builtin.List.listLengthHint
  refine wpAny_bind (wpAny_specialOf hT PySem.F.slot_set_len.lookup ?_)
  generalize hid : ("set.__len__" : String) = id0
  wp_delta
  rw [show splitId id0 = some ("set", "__len__") from by subst hid; decide +kernel]
  subst hid
  refine wpAny_bind (wpAny_isInstance (T := "set") (b := true) hT (by rw [isSubtype_type]; kernel_rfl) ?_)
  refine wpAny_ite_split (fun hab => absurd hab (by decide)) (fun _ => ?_)
  refine wpAny_ite_split (fun _ => ?_) (fun hab => absurd (by decide +kernel) hab)
  refine wpAny_bind (wpAny_typeOf hT ?_)
  exact wpAny_pure h
theorem iter_set {a : Addr} {o : Obj} {es : Array (Int × Value)} {ep : Nat} {led : Bool} {l : List Nat} {Q : Value → Shared → Prop} (ho : s.heap.get? a = some o) (hex : o.ExactSet) (hd : o.data = .set es ep (tabS led l)) (hf : (tabS led l).fits es.size = true)
    (h : Q (.ref s.heap.objs.size) { s with heap := s.heap.push (itO a 0 0 es.size ep) }) : wpAny (model prog w) A (pyIter (.ref a)) Q E s := by
  have hT : s.TypeIs (.ref a) "set" := ⟨o, ho, hex.1⟩
  refine wpAny_pyIter_slot hT PySem.F.slot_set_iter (wpAny_call_entry PySem.F.slot_set_iter hT entry_set_iter' ?_ (PySem.F.args_set_iter_1 _))
  unfold Builtin.«frozenset.__iter__» Builtin.Frozenset.slot0 slotArgs
  simp only [List.isEmpty_nil, Bool.not_true, Bool.false_eq_true, ↓reduceIte, bind_assoc, List.length_nil, bne_self_eq_false]
  unfold Builtin.Frozenset.addrOf Builtin.Frozenset.sizeOf setDrawn
  refine wpAny_bind (wpAny_pure ?_)
  try dsimp only
  refine wpAny_bind (wpAny_pure ?_)
  refine wpAny_bind (wpAny_bind (wpAny_setEntries_of ho hd hf (wpAny_pure ?_)))
  refine wpAny_bind (wpAny_bind (wpAny_setState_of ho hd hf ?_))
  dsimp only
  unfold setsByText
  refine wpAny_bind (wpAny_bind (wpAny_askSetting (wpAny_pure ?_)))
  refine wpAny_pure ?_
  show wpAny _ _ (if (!txt w && (!true && _)) = true then _ else _) _ _ _
  rw [if_neg (by simp)]
  refine wpAny_bind (wpAny_pure ?_)
  refine wpAny_bind (wpAny_setEpoch_of ho hd hf ?_)
  refine wpAny_bind (wpAny_newObj_type ?_)
  exact wpAny_pure ⟨_, rfl, "set_iterator", _, ⟨_, Heap.get?_push_size _ rfl, rfl⟩, slot_si_next.lookup, h⟩
theorem entry_at {es : Array (Int × Value)} {i : Nat} (hel : ElI es.toList) (hi : i < es.size) : ∃ h t, es[i]? = some (h, .int ((keysA es).getD i 0) t) := by
  obtain ⟨k, t, e⟩ := hel es[i] (by simp)
  refine ⟨hashInt k, t, ?_⟩
  rw [Array.getElem?_eq_getElem hi, e]
  have : (keysA es).getD i 0 = k := by
    unfold keysA
    rw [List.getD_eq_getElem?_getD, List.getElem?_map, Array.getElem?_toList, Array.getElem?_eq_getElem hi, e]
    rfl
  rw [this]
theorem next_S {a : Addr} {o : Obj} {es : Array (Int × Value)} {ep : Nat} {led : Bool} {l : List Nat} {sl i : Nat} {Q : Option (Value × Nat) → Shared → Prop} (ho : s.heap.get? a = some o) (hd : o.data = .set es ep (tabS led l)) (hel : ElI es.toList) (he : keysA es = ofNats l) (hl : l ∈ subs6) (hw : txt w = false → led = true)
    (hsl : txt w = false → sl = slotAt l i) (hi : i ≤ es.size)
    (h1 : i < es.size → ∀ tk sl', (txt w = false → sl' = slotAt l (i + 1)) → Q (some (.int ((orderS w a ep es).getD i 0) tk, sl')) s) (h2 : i = es.size → Q none s) : wpAny (model prog w) A (setNext a sl i ep) Q E s := by
  have hsz : es.size = l.length := by rw [← keysA_len, he, List.length_map]
  have hf : (tabS led l).fits es.size = true := by rw [hsz]; exact tab_fits led (led_mem led) l hl
  have h6 := subs_len l hl
  unfold setNext
  refine wpAny_bind (wpAny_setState_of ho hd hf ?_)
  dsimp only
  unfold setsByText
  refine wpAny_bind (wpAny_bind (wpAny_askSetting (wpAny_pure ?_)))
  show wpAny _ _ (if txt w = true then _ else _) _ _ _
  cases ht : txt w with
  | true =>
    rw [if_pos rfl, if_neg (by simp)]
    refine wpAny_bind ?_
    unfold setWalk
    refine wpAny_bind (wpAny_setState_of ho hd hf ?_)
    dsimp only
    unfold setsByText
    refine wpAny_bind (wpAny_bind (wpAny_askSetting (wpAny_pure ?_)))
    show wpAny _ _ (if txt w = true then _ else _) _ _ _
    rw [if_pos ht]
    refine wpAny_bind (wpAny_askSetting (wpAny_pure ?_))
    show wpAny _ _ (pure (((pickOrder (w.params.setOrder a ep) es)[i]?).map fun e => (e.2, sl))) _ _ _
    refine wpAny_pure ?_
    have hz : (pickOrder (w.params.setOrder a ep) es).size = es.size := by
      have := (pick_perm (w.params.setOrder a ep) es).length_eq
      rwa [Array.length_toList, Array.length_toList] at this
    rcases Nat.lt_or_ge i es.size with hlt | hge
    · obtain ⟨hh, t, e⟩ := entry_at (hel.perm (pick_perm (w.params.setOrder a ep) es)) (by rw [hz]; exact hlt)
      rw [e]
      have e2 : orderS w a ep es = keysA (pickOrder (w.params.setOrder a ep) es) := by unfold orderS; rw [if_pos ht]
      rw [← e2]
      exact h1 hlt t sl fun x => by rw [ht] at x; exact nomatch x
    · rw [Array.getElem?_eq_none (by omega)]
      exact h2 (by omega)
  | false =>
    rw [if_neg (by simp)]
    show wpAny _ _ (if ((!true) && _) = true then _ else _) _ _ _
    rw [if_neg (by simp)]
    refine wpAny_bind ?_
    show wpAny _ _ (if (!led && _) = true then unsupported _ else pure ()) _ _ _
    rw [if_neg (by rw [hw ht]; simp)]
    refine wpAny_pure ?_
    rw [hsl ht]
    have hb := below_at l hl i (List.mem_range.mpr (by omega)) (by omega)
    show wpAny _ _ (pure (match es[SetTable.below l.toArray (slotAt l i)]?, l.toArray[SetTable.below l.toArray (slotAt l i)]? with
      | some (_, x), some j => some (x, j + 1)
      | _, _ => none)) _ _ _
    rw [hb]
    refine wpAny_pure ?_
    rcases Nat.lt_or_ge i es.size with hlt | hge
    · obtain ⟨hh, t, e⟩ := entry_at hel hlt
      rw [e, List.getElem?_toArray, List.getElem?_eq_getElem (by omega)]
      have e2 : orderS w a ep es = keysA es := by unfold orderS; rw [if_neg (by rw [ht]; simp)]
      rw [← e2]
      refine h1 hlt t _ fun _ => ?_
      show _ = l.getD i 0 + 1
      rw [List.getD_eq_getElem?_getD, List.getElem?_eq_getElem (by omega)]
      rfl
    · rw [Array.getElem?_eq_none (by omega)]
      exact h2 (by omega)
theorem next_set {a I : Addr} {o : Obj} {es : Array (Int × Value)} {ep : Nat} {led : Bool} {l : List Nat} {sl i : Nat} {Q : Option Value → Shared → Prop} (ho : s.heap.get? a = some o) (hd : o.data = .set es ep (tabS led l)) (hel : ElI es.toList) (he : keysA es = ofNats l) (hl : l ∈ subs6) (hw : txt w = false → led = true)
    (hI : s.heap.get? I = some (itO a sl i es.size ep)) (hsl : txt w = false → sl = slotAt l i) (hi : i < es.size)
    (h : ∀ h' tk sl', h'.get? I = some (itO a sl' (i + 1) es.size ep) → (txt w = false → sl' = slotAt l (i + 1)) → Heap.SameBut I s.heap h' → Q (some (.int ((orderS w a ep es).getD i 0) tk)) { s with heap := h' }) : wpAny (model prog w) A (pyNext (.ref I)) Q E s := by
  have hT : s.TypeIs (.ref I) "set_iterator" := ⟨_, hI, rfl⟩
  have hsz : es.size = l.length := by rw [← keysA_len, he, List.length_map]
  have hf : (tabS led l).fits es.size = true := by rw [hsz]; exact tab_fits led (led_mem led) l hl
  unfold pyNext
  refine wpAny_bind (wpAny_attempt (wpAny_callSpecial?_slot (name := Str.ofString "__next__") hT slot_si_next
    (wpAny_call_entry slot_si_next hT entry_si_next ?_ (args_si_next _))))
  unfold Builtin.«set_iterator.__next__» slotArgs
  simp only [List.isEmpty_nil, Bool.not_true, Bool.false_eq_true, ↓reduceIte, bind_assoc, List.length_nil, bne_self_eq_false]
  refine wpAny_bind (wpAny_pure ?_)
  refine wpAny_bind (wpAny_fieldsOf hI rfl ?_)
  dsimp only [rawInt]
  refine wpAny_bind (wpAny_setEntries_of ho hd hf ?_)
  rw [if_neg (by simp)]
  rw [Int.toNat_natCast, Int.toNat_natCast, Int.toNat_natCast]
  refine wpAny_bind (next_S ho hd hel he hl hw hsl (by omega) (fun _ tk sl' hs' => ?_) fun x => by omega)
  dsimp only
  refine wpAny_bind (wpAny_setField hI rfl (by simp [itO]) ?_)
  have hI1 : (s.heap.update I (Obj.mapFields (·.setIfInBounds 0 (.int (sl' : Int) 0)))).get? I = some (itO a sl' i es.size ep) :=
    Heap.get?_update_self _ hI rfl
  refine wpAny_bind (wpAny_setField hI1 rfl (by simp [itO]) ?_)
  have hI2 : ((s.heap.update I (Obj.mapFields (·.setIfInBounds 0 (.int (sl' : Int) 0)))).update I (Obj.mapFields (·.setIfInBounds 1 (.int ((i : Int) + 1) 0)))).get? I = some (itO a sl' (i + 1) es.size ep) :=
    Heap.get?_update_self _ hI1 rfl
  refine wpAny_pure ⟨_, rfl, wpAny_pure ?_⟩
  exact h _ tk sl' hI2 hs' ((Heap.SameBut.update ..).trans (Heap.SameBut.update ..))
theorem end_set {a I : Addr} {o : Obj} {es : Array (Int × Value)} {ep : Nat} {led : Bool} {l : List Nat} {sl : Nat} {Q : Option Value → Shared → Prop} (hh : A.handled = none) (ho : s.heap.get? a = some o) (hd : o.data = .set es ep (tabS led l)) (hel : ElI es.toList) (he : keysA es = ofNats l) (hl : l ∈ subs6) (hw : txt w = false → led = true)
    (hI : s.heap.get? I = some (itO a sl es.size es.size ep)) (hsl : txt w = false → sl = slotAt l es.size)
    (h : ∀ h', Heap.ExtBut I s.heap h' → Q none { s with heap := h' }) : wpAny (model prog w) A (pyNext (.ref I)) Q E s := by
  have hT : s.TypeIs (.ref I) "set_iterator" := ⟨_, hI, rfl⟩
  have hsz : es.size = l.length := by rw [← keysA_len, he, List.length_map]
  have hf : (tabS led l).fits es.size = true := by rw [hsz]; exact tab_fits led (led_mem led) l hl
  unfold pyNext
  refine wpAny_bind (wpAny_attempt (wpAny_callSpecial?_slot (name := Str.ofString "__next__") hT slot_si_next
    (wpAny_call_entry slot_si_next hT entry_si_next ?_ (args_si_next _))))
  unfold Builtin.«set_iterator.__next__» slotArgs
  simp only [List.isEmpty_nil, Bool.not_true, Bool.false_eq_true, ↓reduceIte, bind_assoc, List.length_nil, bne_self_eq_false]
  refine wpAny_bind (wpAny_pure ?_)
  refine wpAny_bind (wpAny_fieldsOf hI rfl ?_)
  dsimp only [rawInt]
  refine wpAny_bind (wpAny_setEntries_of ho hd hf ?_)
  rw [if_neg (by simp)]
  rw [Int.toNat_natCast, Int.toNat_natCast, Int.toNat_natCast]
  refine wpAny_bind (next_S ho hd hel he hl hw hsl (Nat.le_refl _) (fun x => by omega) fun x => ?_)
  dsimp only
  refine wpAny_bind (wpAny_setField hI rfl (by simp [itO]) ?_)
  show wpAny _ _ (newExc (.type "StopIteration") [] >>= _) _ _ _
  refine wpAny_bind ?_
  simp only [newExc, newTuple]
  refine wpAny_bind (wpAny_newObj_type ?_ (by size_fits))
  refine wpAny_bind (m := firstArgMember _ _) (wpAny_of_eq (a := Value.none) (by first | rfl | (simp only [firstArgMember]; rfl)) ?_)
  refine wpAny_newObj_type ?_ (by size_fits)
  simp only [raiseNew]
  refine wpAny_bind (wpAny_handled ?_)
  rw [show A.in1.handled = none from hh]
  refine wpAny_bind (wpAny_pure (wpAny_throw ?_))
  refine wpAny_bind (wpAny_isInstance (T := "StopIteration") (b := true) ⟨_, Heap.get?_push_size _ rfl, rfl⟩ isSubtype_stop ?_)
  exact wpAny_pure (h _ (((Heap.SameBut.update ..).extBut.push _).push _))
end
end Mine
end
noncomputable section
open PySem PySem.W PyProof.Rows PySem.Spec PySem.Calls
set_option linter.unusedVariables false
set_option linter.unusedSimpArgs false
set_option maxRecDepth 100000
namespace Mine
theorem entry_si_iter : entryFor table "set_iterator.__iter__" = some Builtin.«dict_keyiterator.__iter__» :=
  entryFor_alias (id' := "dict_keyiterator.__iter__") (by rw [fastTable_eq_tree]; kernel_rfl) rfl (by rw [PySem.W.Fast.canonicalQ_eq]; decide +kernel) (by rw [fastTable_eq_tree]; kernel_rfl)
theorem subs_rising : ∀ l ∈ subs6, (l.map fun (n : Nat) => (n : Int)).Pairwise (· ≤ ·) := by decide +kernel
section
variable {prog : Program} {w : World} {A : Around} {E : Value → Shared → Prop} {s : Shared}
theorem set_walks {a I : Addr} {o : Obj} {es : Array (Int × Value)} {ep : Nat} {led : Bool} {l : List Nat} (hh : A.handled = none) (hne : a ≠ I) (hd : o.data = .set es ep (tabS led l)) (hel : ElI es.toList) (he : keysA es = ofNats l) (hl : l ∈ subs6) (hw : txt w = false → led = true) :
    Walks prog w A I [I, a] [I] es.size (fun i v => ∃ tk, v = .int ((orderS w a ep es).getD i 0) tk) (fun i h => (∃ sl, h.get? I = some (itO a sl i es.size ep) ∧ (txt w = false → sl = slotAt l i)) ∧ h.get? a = some o) where
  sub := fun b hb => by simp at hb; simp [hb]
  frame := fun _ _ _ st hk => ⟨let ⟨sl, h1, h2⟩ := st.1; ⟨sl, hk I (by simp) _ h1, h2⟩, hk a (by simp) _ st.2⟩
  item := fun i s Q E hi st hQ => by
    obtain ⟨⟨sl, hI, hsl⟩, ho⟩ := st
    refine next_set ho hd hel he hl hw hI hsl hi fun h' tk sl' hI' hs' hsb => ?_
    exact hQ _ h' s.toks ⟨tk, rfl⟩ ⟨⟨sl', hI', hs'⟩, hsb.extBut _ _ hne ho⟩ fun b o hb e => hsb.extBut b o (fun h => hb (by simp [h])) e
  done := fun s Q E st hQ => by
    obtain ⟨⟨sl, hI, hsl⟩, ho⟩ := st
    exact end_set hh ho hd hel he hl hw hI hsl fun h' he' => hQ h' s.toks fun b o hb e => he' b o (fun h => hb (by simp [h])) e
  self := fun i s Q E st hQ => by
    obtain ⟨⟨sl, hI, hsl⟩, ho⟩ := st
    have hT : s.TypeIs (.ref I) "set_iterator" := ⟨_, hI, rfl⟩
    refine wpAny_pyIter_slot hT slot_si_iter (wpAny_call_entry slot_si_iter hT entry_si_iter ?_ (args_si_iter _))
    show wpAny _ _ (ret (.ref I)) _ _ s
    exact wpAny_pure ⟨_, rfl, "set_iterator", _, hT, slot_si_next.lookup, hQ⟩
theorem set_src {a : Addr} {o : Obj} {es : Array (Int × Value)} {ep : Nat} {led : Bool} {l : List Nat} (hex : o.ExactSet) (hd : o.data = .set es ep (tabS led l)) (hel : ElI es.toList) (he : keysA es = ofNats l) (hl : l ∈ subs6) (hw : txt w = false → led = true) :
    KdlSrc prog w "set" a a es.size (fun i v => ∃ tk, v = .int ((orderS w a ep es).getD i 0) tk) (fun h => h.get? a = some o) where
  type := fun _ ho => ⟨o, ho, hex.1⟩
  there := fun _ ho => ⟨Heap.lt_size ho, Heap.lt_size ho⟩
  keep := fun _ _ ho hk => hk a (.inl rfl) o ho
  notList := by decide
  notTuple := by decide
  hint := fun _ _ _ _ ho hq => hint_set ⟨o, ho, hex.1⟩ hq
  iter := fun _ s hh ho => ⟨_, _, (fun _ _ hq => iter_set ho hex hd (by rw [show es.size = l.length by rw [← keysA_len, he, List.length_map]]; exact tab_fits led (led_mem led) l hl) hq),
    set_walks hh (Nat.ne_of_lt (Heap.lt_size ho)) hd hel he hl hw, ⟨⟨0, Heap.get?_push_size _ rfl, fun _ => rfl⟩, Heap.get?_push_of_some _ ho⟩⟩
theorem sorted_eq {a b : List Int} (p : a.Perm b) (ha : a.Pairwise (· ≤ ·)) (hb : b.Pairwise (· ≤ ·)) : a = b :=
  p.eq_of_pairwise (fun x y _ _ h1 h2 => Int.le_antisymm h1 h2) ha hb
theorem s_sorted {h₀ : Heap} {L sa : Addr} {m : Str → Option Value} {news : List (Addr × Obj)} {so : Obj} {l : List Nat} {Q : Value → Shared → Prop} (hh : A.handled = none) (F : Fr h₀ L s.heap m) (N : News h₀ L s.heap news) (hmem : (sa, so) ∈ news) (hso : SmallI w so l)
    (h : ∀ D vs c h' tk, Fr h₀ L h' m → News h₀ L h' ((D, listOf (List.toArray vs) c) :: news) → (∀ q ∈ news, q.1 < D) → IntsAre vs (ofNats l) → Q (.ref D) { s with heap := h', toks := tk }) :
    wpAny (model prog w) A (call (.builtin "sorted") [.ref sa]) Q E s := by
  have h6 := hso.len
  obtain ⟨hex, es, ep, led, hd, hel, he, hl, hw⟩ := hso
  have hsz : es.size = l.length := by rw [← keysA_len, he, List.length_map]
  refine kdu_sorted (set_src hex hd hel he hl hw) hh F N (N _ hmem).1 (by rw [sizeLine_eq]; omega) fun D h' tk vs F' N' l1 hlen hv => ?_
  have hp := orderS_perm w sa ep es
  have hI : IntsAre vs (orderS w sa ep es) := ints_of_get vs _ (by rw [hlen, hp.length_eq, keysA_len]) hv
  have ol : (orderS w sa ep es).length = es.size := by rw [hp.length_eq, keysA_len]
  refine ksk_lsort (s := { s with heap := h', toks := tk }) (news' := fun o => (D, o) :: news) (vs := vs) (n := 0) F' N' (fun o => ?_) (by rfl) hI (by omega) fun vs' ns' c h2 F2 N2 hI2 hl2 hp2 hs2 _ => ?_
  · exact .head fun p hp => Nat.ne_of_lt (l1 p hp)
  · have e : ns' = ofNats l := sorted_eq (hp2.trans (he ▸ hp)) hs2 (subs_rising l hl)
    subst e
    exact h D vs' c h2 tk F2 N2 l1 hI2
end
end Mine
end
noncomputable section
open PySem PySem.W PyProof.Rows PySem.Spec PySem.Calls
set_option linter.unusedVariables false
set_option linter.unusedSimpArgs false
set_option maxRecDepth 100000
namespace Mine
/-! the widths' search, whatever is popped -/
structure WSt where
  sn : List Nat
  nd : List Nat
  ws : List Nat
  deriving DecidableEq
noncomputable def wStep (mt : Nat) (st : WSt) (k : Nat) : WSt :=
  if k ∈ st.sn ∨ k ≤ mt then ⟨st.sn, st.nd, st.ws.erase k⟩
  else ⟨addS k st.sn, addS (k / 2) st.nd, if k % 2 = 1 then addS (k / 2 + 1) (addS (k / 2) (st.ws.erase k)) else addS (k / 2) (st.ws.erase k)⟩
noncomputable def wReach (mt : Nat) : Nat → List WSt → List WSt → List WSt
  | 0, _, acc => acc
  | n + 1, front, acc =>
    let nxt := (front.flatMap fun st => st.ws.map (wStep mt st)).filter fun st => !acc.contains st
    let nxt := nxt.eraseDups
    wReach mt n nxt (nxt ++ acc)
noncomputable def reachW (wd mt : Nat) : List WSt := wReach mt 24 [⟨[], [], [wd]⟩] [⟨[], [], [wd]⟩]
noncomputable def wMu (st : WSt) : Nat := 3 * (12 - st.sn.length) + st.ws.length
noncomputable def needL (wd mt : Nat) : List Nat := (([[0, 1, 2], [0, 1, 2], [0, 1, 3], [0, 1, 2, 3], [0, 1, 2, 4], [0, 1, 2, 4], [0, 1, 2, 5], [0, 1, 2, 3, 5]] : List (List Nat)).getD (wd - 4) []).drop mt
theorem wReach_sub {mt : Nat} {st : WSt} : ∀ (n : Nat) (front acc : List WSt), st ∈ acc → st ∈ wReach mt n front acc
  | 0, _, _, h => h
  | n + 1, _, _, h => wReach_sub n _ _ (List.mem_append_right _ h)
noncomputable def okW (mt : Nat) (nl : List Nat) (R : List WSt) : Bool :=
  R.all fun st => st.ws.all (fun k => R.contains (wStep mt st k) && decide (wMu (wStep mt st k) < wMu st) && decide (k ≤ 11)) && (!st.ws.isEmpty || decide (st.nd = nl)) && decide (st.sn.length ≤ 12) && decide (st.ws.length ≤ 12)
theorem okW_all : ∀ wd ∈ [4, 5, 6, 7, 8, 9, 10, 11], ∀ mt ∈ [0, 1], okW mt (needL wd mt) (reachW wd mt) = true := by decide +kernel
structure WInv (wd mt : Nat) (st : WSt) : Prop where
  mem : st ∈ reachW wd mt
theorem WInv.start (wd mt : Nat) (h : wd ∈ [4, 5, 6, 7, 8, 9, 10, 11]) (h2 : mt ∈ [0, 1]) : WInv wd mt ⟨[], [], [wd]⟩ := by
  exact ⟨wReach_sub _ _ _ (List.mem_singleton.mpr rfl)⟩
theorem WInv.facts {wd mt : Nat} {st : WSt} (h : wd ∈ [4, 5, 6, 7, 8, 9, 10, 11]) (h2 : mt ∈ [0, 1]) (x : WInv wd mt st) :
    (∀ k ∈ st.ws, WInv wd mt (wStep mt st k) ∧ wMu (wStep mt st k) < wMu st ∧ k ≤ 11) ∧ (st.ws = [] → st.nd = needL wd mt) ∧ st.sn.length ≤ 12 ∧ st.ws.length ≤ 12 := by
  have := okW_all wd h mt h2
  unfold okW at this
  have h3 := List.all_eq_true.mp this st x.mem
  simp only [Bool.and_eq_true, decide_eq_true_eq, Bool.or_eq_true, Bool.not_eq_true', List.all_eq_true] at h3
  obtain ⟨⟨⟨h4, h5⟩, h6⟩, h7⟩ := h3
  refine ⟨fun k hk => ?_, fun e => ?_, h6, h7⟩
  · obtain ⟨⟨a1, a2⟩, a3⟩ := h4 k hk
    exact ⟨⟨List.contains_iff_mem.mp a1⟩, a2, a3⟩
  · rcases h5 with h5 | h5
    · rw [e] at h5; exact nomatch h5
    · exact h5
end Mine
end
noncomputable section
open PySem PySem.W PyProof.Rows PySem.Spec PySem.Calls
set_option linter.unusedVariables false
set_option maxRecDepth 100000
namespace Mine
noncomputable abbrev RetD (w : World) (news : List (Addr × Obj)) (T : List (PyData × PyData)) : Heap → Addr → (Str → Option Value) → Shared → (Value → Shared → Prop) → Prop := fun h₀ L m s Q =>
  ∀ (D : Addr) (o : Obj) (h' : Heap) (tk' : Nat) (dr : Drawn), Fr h₀ L h' m → News h₀ L h' ((D, o) :: news) → (∀ p ∈ news, p.1 < D) → (D == sysModules) = false → TabOf (intKind PySem.Challenge.rw_sn0064_01.prog w) PyData.int o T → Q (.ref D) { s with heap := h', toks := tk', drawn := dr }
theorem ins_perm {k : Nat} {l : List Nat} (h : k ∉ l) : (ins k l).Perm (k :: l) := by
  unfold ins
  refine List.perm_middle.trans (List.Perm.cons k ?_)
  have e : l.filter (fun x => decide (k < x)) = l.filter (fun x => !decide (x < k)) := List.filter_congr fun x hx => by
    have : x ≠ k := fun e => h (e ▸ hx)
    by_cases h1 : x < k <;> simp [h1] <;> omega
  rw [e]
  exact List.filter_append_perm _ _
theorem addS_len (k : Nat) (l : List Nat) : (addS k l).length ≤ l.length + 1 := by
  unfold addS
  by_cases h : k ∈ l
  · rw [if_pos h]; omega
  · rw [if_neg h, (ins_perm h).length_eq]; exact Nat.le_refl _
theorem addN_perm {k : Nat} {l : List Nat} : (addN (k : Int) (ofNats l)).Perm (ofNats (addS k l)) := by
  unfold addN addS
  have : ((k : Int) ∈ ofNats l) ↔ k ∈ l := by
    constructor
    · intro x
      obtain ⟨y, hy, e⟩ := List.mem_map.mp x
      have : y = k := by omega
      exact this ▸ hy
    · exact fun x => List.mem_map.mpr ⟨k, x, rfl⟩
  by_cases h : k ∈ l
  · rw [if_pos h, if_pos (this.mpr h)]
  · rw [if_neg h, if_neg (fun x => h (this.mp x))]
    exact ((ins_perm h).map (fun (n : Nat) => (n : Int))).symm
theorem erase_nats (k : Nat) : ∀ l : List Nat, (ofNats l).erase (k : Int) = ofNats (l.erase k)
  | [] => rfl
  | x :: r => by
    show ((x : Int) :: ofNats r).erase (k : Int) = _
    by_cases h : x = k
    · subst h
      rw [List.erase_cons_head, List.erase_cons_head]
    · rw [List.erase_cons_tail (by simp; omega), List.erase_cons_tail (by simpa using h), erase_nats k r]
      rfl
theorem mem_nats {k : Nat} {l : List Nat} : ((k : Int) ∈ ofNats l) ↔ k ∈ l := by
  constructor
  · intro x
    obtain ⟨y, hy, e⟩ := List.mem_map.mp x
    have : y = k := by omega
    exact this ▸ hy
  · exact fun x => List.mem_map.mpr ⟨k, x, rfl⟩
section
variable {prog : Program} {w : World} {A : Around} {E : Value → Shared → Prop} {s : Shared} {h₀ : Heap} {L sa : Addr} {m : Str → Option Value} {news : List (Addr × Obj)} {g : Obj → List (Addr × Obj)} {so : Obj} {l : List Nat} {k : Int} {tk : Tok}
theorem s_addN {Q : Value → Shared → Prop} (F : Fr h₀ L s.heap m) (N : News h₀ L s.heap news) (U : UpdF sa so news g) (hso : SetI w so (ofNats l)) (hb : l.length ≤ 30) (h0 : 0 ≤ k)
    (h : ∀ h' so', Fr h₀ L h' m → News h₀ L h' (g so') → SetI w so' (ofNats (addS k.toNat l)) → (addS k.toNat l).length ≤ l.length + 1 → Q .none { s with heap := h', toks := s.toks + 1 }) :
    wpAny (model prog w) A (call (.builtin "set.add") [.ref sa, .int k tk]) Q E s := by
  obtain ⟨n, rfl⟩ : ∃ n : Nat, k = (n : Int) := ⟨k.toNat, by omega⟩
  exact s_add F N U hso (by rw [List.length_map]; show _ < 4096; omega) fun h' so' F' N' hs => h h' so' F' N' (hs.wf addN_perm) (addS_len _ _)
theorem s_setAddN {Q : Bool → Shared → Prop} (F : Fr h₀ L s.heap m) (N : News h₀ L s.heap news) (U : UpdF sa so news g) (hso : SetI w so []) (h0 : 0 ≤ k)
    (h : ∀ b h' so', Fr h₀ L h' m → News h₀ L h' (g so') → SetI w so' (ofNats [k.toNat]) → Q b { s with heap := h', toks := s.toks + 1 }) :
    wpAny (model prog w) A (setAdd sa (.int k tk)) Q E s := by
  refine s_setAdd F N U hso (by decide) fun b h' so' F' N' hs => h b h' so' F' N' ?_
  obtain ⟨n, rfl⟩ : ∃ n : Nat, k = (n : Int) := ⟨k.toNat, by omega⟩
  exact hs
theorem s_inN {kn : Nat} {Q : Value → Shared → Prop} (N : News h₀ L s.heap news) (hmem : (sa, so) ∈ news) (hso : SetI w so (ofNats l)) (hb : l.length ≤ 30) (h : Q (.bool (decide (kn ∈ l))) { s with toks := s.toks + 1 }) :
    wpAny (model prog w) A (compareOp .In (.int (kn : Int) tk) (.ref sa)) Q E s := by
  refine s_in N hmem hso (by rw [List.length_map]; show _ < 4096; omega) ?_
  have : decide ((kn : Int) ∈ ofNats l) = decide (kn ∈ l) := by simp only [mem_nats]
  rw [this]
  exact h
theorem s_addMN {pl : Sem Bool} {Q : Value × List Value → Shared → Prop} (N : News h₀ L s.heap news) (hmem : (sa, so) ∈ news) (hso : SetI w so (ofNats l)) (hb : l.length ≤ 30) (h : Q (.builtin "set.add", [.ref sa]) s) :
    wpAny (model prog w) A (getMethod (.ref sa) "add" pl) Q E s := s_addM N hmem hso (by rw [List.length_map]; show _ < 4096; omega) h
theorem s_popMN {pl : Sem Bool} {Q : Value × List Value → Shared → Prop} (N : News h₀ L s.heap news) (hmem : (sa, so) ∈ news) (hso : SetI w so (ofNats l)) (hb : l.length ≤ 30) (h : Q (.builtin "set.pop", [.ref sa]) s) :
    wpAny (model prog w) A (getMethod (.ref sa) "pop" pl) Q E s := s_popM N hmem hso (by rw [List.length_map]; show _ < 4096; omega) h
theorem s_truthN {Q : Bool → Shared → Prop} (N : News h₀ L s.heap news) (hmem : (sa, so) ∈ news) (hso : SetI w so (ofNats l)) (hb : l.length ≤ 30)
    (h : Q (!l.isEmpty) { s with toks := s.toks + 1 + 1 }) : wpAny (model prog w) A (truthy (.ref sa)) Q E s := by
  refine s_truth N hmem hso (by rw [List.length_map]; show _ < 4096; omega) ?_
  have : (ofNats l).isEmpty = l.isEmpty := by cases l <;> rfl
  rw [this]
  exact h
theorem s_popN {Q : Value → Shared → Prop} (F : Fr h₀ L s.heap m) (N : News h₀ L s.heap news) (U : UpdF sa so news g) (hso : SetI w so (ofNats l)) (hb : l.length ≤ 30) (hne : l.isEmpty = false)
    (h : ∀ (k : Nat) tk h' so' dr, k ∈ l → Fr h₀ L h' m → News h₀ L h' (g so') → SetI w so' (ofNats (l.erase k)) → (l.erase k).length ≤ l.length → Q (.int (k : Int) tk) { s with heap := h', drawn := dr }) :
    wpAny (model prog w) A (call (.builtin "set.pop") [.ref sa]) Q E s := by
  refine s_pop F N U hso (by rw [List.length_map]; show _ < 4096; omega) (by cases l <;> simp_all) fun k tk h' so' dr hk F' N' hs => ?_
  obtain ⟨n, hn, rfl⟩ := List.mem_map.mp hk
  exact h n tk h' so' dr hn F' N' (erase_nats n l ▸ hs) List.length_erase_le
end
noncomputable def WEnd {σ : Type} (h₀ : Heap) (L : Addr) (s : Shared) (Led : σ → List (Addr × Obj)) (stored : List Str) (m₀ : Str → Option Value) (P : σ → Prop) (μ : σ → Nat) (c : σ) (s₂ : Shared) : Prop :=
  ∃ (c' : σ) (h' : Heap) (tk : Nat) (dr : Drawn) (m' : Str → Option Value) (news' : List (Addr × Obj)), s₂ = { s with heap := h', toks := tk, drawn := dr } ∧ Fr h₀ L h' m' ∧ News h₀ L h' news' ∧ (∀ p ∈ Led c', p ∈ news') ∧ (∀ z, stored.contains z = false → m' z = m₀ z) ∧ P c' ∧ μ c' < μ c
noncomputable def WPost {σ : Type} (h₀ : Heap) (L : Addr) (s : Shared) (Led : σ → List (Addr × Obj)) (stored : List Str) (m₀ : Str → Option Value) (P : σ → Prop) (μ : σ → Nat) (Q : Flow → Shared → Prop) (c : σ) (f : Flow) (s₂ : Shared) : Prop :=
  match f with
  | .ret v => Q (.ret v) s₂
  | .brk => Q .next s₂
  | _ => WEnd h₀ L s Led stored m₀ P μ c s₂
section
variable {prog : Program} {w : World} {A : Around} {E : Value → Shared → Prop} {Q : Flow → Shared → Prop} {s : Shared} {env : Env} {h₀ : Heap} {L : Addr}
/-- a while whose turns may draw -/
theorem while_dr {σ : Type} {test : Expr} {body : List Stmt} {pos : Pos} {m₀ : Str → Option Value} (Led : σ → List (Addr × Obj)) (stored : List Str) (P : σ → Prop) (μ : σ → Nat) (c₀ : σ)
    (F : Fr h₀ L s.heap m₀) (N : News h₀ L s.heap (Led c₀)) (hp : P c₀)
    (turn : ∀ (c : σ) (u : Str → Option Value) h tk dr, P c → Fr h₀ L h (fun z => if stored.contains z then u z else m₀ z) → News h₀ L h (Led c) →
      wpAny (model prog w) A (isTrue test env (eval test env)) (fun b s₂ =>
        if b = true then wpAny (model prog w) A (execs body env) (WPost h₀ L s Led stored m₀ P μ Q c) E s₂ else Q .next s₂) E { s with heap := h, toks := tk, drawn := dr })
    (hE : PassesOwn (model prog w) A env E := by passes_own) :
    wpAny (model prog w) A (exec (.While test body [] pos) env) Q E s := by
  refine wpAny_While (codeAny_whileLoop (fun n s' => ∃ c h₁ tk₁ dr₁ m₁, s' = { s with heap := h₁, toks := tk₁, drawn := dr₁ } ∧ Fr h₀ L h₁ m₁ ∧ News h₀ L h₁ (Led c) ∧ μ c = n ∧ (∀ z, stored.contains z = false → m₁ z = m₀ z) ∧ P c) ?_ (μ c₀) ⟨c₀, s.heap, s.toks, s.drawn, m₀, rfl, F, N, rfl, fun _ _ => rfl, hp⟩)
  rintro n s' ⟨c, h₁, tk₁, dr₁, m₁, rfl, F₁, N₁, hn, hm, hp'⟩
  have em : (fun z => if stored.contains z = true then m₁ z else m₀ z) = m₁ := by
    funext y
    cases h3 : stored.contains y with
    | true => simp
    | false => simp only [Bool.false_eq_true, if_false]; exact (hm y h3).symm
  refine wpAny_mono (turn c m₁ h₁ tk₁ dr₁ hp' (by rw [em]; exact F₁) N₁) (fun b s₂ h₂ => ?_) hE
  cases b with
  | false =>
    simp only [Bool.false_eq_true, if_false] at h₂ ⊢
    exact wpAny_execs_nil h₂
  | true =>
    simp only [if_true] at h₂ ⊢
    refine wpAny_mono h₂ (fun f s₃ h₃ => ?_) hE
    cases f with
    | next =>
      obtain ⟨c', h', tk, dr, m', news', rfl, F', N', hl, hz, hp9, hμ⟩ := h₃
      exact ⟨μ c', hn ▸ hμ, c', h', tk, dr, m', rfl, F', fun p hp => N' p (hl p hp), rfl, hz, hp9⟩
    | cont =>
      obtain ⟨c', h', tk, dr, m', news', rfl, F', N', hl, hz, hp9, hμ⟩ := h₃
      exact ⟨μ c', hn ▸ hμ, c', h', tk, dr, m', rfl, F', fun p hp => N' p (hl p hp), rfl, hz, hp9⟩
    | brk => exact h₃
    | ret v => exact h₃
end
end Mine
end
noncomputable section
open PySem PySem.W PyProof.Rows PySem.Spec PySem.Calls
set_option linter.unusedVariables false
set_option linter.unusedSimpArgs false
set_option maxRecDepth 100000
namespace Mine
noncomputable def DEnd (h₀ : Heap) (L : Addr) (s : Shared) (d : Addr) (rest : List (Addr × Obj)) (stored : List Str) (m₀ : Str → Option Value) (P : Obj → Prop) (s₂ : Shared) : Prop :=
  ∃ h' tk m' o' nw, s₂ = { s with heap := h', toks := tk } ∧ Fr h₀ L h' m' ∧ News h₀ L h' nw ∧ (∀ p ∈ (d, o') :: rest, p ∈ nw) ∧ (∀ z, stored.contains z = false → m' z = m₀ z) ∧ P o'
noncomputable def DPost (h₀ : Heap) (L : Addr) (s : Shared) (d : Addr) (rest : List (Addr × Obj)) (stored : List Str) (m₀ : Str → Option Value) (P : Obj → Prop) (Q : Flow → Shared → Prop) (f : Flow) (s₂ : Shared) : Prop :=
  match f with
  | .ret v => Q (.ret v) s₂
  | .brk => Q .next s₂
  | _ => DEnd h₀ L s d rest stored m₀ P s₂
noncomputable abbrev liO (l : Addr) (i : Nat) : Obj := { cls := .type "list_iterator", data := .fields #[.ref l, .int i 0] }
section
variable {prog : Program} {w : World} {A : Around} {E : Value → Shared → Prop} {s : Shared} {env : Env} {h₀ : Heap} {x : Str} {body : List Stmt} {Q : Flow → Shared → Prop}
theorem walks_from1 (hh : A.handled = none) (I ax : Addr) (hne : ax ≠ I) (items : Array Value) (n : Nat) (hn : items.size = n + 1) :
    Walks prog w A I [I, ax] [I] n (fun i v => items[i + 1]? = some v) (fun i h => h.IsListIter I ax (i + 1) ∧ h.IsList ax items) where
  sub := (Walks.list (prog := prog) (w := w) hh I ax hne items).sub
  frame := fun i => (Walks.list (prog := prog) (w := w) hh I ax hne items).frame (i + 1)
  item := fun i s Q E hi st hQ => (Walks.list (prog := prog) (w := w) hh I ax hne items).item (i + 1) s Q E (by omega) st hQ
  done := fun s Q E st hQ => (Walks.list (prog := prog) (w := w) hh I ax hne items).done s Q E (by rw [hn]; exact st) hQ
  self := fun i => (Walks.list (prog := prog) (w := w) hh I ax hne items).self (i + 1)
theorem isList_of {h : Heap} {l : Addr} {items : Array Value} {c : Nat} (e : h.get? l = some (listOf items c)) : h.IsList l items := ⟨_, e, rfl, c, rfl⟩
/-- the rest of a list's walk, one dict changed -/
theorem iter_from1 {I l d : Addr} {vs : List Value} {ns : List Int} {c n : Nat} {o : Obj} {rest : List (Addr × Obj)} {m₀ : Str → Option Value} (stored : List Str) (P : Nat → Obj → Prop) (hh : A.handled = none) (hi : IntsAre vs ns) (hn : ns.length = n + 1)
    (F : Fr h₀ env.locals s.heap m₀) (N : News h₀ env.locals s.heap ((I, liO l 1) :: (l, listOf vs.toArray c) :: (d, o) :: rest)) (h1 : l ≠ I) (h2 : d ≠ I) (h3 : ∀ p ∈ rest, p.1 ≠ I) (hP : P 1 o)
    (turn : ∀ i k t (u : Str → Option Value) o' io lo h tk, ns[i + 1]? = some k → i < n → P (i + 1) o' → Fr h₀ env.locals h (fun y => if y = x then some (.int k t) else if stored.contains y then u y else m₀ y) → News h₀ env.locals h ((d, o') :: (I, io) :: (l, lo) :: rest) →
      wpAny (model prog w) A (execs body env) (DPost h₀ env.locals { s with heap := h, toks := tk } d ((I, io) :: (l, lo) :: rest) (x :: stored) m₀ (P (i + 2)) Q) E { s with heap := h, toks := tk })
    (done : ∀ (u : Str → Option Value) o' h tk, P (n + 1) o' → Fr h₀ env.locals h (fun z => if (x :: stored).contains z then u z else m₀ z) → News h₀ env.locals h ((d, o') :: rest) → Q .next { s with heap := h, toks := tk }) :
    wpAny (model prog w) A (pyIter (.ref I)) (fun it s₂ => LoopAtV prog w A h₀ env x body Q E it s₂) E s := by
  have hI := N _ (.head _)
  have hl := N _ (.tail _ (.head _))
  have hli : s.heap.IsListIter I l 1 := ⟨_, hI.1, rfl, rfl⟩
  have hlist : s.heap.IsList l vs.toArray := isList_of hl.1
  refine wpAny_pyIter_listiter hli ?_
  have hlen := hi.length
  have W := walks_from1 (prog := prog) (w := w) hh I l h1 vs.toArray n (by simp [hlen, hn])
  let J : Nat → (Str → Option Value) → List (Addr × Obj) → Prop := fun i m₁ news₁ => (∀ z, (x :: stored).contains z = false → m₁ z = m₀ z) ∧ ∃ o', news₁ = (d, o') :: rest ∧ P (i + 1) o'
  refine ⟨I, [I, l], [I], n, _, _, m₀, (d, o) :: rest, J, rfl, W, ?_, ?_, ?_, ⟨hli, hlist⟩, F, (fun p hp => N p (.tail _ (.tail _ hp))), ⟨fun _ _ => rfl, o, rfl, hP⟩, ?_, ?_⟩
  · intro hm
    rcases List.mem_cons.mp hm with e | hm
    · exact hI.2.1 e.symm
    · exact hl.2.1 (List.mem_singleton.mp hm).symm
  · intro b hb
    rw [List.mem_singleton.mp hb]
    exact hI.2.2
  · intro p hp hx
    rcases List.mem_cons.mp hp with rfl | hp
    · exact h2 (List.mem_singleton.mp hx)
    · exact h3 p hp (List.mem_singleton.mp hx)
  · rintro i v m₁ news₁ s₁ own ⟨hh', tk', rfl⟩ hin hv ⟨hm, o', rfl, hP'⟩ _ hown hget hall hst F₁ N₁
    obtain ⟨k, hk⟩ : ∃ k, ns[i + 1]? = some k := ⟨ns[i + 1], by simp⟩
    obtain ⟨t, hx⟩ := hi.get (i + 1) k hk
    have hv' : v = .int k t := by
      have : vs[i + 1]? = some v := by simpa using hv
      rw [hx] at this; exact (Option.some.inj this).symm
    subst hv'
    obtain ⟨⟨io, hio, _⟩, lo, hlo, hlo'⟩ := hst
    dsimp only at hio hlo
    have m1 : (I, io) ∈ own := hall I (by simp) hI.2.2 io hio
    have m2 : (l, lo) ∈ own := hall l (by simp) hl.2.2 _ hlo
    have em : (fun y => if y = x then some (Value.int k t) else m₁ y) = fun y => if y = x then some (.int k t) else if stored.contains y then m₁ y else m₀ y := by
      funext y
      by_cases hy : y = x
      · rw [if_pos hy, if_pos hy]
      · rw [if_neg hy, if_neg hy]
        cases h9 : stored.contains y with
        | true => simp
        | false =>
          simp only [Bool.false_eq_true, if_false]
          exact hm y (by rw [List.contains_cons, h9]; simp [hy])
    rw [em] at F₁
    have N₂ : News h₀ env.locals hh' ((d, o') :: (I, io) :: (l, lo) :: rest) := by
      intro p hp
      rcases List.mem_cons.mp hp with rfl | hp
      · exact N₁ _ (List.mem_append_right _ (.head _))
      · rcases List.mem_cons.mp hp with rfl | hp
        · exact N₁ _ (List.mem_append_left _ m1)
        · rcases List.mem_cons.mp hp with rfl | hp
          · exact N₁ _ (List.mem_append_left _ m2)
          · exact N₁ _ (List.mem_append_right _ (.tail _ hp))
    refine wpAny_mono (turn i k t m₁ o' io lo hh' tk' hk hin hP' F₁ N₂) (fun f s₂ p => ?_) fun _ _ e => e
    have fin : DEnd h₀ env.locals { s with heap := hh', toks := tk' } d ((I, io) :: (l, lo) :: rest) (x :: stored) m₀ (P (i + 2)) s₂ → LoopStepU h₀ env.locals [I] own (J (i + 1)) { s with heap := hh', toks := tk' } .next s₂ := by
      rintro ⟨h', tk, m', o'', nw, rfl, F', N', hnw, hz, hp9⟩
      refine ⟨rfl, h', tk, m', (d, o'') :: rest, rfl, F', fun p hp => ?_, fun p hp hq => ?_, hz, o'', rfl, hp9⟩
      · rcases List.mem_append.mp hp with hp | hp
        · rcases List.mem_cons.mp (hown p hp) with e | e
          · have : p = (I, io) := by
              have g := hget p hp
              rw [e] at g
              dsimp only at g
              rw [hio] at g
              exact Prod.ext e (Option.some.inj g).symm
            rw [this]
            exact N' _ (hnw _ (.tail _ (.head _)))
          · have e := List.mem_singleton.mp e
            have : p = (l, lo) := by
              have g := hget p hp
              rw [e] at g
              dsimp only at g
              rw [hlo] at g
              exact Prod.ext e (Option.some.inj g).symm
            rw [this]
            exact N' _ (hnw _ (.tail _ (.tail _ (.head _))))
        · rcases List.mem_cons.mp hp with rfl | hp
          · exact N' _ (hnw _ (.head _))
          · exact N' _ (hnw _ (.tail _ (.tail _ (.tail _ hp))))
      · rcases List.mem_cons.mp hp with rfl | hp
        · exact h2 (List.mem_singleton.mp hq)
        · exact h3 p hp (List.mem_singleton.mp hq)
    cases f with
    | ret v => exact .ret p
    | brk => exact .brk p
    | next => exact .next (fin p)
    | cont => exact .cont (fin p)
  · rintro h' tk m' news' F' N' _ ⟨hz, o', rfl, hp9⟩
    have em : (fun z => if (x :: stored).contains z = true then m' z else m₀ z) = m' := by
      funext y
      cases h3 : (x :: stored).contains y with
      | true => simp
      | false => simp only [Bool.false_eq_true, if_false]; exact (hz y h3).symm
    exact done m' o' h' tk hp9 (by rw [em]; exact F') N'
end
end Mine
end
noncomputable section
open PySem PySem.W PyProof.Rows PySem.Spec PySem.Calls
set_option linter.unusedVariables false
set_option linter.unusedSimpArgs false
set_option maxRecDepth 100000
namespace Mine
section
variable {prog : Program} {w : World} {A : Around} {E : Value → Shared → Prop} {s : Shared} {h₀ : Heap} {L l I d : Addr} {m : Str → Option Value} {news : List (Addr × Obj)} {vs : List Value} {c : Nat} {Q : Value → Shared → Prop}
theorem l_iter (F : Fr h₀ L s.heap m) (N : News h₀ L s.heap news) (hm : (l, listOf vs.toArray c) ∈ news)
    (h : ∀ D h', Fr h₀ L h' m → News h₀ L h' ((D, liO l 0) :: news) → (∀ q ∈ news, q.1 < D) → Q (.ref D) { s with heap := h' }) :
    wpAny (model prog w) A (call (.builtin "iter") [.ref l]) Q E s := by
  refine call_function_entry (by decide +kernel) (by decide +kernel) kdk_entry_iter (kdk_args_iter _) ?_
  unfold Builtin.«iter»
  refine wpAny_bind (m := someArgs "iter" 1 2 _) (wpAny_of_eq (a := [Value.ref l]) (by first | rfl | kernel_rfl!) ?_)
  show wpAny _ _ (pyIter (.ref l) >>= _) _ _ _
  refine wpAny_bind (wpAny_pyIter_list (isList_of (N _ hm).1) ?_)
  exact wpAny_pure ⟨_, rfl, h _ _ (F.push _) (News.push F N _ rfl) (fun q hq => Heap.lt_size (N q hq).1)⟩
theorem l_special {x : Value} {items : Array Value} {i : Nat} {Q : Option Value → Shared → Prop} (hI : s.heap.get? I = some (liO l i)) (hl : s.heap.IsList l items) (hx : items[i]? = some x)
    (hQ : ∀ h', h'.get? I = some (liO l (i + 1)) → Heap.SameBut I s.heap h' → Q (some x) { s with heap := h' }) :
    wpAny (model prog w) A (callSpecial? (.ref I) (Str.ofString "__next__")) Q E s := by
  have hT : s.TypeIs (.ref I) "list_iterator" := ⟨_, hI, rfl⟩
  obtain ⟨ol, hol, _, nl, hdl⟩ := hl
  refine wpAny_callSpecial?_slot (name := Str.ofString "__next__") hT slot_listiter_next
    (wpAny_call_entry slot_listiter_next hT entry_listiter_next ?_ (args_listiter_next _))
  show wpAny _ _ (field (.ref I) 0 >>= _) _ _ s
  refine wpAny_bind (wpAny_field hI rfl (x := .ref l) rfl ?_)
  show wpAny _ _ (if (Value.ref l == Value.none) = true then _ else _) _ _ s
  rw [if_neg (show ¬ ((Value.ref l == Value.none) = true) from Bool.false_ne_true)]
  show wpAny _ _ (field (.ref I) 1 >>= _) _ _ s
  refine wpAny_bind (wpAny_field hI rfl (x := .int i 0) rfl ?_)
  show wpAny _ _ (seqItems? (.ref l) >>= _) _ _ s
  refine wpAny_bind (wpAny_seqItems hol hdl ?_)
  simp only [Int.toNat_natCast, hx]
  refine wpAny_bind (wpAny_setField hI rfl (by simp) (wpAny_pure ⟨x, rfl, (hQ _ ?_ (Heap.SameBut.update ..))⟩))
  exact Heap.get?_update_self _ hI rfl
theorem l_next {g : Obj → List (Addr × Obj)} {i : Nat} {k : Int} {ns : List Int} (F : Fr h₀ L s.heap m) (N : News h₀ L s.heap news) (U : UpdF I (liO l i) news g) (hm : (l, listOf vs.toArray c) ∈ news) (hi : IntsAre vs ns) (hk : ns[i]? = some k)
    (h : ∀ h' t, Fr h₀ L h' m → News h₀ L h' (g (liO l (i + 1))) → Q (.int k t) { s with heap := h' }) :
    wpAny (model prog w) A (call (.builtin "next") [.ref I]) Q E s := by
  obtain ⟨pre, post, hl, hg, a, b⟩ := U.split
  have hmem : (I, liO l i) ∈ news := by rw [hl]; exact List.mem_append_right _ (.head _)
  have hI := N _ hmem
  have hT : s.TypeIs (.ref I) "list_iterator" := ⟨_, hI.1, rfl⟩
  obtain ⟨t, hx⟩ := hi.get i k hk
  refine call_function_entry (by decide +kernel) (by decide +kernel) kdk_entry_next (kdk_args_next _) ?_
  unfold Builtin.«next»
  refine wpAny_bind (m := someArgs "next" 1 2 _) (wpAny_of_eq (a := [Value.ref I]) (by first | rfl | kernel_rfl!) ?_)
  dsimp only
  refine wpAny_bind (wpAny_specialOf (name := Str.ofString "__next__") hT slot_listiter_next.lookup ?_)
  refine wpAny_ite_split (fun hab => absurd hab (by decide)) (fun _ => ?_)
  refine wpAny_bind (l_special hI.1 (isList_of (N _ hm).1) (x := .int k t) (by simpa using hx) fun h' hI' hs => ?_)
  exact wpAny_pure ⟨_, rfl, h h' t (F.change hs hI.2.1 hI.2.2) (hg (liO l (i + 1)) ▸ (show News h₀ L s.heap (pre ++ (I, liO l i) :: post) from hl ▸ N).setIn a b hs hI')⟩
end
section
variable {prog : Program} {w : World} {A : Around} {E : Value → Shared → Prop} {s : Shared} {h₀ : Heap} {L d : Addr} {m : Str → Option Value} {news : List (Addr × Obj)} {o : Obj} {T : List (PyData × PyData)} {x : Int} {tk : Tok} {Q : Value → Shared → Prop}
theorem d_in {r : Option PyData} (N : News h₀ L s.heap news) (hm : (d, o) ∈ news) (lo : (d == sysModules) = false) (t : TabOf (intKind prog w) PyData.int o T) (hl : PySem.Spec.lookup (.int x) T = r) (h : Q (.bool r.isSome) { s with toks := s.toks + 1 }) :
    wpAny (model prog w) A (compareOp .In (.int x tk) (.ref d)) Q E s := by
  subst hl
  exact in_intTab (t.tabAt N hm lo) h
theorem d_item {value slice : Expr} {z : Int} (N : News h₀ L s.heap news) (hm : (d, o) ∈ news) (lo : (d == sysModules) = false) (t : TabOf (intKind prog w) PyData.int o T) (hl : PySem.Spec.lookup (.int x) T = some (.int z)) (h : ∀ tk', Q (.int z tk') { s with toks := s.toks + 1 })
    (hs : subscripted slice false (.ref d) (.int x tk) = operate [.ref d, .int x tk] (getItem (.ref d) (.int x tk)) := by with_unfolding_all rfl) (hg : ∀ r, letTemporaryGo value (.ref d) r = pure () := by intro _; with_unfolding_all rfl) :
    wpAny (model prog w) A (subscriptTail value slice (.ref d) (.int x tk)) Q E s :=
  item_intTab (t.tabAt N hm lo) hl (fun v hv => by obtain ⟨t', rfl⟩ := PyProof.V.Flat.int_inv hv; exact h t') hs hg
theorem d_set {v : Int} {tv : Tok} {g : Obj → List (Addr × Obj)} {Q : Unit → Shared → Prop} (F : Fr h₀ L s.heap m) (N : News h₀ L s.heap news) (U : UpdF d o news g) (t : TabOf (intKind prog w) PyData.int o T) (hsz : T.length ≤ 20)
    (h : ∀ h' o', Fr h₀ L h' m → News h₀ L h' (g o') → TabOf (intKind prog w) PyData.int o' (PyProof.V.putD (.int x) (.int v) T) → Q () { s with heap := h', toks := s.toks + 1 }) :
    wpAny (model prog w) A (setItem (.ref d) (.int x tk) (.int v tv)) Q E s := by
  obtain ⟨pre, post, rfl, hg, a, b⟩ := U.split
  exact setItem_pairJ (hsz := by rw [sizeLine_eq]; omega) PyProof.V.same_int (intKind_is _ _ _ _) (PyProof.V.Flat.int v tv) F N a b t fun h' o' F' N' t' => h h' o' F' (hg o' ▸ N') t'
end
/-! the powers' table, plainly -/
noncomputable def powT (bs : Int) (l : List Nat) : List (PyData × PyData) := l.map fun (n : Nat) => (PyData.int n, PyData.int (bs ^ n))
theorem look_cons (x k : Int) (v : PyData) (r : List (PyData × PyData)) : lookup (.int x) ((.int k, v) :: r) = if k = x then some v else lookup (.int x) r := by
  show (if PySem.Spec.same (.int k) (.int x) = true then some v else lookup (.int x) r) = _
  rw [PyProof.V.same_int]
  by_cases h : k = x <;> simp [h]
theorem look_pow (bs : Int) (n : Nat) : ∀ l : List Nat, lookup (.int (n : Int)) (powT bs l) = if n ∈ l then some (.int (bs ^ n)) else none
  | [] => rfl
  | k :: r => by
    show lookup (.int (n : Int)) ((.int (k : Int), .int (bs ^ k)) :: powT bs r) = _
    rw [look_cons, look_pow bs n r]
    by_cases h : k = n
    · subst h
      simp
    · have h1 : ¬ (k : Int) = (n : Int) := by omega
      rw [if_neg h1]
      have h2 : (n ∈ k :: r) ↔ n ∈ r := by
        rw [List.mem_cons]
        exact ⟨fun h' => h'.resolve_left fun e => h e.symm, .inr⟩
      by_cases h3 : n ∈ r
      · rw [if_pos h3, if_pos (h2.mpr h3)]
      · rw [if_neg h3, if_neg fun x => h3 (h2.mp x)]
noncomputable def lists12 : List (List Nat) := [[0, 1, 2], [1, 2], [0, 1, 3], [1, 3], [0, 1, 2, 3], [1, 2, 3], [0, 1, 2, 4], [1, 2, 4], [0, 1, 2, 5], [1, 2, 5], [0, 1, 2, 3, 5], [1, 2, 3, 5]]
noncomputable def stepA (done : List Nat) (t : Nat) : Bool := decide (1 ≤ t ∧ t ≤ 5) && !done.contains t && done.contains (t - 1)
noncomputable def stepB (done : List Nat) (t : Nat) : Bool := decide (1 ≤ t ∧ t ≤ 5) && !done.contains t && !done.contains (t - 1) && done.contains (t / 2)
theorem steps12 : ∀ l ∈ lists12, ∀ p ∈ [1, 2, 3, 4, 5], p < l.length → stepA (l.take p) (l.getD p 0) = true ∨ stepB (l.take p) (l.getD p 0) = true := by decide +kernel
theorem pow_le : ∀ b ∈ [1, 2, 3], ∀ n ∈ [0, 1, 2, 3, 4, 5], 0 ≤ (b : Int) ^ n ∧ (b : Int) ^ n ≤ 243 := by decide +kernel
theorem need12 : ∀ wd ∈ [4, 5, 6, 7, 8, 9, 10, 11], ∀ mt ∈ [0, 1], needL wd mt ∈ lists12 := by decide +kernel
/-- what a turn of the powers' loop meets -/
inductive PTurn (bs : Int) (T : List (PyData × PyData)) (t : Nat) (V : Int) : Prop
  | a (x : Int) : lookup (.int ((t : Int) - 1)) T = some (.int x) → 0 ≤ x → x ≤ 243 → x * bs = V → PTurn bs T t V
  | b (x : Int) : lookup (.int ((t : Int) - 1)) T = none → lookup (.int ((t / 2 : Nat) : Int)) T = some (.int x) → 0 ≤ x → x ≤ 243 → (t : Int) - ((t / 2 : Nat) : Int) = ((t / 2 : Nat) : Int) → x * x = V → PTurn bs T t V
  | c (x : Int) : lookup (.int ((t : Int) - 1)) T = none → lookup (.int ((t / 2 : Nat) : Int)) T = some (.int x) → 0 ≤ x → x ≤ 243 → (t : Int) - ((t / 2 : Nat) : Int) = ((t / 2 : Nat) : Int) + 1 → x * x * bs = V → PTurn bs T t V
theorem shr_nat (k : Nat) : ((k : Int)).fdiv (2 ^ Int.toNat 1) = ((k / 2 : Nat) : Int) := by
  show ((k : Int)).fdiv 2 = _
  rw [Int.fdiv_eq_ediv_of_nonneg _ (by decide)]
  omega
theorem and_nat (k : Nat) (h : k ≤ 11) : Builtin.bitAnd (k : Int) 1 = ((k % 2 : Nat) : Int) :=
  (by decide +kernel : ∀ k ∈ List.range 12, Builtin.bitAnd ((k : Nat) : Int) 1 = ((k % 2 : Nat) : Int)) k (List.mem_range.mpr (by omega))
theorem toNat_s (n : Nat) : (((n : Nat) : Int) + 1).toNat = n + 1 := by omega
theorem w_le {wn mn : Nat} {ws : List Nat} {st : WSt} {f : Nat → WSt} (h : ∀ k ∈ ws, WInv wn mn (f k) ∧ wMu (f k) < wMu st ∧ k ≤ 11) {k : Nat} (hk : k ∈ ws) : k ≤ 11 := (h k hk).2.2
theorem w_skip {wn mn : Nat} {sn nd ws : List Nat} (h : ∀ k ∈ ws, WInv wn mn (wStep mn ⟨sn, nd, ws⟩ k) ∧ wMu (wStep mn ⟨sn, nd, ws⟩ k) < wMu ⟨sn, nd, ws⟩ ∧ k ≤ 11) {k : Nat} (hk : k ∈ ws) (hc : k ∈ sn ∨ k ≤ mn) :
    WInv wn mn ⟨sn, nd, ws.erase k⟩ ∧ wMu ⟨sn, nd, ws.erase k⟩ < wMu ⟨sn, nd, ws⟩ := by
  have := h k hk
  unfold wStep at this
  rw [if_pos hc] at this
  exact ⟨this.1, this.2.1⟩
theorem w_odd {wn mn : Nat} {sn nd ws : List Nat} (h : ∀ k ∈ ws, WInv wn mn (wStep mn ⟨sn, nd, ws⟩ k) ∧ wMu (wStep mn ⟨sn, nd, ws⟩ k) < wMu ⟨sn, nd, ws⟩ ∧ k ≤ 11) {k : Nat} (hk : k ∈ ws) (hc : k ∉ sn) (hc2 : ¬ k ≤ mn) (ho : k % 2 = 1) :
    WInv wn mn ⟨addS k sn, addS (k / 2) nd, addS (k / 2 + 1) (addS (k / 2) (ws.erase k))⟩ ∧ wMu ⟨addS k sn, addS (k / 2) nd, addS (k / 2 + 1) (addS (k / 2) (ws.erase k))⟩ < wMu ⟨sn, nd, ws⟩ := by
  have := h k hk
  unfold wStep at this
  rw [if_neg (by simp only [hc, hc2, or_self, not_false_eq_true]), if_pos ho] at this
  exact ⟨this.1, this.2.1⟩
theorem w_even {wn mn : Nat} {sn nd ws : List Nat} (h : ∀ k ∈ ws, WInv wn mn (wStep mn ⟨sn, nd, ws⟩ k) ∧ wMu (wStep mn ⟨sn, nd, ws⟩ k) < wMu ⟨sn, nd, ws⟩ ∧ k ≤ 11) {k : Nat} (hk : k ∈ ws) (hc : k ∉ sn) (hc2 : ¬ k ≤ mn) (ho : ¬ k % 2 = 1) :
    WInv wn mn ⟨addS k sn, addS (k / 2) nd, addS (k / 2) (ws.erase k)⟩ ∧ wMu ⟨addS k sn, addS (k / 2) nd, addS (k / 2) (ws.erase k)⟩ < wMu ⟨sn, nd, ws⟩ := by
  have := h k hk
  unfold wStep at this
  rw [if_neg (by simp only [hc, hc2, or_self, not_false_eq_true]), if_neg ho] at this
  exact ⟨this.1, this.2.1⟩
theorem pturn {bs : Int} {l : List Nat} {p : Nat} (hb : 1 ≤ bs ∧ bs ≤ 3) (hl : l ∈ lists12) (h1 : 1 ≤ p) (hp : p < l.length) : PTurn bs (powT bs (l.take p)) (l.getD p 0) (bs ^ (l.getD p 0)) ∧ lookup (.int ((l.getD p 0 : Nat) : Int)) (powT bs (l.take p)) = none ∧ 1 ≤ l.getD p 0 ∧ l.getD p 0 ≤ 5 := by
  have hlen : l.length ≤ 5 := (by decide +kernel : ∀ l ∈ lists12, l.length ≤ 5) l hl
  have hbs : ∀ n : Nat, n ≤ 5 → 0 ≤ bs ^ n ∧ bs ^ n ≤ 243 := by
    intro n hn
    have : bs = 1 ∨ bs = 2 ∨ bs = 3 := by omega
    have hn' : n ∈ [0, 1, 2, 3, 4, 5] := (by decide +kernel : ∀ n ∈ List.range 6, n ∈ [0, 1, 2, 3, 4, 5]) n (List.mem_range.mpr (Nat.lt_succ_of_le hn))
    rcases this with rfl | rfl | rfl
    · exact pow_le 1 (by decide) n hn'
    · exact pow_le 2 (by decide) n hn'
    · exact pow_le 3 (by decide) n hn'
  generalize hdn : l.take p = done
  generalize htn : l.getD p 0 = t
  have := steps12 l hl p (by simp; omega) hp
  rw [hdn, htn] at this
  rcases this with h | h
  · simp only [stepA, Bool.and_eq_true, decide_eq_true_eq, Bool.not_eq_true', List.contains_eq_mem, decide_eq_false_iff_not] at h
    obtain ⟨⟨⟨h2, h3⟩, h4⟩, h5⟩ := h
    have e : ((t : Int) - 1) = ((t - 1 : Nat) : Int) := by omega
    refine ⟨.a (bs ^ (t - 1)) ?_ (hbs _ (by omega)).1 (hbs _ (by omega)).2 ?_, ?_, h2, h3⟩
    · rw [e, look_pow, if_pos h5]
    · rw [← Int.pow_succ]
      congr 1
      omega
    · rw [look_pow, if_neg h4]
  · simp only [stepB, Bool.and_eq_true, decide_eq_true_eq, Bool.not_eq_true', List.contains_eq_mem, decide_eq_false_iff_not] at h
    obtain ⟨⟨⟨⟨h2, h3⟩, h4⟩, h5⟩, h6⟩ := h
    have e : ((t : Int) - 1) = ((t - 1 : Nat) : Int) := by omega
    refine ⟨?_, by rw [look_pow, if_neg h4], h2, h3⟩
    have k1 : lookup (.int ((t : Int) - 1)) (powT bs done) = none := by rw [e, look_pow, if_neg h5]
    have k2 : lookup (.int ((t / 2 : Nat) : Int)) (powT bs done) = some (.int (bs ^ (t / 2))) := by rw [look_pow, if_pos h6]
    by_cases hpar : t % 2 = 0
    · refine .b _ k1 k2 (hbs _ (by omega)).1 (hbs _ (by omega)).2 (by omega) ?_
      rw [← Int.pow_add]
      congr 1
      omega
    · refine .c _ k1 k2 (hbs _ (by omega)).1 (hbs _ (by omega)).2 (by omega) ?_
      rw [← Int.pow_add, ← Int.pow_succ]
      congr 1
      omega
theorem pow_more {bs : Int} {l : List Nat} {p : Nat} (hp : p < l.length) (h : lookup (.int ((l.getD p 0 : Nat) : Int)) (powT bs (l.take p)) = none) : PyProof.V.putD (.int ((l.getD p 0 : Nat) : Int)) (.int (bs ^ (l.getD p 0))) (powT bs (l.take p)) = powT bs (l.take (p + 1)) := by
  rw [putD_absent h]
  have e : l.getD p 0 = l[p] := by simp [List.getD, hp]
  rw [List.take_add_one, List.getElem?_eq_getElem hp, e]
  unfold powT
  rw [List.map_append]
  rfl
end Mine
end
noncomputable section
open PySem PySem.W PyProof.Rows PySem.Spec PySem.Calls
set_option linter.unusedVariables false
set_option linter.unusedSimpArgs false
set_option maxRecDepth 100000
namespace Mine
/-! loops of our own: the ledger by a datum, draws told -/
noncomputable def LEnd {σ : Type} (h₀ : Heap) (L : Addr) (s : Shared) (I : Addr) (oI : Obj) (Led : σ → List (Addr × Obj)) (stored : List Str) (m₀ : σ → Str → Option Value) (P : σ → Prop) (s₂ : Shared) : Prop :=
  ∃ (c' : σ) (h' : Heap) (tk : Nat) (dr : Drawn) (m' : Str → Option Value) (nw : List (Addr × Obj)), s₂ = { s with heap := h', toks := tk, drawn := dr } ∧ Fr h₀ L h' m' ∧ News h₀ L h' nw ∧ (∀ p ∈ (I, oI) :: Led c', p ∈ nw) ∧ (∀ z, stored.contains z = false → m' z = m₀ c' z) ∧ P c'
noncomputable def LPost {σ : Type} (h₀ : Heap) (L : Addr) (s : Shared) (I : Addr) (oI : Obj) (Led : σ → List (Addr × Obj)) (stored : List Str) (m₀ : σ → Str → Option Value) (P : σ → Prop) (Q : Flow → Shared → Prop) (f : Flow) (s₂ : Shared) : Prop :=
  match f with
  | .ret v => Q (.ret v) s₂
  | .brk => Q .next s₂
  | _ => LEnd h₀ L s I oI Led stored m₀ P s₂
noncomputable def LoopD (prog : Program) (w : World) (A : Around) (env : Env) (x : Str) (body : List Stmt) (Q : Flow → Shared → Prop) (E : Value → Shared → Prop) (it : Value) (s₂ : Shared) : Prop :=
  ∀ px, codeAny (model prog w) A (.forLoop (.Name x px) it body [] env) (fun r s' => match r with | .ok f => Q f s' | .error e => cameBackBy (model prog w) A env E e s') s₂
section
variable {prog : Program} {w : World} {A : Around} {E : Value → Shared → Prop} {s : Shared} {env : Env} {h₀ : Heap} {x : Str} {body : List Stmt} {Q : Flow → Shared → Prop}
theorem For_D {iter : Expr} {px pos : Pos} (h : wpAny (model prog w) A (eval iter env) (fun xv s₁ => wpAny (model prog w) A (pyIter xv) (fun it s₂ => LoopD prog w A env x body Q E it s₂) E s₁) E s)
    (hs : ∀ x, foldedSetIterable iter env x = pure x := by intro _; rfl) : wpAny (model prog w) A (exec (.For (.Name x px) iter body [] pos) env) Q E s :=
  wpAny_For (wpAny_mono h (fun xv s₁ h₁ => wpAny_mono h₁ (fun it s₂ h₂ => h₂ px) fun _ _ e => e) fun _ _ e => e) hs
theorem loopD_core {σ : Type} {I : Addr} {fp : List Addr} {n : Nat} {P : Nat → Value → Prop} {St : Nat → Heap → Prop} {m₀ : σ → Str → Option Value} (Led : σ → List (Addr × Obj)) (stored : List Str) (Pj : Nat → σ → Prop) (c₀ : σ)
    (W : Walks prog w A I fp [I] n P St) (hIo : ∀ i h, St i h → ∃ o, h.get? I = some o)
    (hSt : ∀ i h h' o c, St i h → h.get? I = some o → h'.get? I = some o → (∀ b o, h₀.get? b = some o → h'.get? b = some o) → News h₀ env.locals h' (Led c) → St i h')
    (hx : env.kindOf x = some .local) (hp : (env.scope.kind == .class || (env.scope.kind == .module && env.locals != env.globals)) = false)
    (hLf : env.locals ∉ fp) (hI0 : h₀.get? I = none) (off : ∀ c, ∀ p ∈ Led c, p.1 ≠ I)
    (hst : St 0 s.heap) (F : Fr h₀ env.locals s.heap (m₀ c₀)) (N : News h₀ env.locals s.heap (Led c₀)) (h0 : Pj 0 c₀)
    (turn : ∀ i v c (u : Str → Option Value) oI h tk dr, i < n → P i v → Pj i c → Fr h₀ env.locals h (fun y => if y = x then some v else if stored.contains y then u y else m₀ c y) → News h₀ env.locals h ((I, oI) :: Led c) →
      wpAny (model prog w) A (execs body env) (LPost h₀ env.locals { s with heap := h, toks := tk, drawn := dr } I oI Led (x :: stored) m₀ (Pj (i + 1)) Q) E { s with heap := h, toks := tk, drawn := dr })
    (done : ∀ c (u : Str → Option Value) h tk dr, Pj n c → Fr h₀ env.locals h (fun z => if (x :: stored).contains z then u z else m₀ c z) → News h₀ env.locals h (Led c) → Q .next { s with heap := h, toks := tk, drawn := dr })
    (hE : PassesOwn (model prog w) A env E := by passes_own) : LoopD prog w A env x body Q E (.ref I) s := by
  intro px
  have hIf : I ∈ fp := W.sub I (List.mem_singleton.mpr rfl)
  have hLI : env.locals ≠ I := fun e => hLf (e ▸ hIf)
  refine codeAny_forLoop
    (fun k s' => ∃ h' tk dr m' c i, s' = { s with heap := h', toks := tk, drawn := dr } ∧ St i h' ∧ Fr h₀ env.locals h' m' ∧ News h₀ env.locals h' (Led c) ∧ (∀ z, (x :: stored).contains z = false → m' z = m₀ c z) ∧ Pj i c ∧ i ≤ n ∧ k = n + 1 - i) ?_ (n + 1)
    ⟨s.heap, s.toks, s.drawn, m₀ c₀, c₀, 0, rfl, hst, F, N, fun _ _ => rfl, h0, Nat.zero_le _, rfl⟩
  rintro k s' ⟨h', tk, dr, m', c, i, rfl, hst', F', N', hm, hJ, hi, rfl⟩
  have next : ∀ h₁ : Heap, (∀ b o, b ∉ [I] → h'.get? b = some o → h₁.get? b = some o) → Fr h₀ env.locals h₁ m' ∧ News h₀ env.locals h₁ (Led c) := fun h₁ hk₁ =>
    ⟨⟨F'.ns.at' fun o e => hk₁ _ o (fun hm => hLI (List.mem_singleton.mp hm)) e, fun b o e => hk₁ b o (fun hm => by rw [List.mem_singleton.mp hm, hI0] at e; cases e) (F'.keep b o e), F'.above⟩,
      fun p hp => ⟨hk₁ _ _ (fun hm => off c p hp (List.mem_singleton.mp hm)) (N' p hp).1, (N' p hp).2⟩⟩
  by_cases hlt : i < n
  · refine W.item i _ _ _ hlt hst' fun v h₁ tk₁ hP hst₁ hk₁ => ?_
    obtain ⟨F₁, N₁⟩ := next h₁ hk₁
    refine wpAny_assign_Name (wpAny_storeName_local hx F₁.ns (fun h₂ hn₂ hs₂ => ?_) hp)
    have F₂ := F₁.set hn₂ hs₂
    have hst₂ : St (i + 1) h₂ := W.frame _ _ _ hst₁ fun b hb o e => (hs₂.2 b fun q => hLf (q ▸ hb)).trans e
    obtain ⟨oI, hoI⟩ := hIo _ _ hst₂
    have N₂ : News h₀ env.locals h₂ ((I, oI) :: Led c) := by
      intro p hp
      rcases List.mem_cons.mp hp with rfl | hp
      · exact ⟨hoI, fun e => hLI e.symm, hI0⟩
      · exact (N₁.set hs₂) p hp
    have em : (fun y => if y = x then some v else m' y) = fun y => if y = x then some v else if stored.contains y then m' y else m₀ c y := by
      funext y
      by_cases hy : y = x
      · rw [if_pos hy, if_pos hy]
      · rw [if_neg hy, if_neg hy]
        cases h9 : stored.contains y with
        | true => simp
        | false =>
          simp only [Bool.false_eq_true, if_false]
          exact hm y (by rw [List.contains_cons, h9]; simp [hy])
    rw [em] at F₂
    refine wpAny_mono (wpAny_passesOwn hE (turn i v c m' oI h₂ _ dr hlt hP hJ F₂ N₂)) (fun f s₃ h₃ => ?_) fun _ _ e => e
    have fin : LEnd h₀ env.locals { s with heap := h₂, toks := tk₁, drawn := dr } I oI Led (x :: stored) m₀ (Pj (i + 1)) s₃ → ∃ k', k' < n + 1 - i ∧ ∃ h' tk dr m' c i, s₃ = { s with heap := h', toks := tk, drawn := dr } ∧ St i h' ∧ Fr h₀ env.locals h' m' ∧ News h₀ env.locals h' (Led c) ∧ (∀ z, (x :: stored).contains z = false → m' z = m₀ c z) ∧ Pj i c ∧ i ≤ n ∧ k' = n + 1 - i := by
      rintro ⟨c', h₄, tk₄, dr₄, m₄, nw, rfl, F₄, N₄, hn, hz, hp₄⟩
      have zI := (N₄ _ (hn _ (.head _))).1
      have N₅ : News h₀ env.locals h₄ (Led c') := fun p hp => N₄ p (hn p (.tail _ hp))
      exact ⟨n + 1 - (i + 1), by omega, h₄, tk₄, dr₄, m₄, c', i + 1, rfl, hSt _ _ _ _ c' hst₂ hoI zI F₄.keep N₅, F₄, N₅, hz, hp₄, hlt, rfl⟩
    cases f with
    | ret v => exact h₃
    | brk => exact h₃
    | next => exact fin h₃
    | cont => exact fin h₃
  · have hin : i = n := by omega
    subst hin
    refine W.done _ _ _ hst' fun h₁ tk₁ hk₁ => wpAny_execs_nil ?_
    obtain ⟨F₁, N₁⟩ := next h₁ hk₁
    have em : (fun z => if (x :: stored).contains z = true then m' z else m₀ c z) = m' := by
      funext y
      cases h3 : (x :: stored).contains y with
      | true => simp
      | false => simp only [Bool.false_eq_true, if_false]; exact (hm y h3).symm
    exact done c m' h₁ tk₁ dr hJ (by rw [em]; exact F₁) N₁
theorem iter_rangeD {σ : Type} {r : Addr} {a₀ b₀ : Int} {t₀ u₀ v₀ : Tok} {n : Nat} {m₀ : σ → Str → Option Value} (Led : σ → List (Addr × Obj)) (stored : List Str) (Pj : Nat → σ → Prop) (c₀ : σ) (hh : A.handled = none)
    (hr : IsRange s.heap r a₀ b₀ 1 t₀ u₀ v₀) (hsmall : Builtin.Range.small a₀ b₀ 1 = true) (hn : Builtin.Range.rangeSize a₀ b₀ 1 = (n : Int)) (hx : env.kindOf x = some .local) (hp : (env.scope.kind == .class || (env.scope.kind == .module && env.locals != env.globals)) = false)
    (F : Fr h₀ env.locals s.heap (m₀ c₀)) (N : News h₀ env.locals s.heap (Led c₀)) (hadr : ∀ c, (Led c).map (·.1) = (Led c₀).map (·.1)) (h0 : Pj 0 c₀)
    (turn : ∀ (i : Nat) t c (u : Str → Option Value) I oI h tk dr, i < n → (∀ p ∈ Led c, p.1 < I) → Pj i c → Fr h₀ env.locals h (fun y => if y = x then some (.int (a₀ + (i : Int)) t) else if stored.contains y then u y else m₀ c y) → News h₀ env.locals h ((I, oI) :: Led c) →
      wpAny (model prog w) A (execs body env) (LPost h₀ env.locals { s with heap := h, toks := tk, drawn := dr } I oI Led (x :: stored) m₀ (Pj (i + 1)) Q) E { s with heap := h, toks := tk, drawn := dr })
    (done : ∀ c (u : Str → Option Value) h tk dr, Pj n c → Fr h₀ env.locals h (fun z => if (x :: stored).contains z then u z else m₀ c z) → News h₀ env.locals h (Led c) → Q .next { s with heap := h, toks := tk, drawn := dr })
    (hE : PassesOwn (model prog w) A env E := by passes_own) : wpAny (model prog w) A (pyIter (.ref r)) (fun it s₂ => LoopD prog w A env x body Q E it s₂) E s := by
  refine wpAny_pyIter_range hr hsmall ?_
  have W : Walks prog w A s.heap.objs.size [s.heap.objs.size] [s.heap.objs.size] n (fun i v => i < n ∧ ∃ t, v = .int (a₀ + i * 1) t)
      (fun i h => IsRangeIter h s.heap.objs.size (a₀ + (i : Nat) * 1) ((n : Int) - (i : Nat)) 1) := (Walks.range hh _ a₀ 1 n).bound
  have below : ∀ c, ∀ p ∈ Led c, p.1 < s.heap.objs.size := fun c p hp => by
    have : p.1 ∈ (Led c).map (·.1) := List.mem_map.mpr ⟨p, hp, rfl⟩
    rw [hadr c] at this
    obtain ⟨q, hq, e⟩ := List.mem_map.mp this
    rw [← e]
    exact Heap.lt_size (N q hq).1
  refine loopD_core Led stored Pj c₀ W (fun i h st => ⟨_, st⟩) (fun i h h' o c st e e' _ _ => by
    have st' : h.get? s.heap.objs.size = some _ := st
    show h'.get? s.heap.objs.size = some _
    rw [e', ← e]; exact st') hx hp ?_ (next_is_new F) (fun c p hp => Nat.ne_of_lt (below c p hp)) (by show IsRangeIter _ _ _ _ _; rw [hn]; simpa using Heap.get?_push_size _ rfl) (F.push _) (fun p hp => ⟨Heap.get?_push_of_some _ (N p hp).1, (N p hp).2⟩) h0 ?_ done hE
  · intro hm
    exact absurd F.ns.lt ((List.mem_singleton.mp hm) ▸ Nat.lt_irrefl _)
  · rintro i v c u oI h tk dr hi ⟨_, t, rfl⟩ hP F₁ N₁
    rw [Int.mul_one] at F₁
    exact turn i t c u _ oI h tk dr hi (below c) hP F₁ N₁
theorem iter_tupD {σ : Type} {ax : Addr} {lo : Obj} {vs : List Value} {k : Nat} {m₀ : σ → Str → Option Value} (Led : σ → List (Addr × Obj)) (stored : List Str) (Pj : Nat → σ → Prop) (c₀ : σ) (hh : A.handled = none)
    (hm : ∀ c, (ax, lo) ∈ Led c) (hc : lo.cls = .type "tuple") (hd : lo.data = .seq vs.toArray k) (hx : env.kindOf x = some .local) (hp : (env.scope.kind == .class || (env.scope.kind == .module && env.locals != env.globals)) = false)
    (F : Fr h₀ env.locals s.heap (m₀ c₀)) (N : News h₀ env.locals s.heap (Led c₀)) (hadr : ∀ c, (Led c).map (·.1) = (Led c₀).map (·.1)) (h0 : Pj 0 c₀)
    (turn : ∀ (i : Nat) v c (u : Str → Option Value) I oI h tk dr, vs[i]? = some v → (∀ p ∈ Led c, p.1 < I) → Pj i c → Fr h₀ env.locals h (fun y => if y = x then some v else if stored.contains y then u y else m₀ c y) → News h₀ env.locals h ((I, oI) :: Led c) →
      wpAny (model prog w) A (execs body env) (LPost h₀ env.locals { s with heap := h, toks := tk, drawn := dr } I oI Led (x :: stored) m₀ (Pj (i + 1)) Q) E { s with heap := h, toks := tk, drawn := dr })
    (done : ∀ c (u : Str → Option Value) h tk dr, Pj vs.length c → Fr h₀ env.locals h (fun z => if (x :: stored).contains z then u z else m₀ c z) → News h₀ env.locals h (Led c) → Q .next { s with heap := h, toks := tk, drawn := dr })
    (hE : PassesOwn (model prog w) A env E := by passes_own) : wpAny (model prog w) A (pyIter (.ref ax)) (fun it s₂ => LoopD prog w A env x body Q E it s₂) E s := by
  have hax := N _ (hm c₀)
  have hl : s.heap.IsTuple ax vs.toArray := ⟨lo, hax.1, hc, k, hd⟩
  have hlt : ax < s.heap.objs.size := Heap.lt_size hax.1
  have hne : ax ≠ s.heap.objs.size := Nat.ne_of_lt hlt
  refine wpAny_pyIter_tuple hl ?_
  have W := Walks.tuple (prog := prog) (w := w) hh s.heap.objs.size ax hne vs.toArray
  have below : ∀ c, ∀ p ∈ Led c, p.1 < s.heap.objs.size := fun c p hp => by
    have : p.1 ∈ (Led c).map (·.1) := List.mem_map.mpr ⟨p, hp, rfl⟩
    rw [hadr c] at this
    obtain ⟨q, hq, e⟩ := List.mem_map.mp this
    rw [← e]
    exact Heap.lt_size (N q hq).1
  have hlen : vs.toArray.size = vs.length := by simp
  rw [hlen] at W
  refine loopD_core Led stored Pj c₀ W (fun i h st => by obtain ⟨it, hit, _⟩ := st.1; exact ⟨it, hit⟩) (fun i h h' o c st e e' _ N' => ⟨by
    obtain ⟨it, hit, r⟩ := st.1
    rw [e] at hit
    cases hit
    exact ⟨_, e', r⟩, ⟨lo, (N' _ (hm c)).1, hc, k, hd⟩⟩) hx hp ?_ (next_is_new F) (fun c p hp => Nat.ne_of_lt (below c p hp)) ⟨⟨_, Heap.get?_push_size _ rfl, rfl, rfl⟩, hl.push _⟩ (F.push _) (fun p hp => ⟨Heap.get?_push_of_some _ (N p hp).1, (N p hp).2⟩) h0 ?_ done hE
  · intro hm'
    rcases List.mem_cons.mp hm' with e | hm'
    · exact absurd F.ns.lt (e ▸ Nat.lt_irrefl _)
    · exact hax.2.1 (List.mem_singleton.mp hm').symm
  · intro i v c u oI h tk dr hi hv hP F₁ N₁
    exact turn i v c u _ oI h tk dr (by simpa using hv) (below c) hP F₁ N₁
end
end Mine
end
noncomputable section
open PySem PySem.W PyProof.Rows PySem.Spec PySem.Calls
set_option linter.unusedVariables false
set_option linter.unusedSimpArgs false
set_option maxRecDepth 100000
namespace Mine
/-! the law's table -/
noncomputable def tStep (bs mn : Int) (T : List (PyData × PyData)) (p : Int) : List (PyData × PyData) :=
  if mn < p then PyProof.V.putD (.int (p.fdiv 2)) (.int (bs ^ (p.fdiv 2).toNat)) T else T
noncomputable def pF (wn : Nat) (k : Nat) : Int := ((wn : Nat) : Int).fdiv (2 ^ k)
noncomputable def pC (wn : Nat) (k : Nat) : Int := -((-((wn : Nat) : Int)).fdiv (2 ^ k))
noncomputable def tableT (bs mn : Int) (wn : Nat) : List (PyData × PyData) := [pF wn 0, pC wn 0, pF wn 1, pC wn 1, pF wn 2, pC wn 2, pF wn 3, pC wn 3].foldl (tStep bs mn) []
structure PartB (p : Int) : Prop where
  h0 : 0 ≤ p
  h1 : p ≤ 11
  d0 : 0 ≤ p.fdiv 2
  d1 : p.fdiv 2 ≤ 5
theorem part_b {p : Int} (h : 0 ≤ p ∧ p ≤ 11) : PartB p := by
  have : p.fdiv 2 = p / 2 := Int.fdiv_eq_ediv_of_nonneg _ (by decide)
  exact ⟨h.1, h.2, by omega, by omega⟩
theorem pF_b {wn k : Nat} (hw : wn ∈ [4, 5, 6, 7, 8, 9, 10, 11]) (hk : k ∈ [0, 1, 2, 3]) : PartB (pF wn k) :=
  part_b ((by decide +kernel : ∀ wn ∈ [4, 5, 6, 7, 8, 9, 10, 11], ∀ k ∈ [0, 1, 2, 3], 0 ≤ pF wn k ∧ pF wn k ≤ 11) wn hw k hk)
theorem pC_b {wn k : Nat} (hw : wn ∈ [4, 5, 6, 7, 8, 9, 10, 11]) (hk : k ∈ [0, 1, 2, 3]) : PartB (pC wn k) :=
  part_b ((by decide +kernel : ∀ wn ∈ [4, 5, 6, 7, 8, 9, 10, 11], ∀ k ∈ [0, 1, 2, 3], 0 ≤ pC wn k ∧ pC wn k ≤ 11) wn hw k hk)
theorem tStep_len {bs mn p : Int} {T : List (PyData × PyData)} : (tStep bs mn T p).length ≤ T.length + 1 := by
  unfold tStep
  split
  · exact PyProof.V.putD_length_le _ _ _
  · omega
structure CutMark : Prop where
  mark :: (one : True)
theorem cutTab {prog : Program} {w : World} {A : Around} {E : Value → Shared → Prop} {s : Shared} {c : Sem Flow} {Q : Flow → Shared → Prop} {h₀ : Heap} {L d : Addr} {m : Str → Option Value} {news : List (Addr × Obj)} {g : Obj → List (Addr × Obj)} {o : Obj} {T : List (PyData × PyData)} {bs mn p : Int} {tp tb tm : Tok}
    (F : Fr h₀ L s.heap m) (N : News h₀ L s.heap news) (U : UpdF d o news g) (t : TabOf (intKind prog w) PyData.int o T) (hp : m (Str.ofString "part") = some (.int p tp)) (hb : m (Str.ofString "base") = some (.int bs tb)) (hm : m (Str.ofString "bound") = some (.int mn tm))
    (h1 : ∀ Q' : Flow → Shared → Prop, CutMark → (∀ h tk o', Fr h₀ L h m → News h₀ L h (g o') → TabOf (intKind prog w) PyData.int o' (tStep bs mn T p) → Q' .next { s with heap := h, toks := tk }) → wpAny (model prog w) A c Q' E s)
    (h2 : ∀ h tk o', Fr h₀ L h m → News h₀ L h (g o') → TabOf (intKind prog w) PyData.int o' (tStep bs mn T p) → (tStep bs mn T p).length ≤ T.length + 1 → Q .next { s with heap := h, toks := tk }) : wpAny (model prog w) A c Q E s :=
  h1 Q ⟨trivial⟩ fun h tk o' F' N' t' => h2 h tk o' F' N' t' tStep_len
theorem tStep_yes {bs mn p : Int} {T : List (PyData × PyData)} (h : mn < p) : tStep bs mn T p = PyProof.V.putD (.int (p.fdiv 2)) (.int (bs ^ (p.fdiv 2).toNat)) T := if_pos h
theorem tStep_no {bs mn p : Int} {T : List (PyData × PyData)} (h : ¬ mn < p) : tStep bs mn T p = T := if_neg h
end Mine
end
noncomputable section
open PySem PySem.W PyProof.Rows PySem.Spec PySem.Calls
set_option linter.unusedVariables false
set_option linter.unusedSimpArgs false
set_option maxRecDepth 100000
namespace Mine
noncomputable def partsL (wn : Nat) : List Int := [pF wn 0, pC wn 0, pF wn 1, pC wn 1, pF wn 2, pC wn 2, pF wn 3, pC wn 3]
noncomputable def tabAt (bs mn : Int) (wn j : Nat) : List (PyData × PyData) := ((partsL wn).take j).foldl (tStep bs mn) []
theorem fold_len (bs mn : Int) : ∀ (l : List Int) (T : List (PyData × PyData)), (l.foldl (tStep bs mn) T).length ≤ T.length + l.length
  | [], T => by simp
  | p :: r, T => by
    rw [List.foldl_cons, List.length_cons]
    have := fold_len bs mn r (tStep bs mn T p)
    have := tStep_len (bs := bs) (mn := mn) (p := p) (T := T)
    omega
theorem tabAt_len (bs mn : Int) (wn j : Nat) : (tabAt bs mn wn j).length ≤ 20 := by
  unfold tabAt
  have := fold_len bs mn ((partsL wn).take j) []
  have h2 : ((partsL wn).take j).length ≤ 8 := by rw [List.length_take]; show min j 8 ≤ 8; omega
  simp only [List.length_nil] at this
  omega
theorem tabAt_succ {bs mn p : Int} {wn j : Nat} (h : (partsL wn)[j]? = some p) : tabAt bs mn wn (j + 1) = tStep bs mn (tabAt bs mn wn j) p := by
  unfold tabAt
  rw [List.take_add_one, h, List.foldl_append]
  rfl
theorem parts_at {wn i : Nat} (hi : i < 4) : (partsL wn)[2 * i]? = some (pF wn i) ∧ (partsL wn)[2 * i + 1]? = some (pC wn i) := by
  have : i = 0 ∨ i = 1 ∨ i = 2 ∨ i = 3 := by omega
  rcases this with rfl | rfl | rfl | rfl <;> exact ⟨rfl, rfl⟩
theorem pF_val (wn i : Nat) : ((wn : Nat) : Int).fdiv (2 ^ (0 + (i : Int)).toNat) = pF wn i := by
  have : (0 + (i : Int)).toNat = i := by omega
  rw [this]
  rfl
theorem pC_val (wn i : Nat) : -((-((wn : Nat) : Int)).fdiv (2 ^ (0 + (i : Int)).toNat)) = pC wn i := by
  have : (0 + (i : Int)).toNat = i := by omega
  rw [this]
  rfl
theorem part_at {wn i j : Nat} {v : Value} {t1 t2 : Tok} (hw : wn ∈ [4, 5, 6, 7, 8, 9, 10, 11]) (hi : i < 4) (h : [Value.int (pF wn i) t1, Value.int (pC wn i) t2][j]? = some v) :
    ∃ p tp, v = .int p tp ∧ PartB p ∧ (partsL wn)[2 * i + j]? = some p := by
  have hi' : i ∈ [0, 1, 2, 3] := by simp; omega
  match j, h with
  | 0, h => exact ⟨_, _, (Option.some.inj h).symm, pF_b hw hi', (parts_at hi).1⟩
  | 1, h => exact ⟨_, _, (Option.some.inj h).symm, pC_b hw hi', (parts_at hi).2⟩
section
variable {prog : Program} {w : World} {A : Around} {E : Value → Shared → Prop} {s : Shared} {env : Env} {h₀ : Heap} {x : Str} {body : List Stmt} {Q : Flow → Shared → Prop}
theorem iter_range1 {r d : Addr} {o : Obj} {rest : List (Addr × Obj)} {a₀ b₀ : Int} {t₀ u₀ v₀ : Tok} {n : Nat} {m₀ : Str → Option Value} (stored : List Str) (Pj : Nat → Obj → Prop) (hh : A.handled = none)
    (hr : IsRange s.heap r a₀ b₀ 1 t₀ u₀ v₀) (hsmall : Builtin.Range.small a₀ b₀ 1 = true) (hn : Builtin.Range.rangeSize a₀ b₀ 1 = (n : Int)) (hx : env.kindOf x = some .local) (hp : (env.scope.kind == .class || (env.scope.kind == .module && env.locals != env.globals)) = false)
    (F : Fr h₀ env.locals s.heap m₀) (N : News h₀ env.locals s.heap ((d, o) :: rest)) (h0 : Pj 0 o)
    (turn : ∀ (i : Nat) t c (u : Str → Option Value) I oI h tk dr, i < n → (∀ p ∈ (d, c) :: rest, p.1 < I) → Pj i c → Fr h₀ env.locals h (fun y => if y = x then some (.int (a₀ + (i : Int)) t) else if stored.contains y then u y else m₀ y) → News h₀ env.locals h ((I, oI) :: (d, c) :: rest) →
      wpAny (model prog w) A (execs body env) (LPost h₀ env.locals { s with heap := h, toks := tk, drawn := dr } I oI (fun c => (d, c) :: rest) (x :: stored) (fun _ => m₀) (Pj (i + 1)) Q) E { s with heap := h, toks := tk, drawn := dr })
    (done : ∀ c (u : Str → Option Value) h tk dr, Pj n c → Fr h₀ env.locals h (fun z => if (x :: stored).contains z then u z else m₀ z) → News h₀ env.locals h ((d, c) :: rest) → Q .next { s with heap := h, toks := tk, drawn := dr })
    (hE : PassesOwn (model prog w) A env E := by passes_own) : wpAny (model prog w) A (pyIter (.ref r)) (fun it s₂ => LoopD prog w A env x body Q E it s₂) E s :=
  iter_rangeD (m₀ := fun _ => m₀) (fun c => (d, c) :: rest) stored Pj o hh hr hsmall hn hx hp F N (fun _ => rfl) h0 turn done hE
theorem iter_tup1 {ax d I₀ : Addr} {lo o oI₀ : Obj} {rest : List (Addr × Obj)} {vs : List Value} {k : Nat} {m₀ : Str → Option Value} (stored : List Str) (Pj : Nat → Obj → Prop) (hh : A.handled = none) (hc : lo.cls = .type "tuple") (hd : lo.data = .seq vs.toArray k) (hx : env.kindOf x = some .local) (hp : (env.scope.kind == .class || (env.scope.kind == .module && env.locals != env.globals)) = false)
    (F : Fr h₀ env.locals s.heap m₀) (N : News h₀ env.locals s.heap ((ax, lo) :: (I₀, oI₀) :: (d, o) :: rest)) (h0 : Pj 0 o)
    (turn : ∀ (i : Nat) v c (u : Str → Option Value) I oI h tk dr, vs[i]? = some v → (∀ p ∈ (ax, lo) :: (I₀, oI₀) :: (d, c) :: rest, p.1 < I) → Pj i c → Fr h₀ env.locals h (fun y => if y = x then some v else if stored.contains y then u y else m₀ y) → News h₀ env.locals h ((I, oI) :: (ax, lo) :: (I₀, oI₀) :: (d, c) :: rest) →
      wpAny (model prog w) A (execs body env) (LPost h₀ env.locals { s with heap := h, toks := tk, drawn := dr } I oI (fun c => (ax, lo) :: (I₀, oI₀) :: (d, c) :: rest) (x :: stored) (fun _ => m₀) (Pj (i + 1)) Q) E { s with heap := h, toks := tk, drawn := dr })
    (done : ∀ c (u : Str → Option Value) h tk dr, Pj vs.length c → Fr h₀ env.locals h (fun z => if (x :: stored).contains z then u z else m₀ z) → News h₀ env.locals h ((ax, lo) :: (I₀, oI₀) :: (d, c) :: rest) → Q .next { s with heap := h, toks := tk, drawn := dr })
    (hE : PassesOwn (model prog w) A env E := by passes_own) : wpAny (model prog w) A (pyIter (.ref ax)) (fun it s₂ => LoopD prog w A env x body Q E it s₂) E s :=
  iter_tupD (m₀ := fun _ => m₀) (fun c => (ax, lo) :: (I₀, oI₀) :: (d, c) :: rest) stored Pj o hh (fun _ => .head _) hc hd hx hp F N (fun _ => rfl) h0 turn done hE
end
end Mine
end
noncomputable section
open PySem PySem.W PyProof.Rows PySem.Spec PySem.Calls
set_option linter.unusedVariables false
set_option maxRecDepth 100000
namespace Mine
local macro_rules | `(tactic| walk_at "zz pad 0") => `(tactic| skip)
local macro_rules | `(tactic| walk_at "exec For Name Call cons nil") => `(tactic| (k_here; (with_unfolding_all refine For_D ?_); k_whole))
local macro_rules | `(tactic| walk_at "exec For Name Tuple cons nil") => `(tactic| (k_here; (with_unfolding_all refine For_D ?_); k_whole))
local macro_rules | `(tactic| walk_at "pyIter ref") => `(tactic| (k_here; refine Halt.out ?_))
local macro_rules | `(tactic| walk_at "LPost") => `(tactic| (dsimp only [LPost]))
local macro_rules | `(tactic| walk_at "LEnd") => `(tactic| (refine Halt.out ?_))
local macro_rules | `(tactic| walk_at "setItem ref int") => `(tactic| (k_here; k_dflt (refine d_set (by k_asm) (by k_asm) (by k_updF) (by assumption) (by assumption) ?_); intro h' o' F' N' t'; (try dsimp only at N')))
local macro_rules | `(tactic| walk_at "call ref") => `(tactic| (k_here; (with_reducible show wpAny _ _ (call (Value.ref 133) [Value.int _ _, Value.int _ _]) _ _ _); k_dflt (refine Ctr.use (c_power _ _ _ _ _ (by omega)) (by k_asm) (by k_asm) (by k_asm) (by k_asm) (by k_asm) (by first | exact rfl | assumption) (by ktr_room) (by ktr_units) ?_; intro t9 h9 tk9 F9 N9; (try dsimp only); (try k_fold))))
set_option maxHeartbeats 1500000 in
theorem c_table {w mean mg mb} (wn mn : Nat) (bs : Int) (t1 t2 t3 : Tok) (news) (hw : wn ∈ [4, 5, 6, 7, 8, 9, 10, 11]) (hb : 1 ≤ bs ∧ bs ≤ 3) :
    Ctr w mean mg mb 2 30 140 [.int wn t1, .int bs t2, .int mn t3] news (fun h₀ L m s Q => ∀ (D : Addr) (o : Obj) (h' : Heap) (tk' : Nat) (dr : Drawn), Fr h₀ L h' m → News h₀ L h' ((D, o) :: news) → (∀ p ∈ news, p.1 < D) → (D == sysModules) = false → TabOf (intKind PySem.Challenge.rw_sn0064_01.prog w) PyData.int o (tableT bs mn wn) → Q (.ref D) { s with heap := h', toks := tk', drawn := dr }) := by
  unfold Ctr
  k_fill
  intros; rename_i hret
  refine wpAny_call ?_
  k_dflt cell_enter
  k_steps
  unfold Halt
  rename IsRange _ _ _ _ _ _ _ _ => hr
  rename Fr _ _ _ _ => F1
  rename News _ _ _ ((_, _) :: news) => N1
  rename PyProof.V.FlatPairs PyData.int [] [] => hf9
  have t0 := TabOf.intro (by assumption) hf9
  clear hf9
  rename (_ == sysModules) = false => lo9
  refine iter_range1 (n := 4) [Str.ofString "part"] (fun i o => TabOf (intKind PySem.Challenge.rw_sn0064_01.prog w) PyData.int o (tabAt bs mn wn (2 * i))) (by exact rfl) hr (by decide) (by decide) (by exact rfl) (by exact rfl) F1 N1 t0 ?_ ?_
  · clear N1 F1 t0 hr
    intro i t c u I oI h tk dr hi lI tab F2 N2
    have ltA := fun p hp => Heap.lt_size (N2 p hp).1
    have F2c := F2
    have N2c := N2
    (try k_lt lI)
    k_steps
    unfold Halt
    (try k_lt ltA)
    rename Fr _ _ _ _ => F3
    rename News _ _ _ ((_, _) :: (_, _) :: (_, _) :: news) => N3
    rw [pF_val, pC_val] at N3
    dsimp only at N3
    refine iter_tup1 [] (fun j o => TabOf (intKind PySem.Challenge.rw_sn0064_01.prog w) PyData.int o (tabAt bs mn wn (2 * i + j))) (by exact rfl) (by exact rfl) (by exact rfl) (by exact rfl) (by exact rfl) F3 N3 tab ?_ ?_
    · clear N3 F3 tab
      intro j v c2 u2 I2 oI2 h2 tk2 dr2 hv lI2 tab F2 N2
      obtain ⟨p, tp, rfl, pb, hpj⟩ := part_at hw hi hv
      obtain ⟨p0, p1, d0, d1⟩ := pb
      have hs := tabAt_succ (bs := bs) (mn := mn) hpj
      have hl := tabAt_len bs mn wn (2 * i + j)
      (try k_lt lI2)
      k_steps
      all_goals (unfold Halt)
      all_goals (rename Fr _ _ _ _ => F4)
      all_goals (rename News _ _ _ _ => N4)
      · rename TabOf _ _ _ (PyProof.V.putD _ _ _) => t9
        refine ⟨_, _, _, _, _, _, rfl, F4, N4, fun p hp => hp, ?_, ?_⟩
        · intro z hz
          simp only [List.contains_cons, List.contains_nil, Bool.or_false, beq_eq_false_iff_ne, ne_eq] at hz
          simp [hz]
        · show TabOf _ _ _ (tabAt bs mn wn (2 * i + j + 1))
          rw [hs, tStep_yes (by assumption)]
          exact t9
      · refine ⟨_, _, _, _, _, _, rfl, F4, N4, fun p hp => hp, ?_, ?_⟩
        · intro z hz
          simp only [List.contains_cons, List.contains_nil, Bool.or_false, beq_eq_false_iff_ne, ne_eq] at hz
          simp [hz]
        · show TabOf _ _ _ (tabAt bs mn wn (2 * i + j + 1))
          rw [hs, tStep_no (by assumption)]
          exact tab
    · clear N3 F3 tab
      intro c2 u2 h2 tk2 dr2 tab F2 N2
      k_steps
      unfold Halt
      rename Fr _ _ _ _ => F4
      rename News _ _ _ _ => N4
      refine ⟨c2, _, _, _, _, _, rfl, F4, N4, fun p hp => .tail _ hp, ?_, tab⟩
      intro z hz
      simp only [List.contains_cons, List.contains_nil, Bool.or_false, Bool.or_eq_false_iff, beq_eq_false_iff_ne, ne_eq] at hz
      simp [hz]
  · clear N1 F1 t0 hr
    intro c u h tk dr tab F2 N2
    k_steps
    rename Fr _ _ _ _ => FZ
    rename News _ _ _ _ => NZ
    exact hret _ _ _ _ _ FZ NZ (by assumption) lo9 tab
end Mine
end
noncomputable section
open PySem PySem.W PyProof.Rows PySem.Spec PySem.Calls
set_option linter.unusedVariables false
set_option maxRecDepth 100000
namespace Mine
local macro_rules | `(tactic| walk_at "exec While Name") => `(tactic| (k_here; refine Halt.out ?_))
local macro_rules | `(tactic| walk_at "exec While Name cons nil") => `(tactic| (k_here; refine Halt.out ?_))
local macro_rules | `(tactic| walk_at "call type:set nil nil") => `(tactic| (k_here; k_dflt (refine s_new (by k_asm) (by k_asm) ?_); intro d' h' F' N' l1; (try k_lt l1)))
local macro_rules | `(tactic| walk_at "eval Set") => `(tactic| (k_here; k_dflt (refine' s_disp ?F ?N ?X ?c ?r ?u ?p ?l ?_; (case F => k_asm); (case N => k_asm); (case X => k_asm); (case c => first | k_is | kernel_rfl!); (case r => kds_road); (case u => kds_road); (case p => kds_road); (case l => exact Nat.le_of_ble_eq_true rfl)); intro d' h' F' N' l1 hs'; (try k_lt l1); (try dsimp only [KdsAll])))
local macro_rules | `(tactic| walk_at "setAdd int") => `(tactic| (k_here; k_dflt (refine s_setAddN (by k_asm) (by k_asm) (by k_updF) (by assumption) (by omega) ?_); intro b' h' o' F' N' hs'; (try dsimp only at N')))
local macro_rules | `(tactic| walk_at "truthy ref") => `(tactic| (k_here; (with_reducible show wpAny _ _ (truthy (Value.ref _)) _ _ _); k_dflt (refine s_truthN (by k_asm) (by k_mem) (by first | assumption | exact SmallI.setI (by assumption)) (by first | assumption | omega) ?_)))
local macro_rules | `(tactic| walk_at "call builtin:sorted") => `(tactic| (k_here; refine Halt.out ?_))
local macro_rules | `(tactic| walk_at "call builtin:iter") => `(tactic| (k_here; k_dflt (refine l_iter (by k_asm) (by k_asm) (by k_mem) ?_); intro D' h' F' N' l1; (try k_lt l1)))
local macro_rules | `(tactic| walk_at "pyIter ref") => `(tactic| (k_here; refine Halt.out ?_))
local macro_rules | `(tactic| walk_at "call builtin:next") => `(tactic| (k_here; k_dflt (refine l_next (by k_asm) (by k_asm) (by k_updF) (by k_mem) (by assumption) (by assumption) ?_); intro h' t' F' N'; (try dsimp only at N')))
local macro_rules | `(tactic| walk_at "getMethod ref") => `(tactic| (k_here; (with_reducible show wpAny _ _ (getMethod (Value.ref _) (Str.ofString "pop") _) _ _ _); k_dflt (refine s_popMN (by k_asm) (by k_mem) (by assumption) (by assumption) ?_)))
local macro_rules | `(tactic| walk_at "getMethod ref") => `(tactic| (k_here; (with_reducible show wpAny _ _ (getMethod (Value.ref _) (Str.ofString "add") _) _ _ _); k_dflt (refine s_addMN (by k_asm) (by k_mem) (by first | assumption | exact SmallI.setI (by assumption)) (by first | assumption | omega) ?_)))
local macro_rules | `(tactic| walk_at "call builtin:set.pop") => `(tactic| (k_here; k_dflt (refine s_popN (by k_asm) (by k_asm) (by k_updF) (by assumption) (by assumption) (by assumption) ?_); intro k' tk' h' o' dr' hk' F' N' hs' hl'; (try dsimp only at N'); (have hk9 := w_le (by assumption) hk')))
local macro_rules | `(tactic| walk_at "binaryOp RShift int int") => `(tactic| (k_here; (with_reducible refine rshift_int (by decide) ?_); rw [shr_nat]))
local macro_rules | `(tactic| walk_at "binaryOp BitAnd int int") => `(tactic| (k_here; (with_reducible refine and_int ?_); rw [and_nat _ (by omega)]))
local macro_rules | `(tactic| walk_at "exec For Name Name cons nil") => `(tactic| (k_here; (rename Fr _ _ _ _ => lF'); (with_unfolding_all refine' For_invVF lF' ?k1 ?k2 ?_; (case k1 => exact rfl); (case k2 => exact rfl); k_whole)))
local macro_rules | `(tactic| walk_at "compareOp In int ref") => `(tactic| (k_here; k_dflt (refine s_inN (by k_asm) (by k_mem) (by assumption) (by assumption) ?_)))
local macro_rules | `(tactic| walk_at "call builtin:set.add") => `(tactic| (k_here; k_dflt (refine s_addN (by k_asm) (by k_asm) (by k_updF) (by assumption) (by omega) (by omega) ?_); intro h' o' F' N' hs' hl'; (try dsimp only at N'); (try simp only [Int.toNat_natCast, toNat_s] at hs' hl')))
local macro_rules | `(tactic| walk_at "call builtin:set.add") => `(tactic| (k_here; k_dflt (refine s_addS (by k_asm) (by k_asm) (by k_updF) (by assumption) (by omega) (by omega) ?_); intro h' o' F' N' hs'; (try dsimp only at N'); (try simp only [Int.toNat_natCast, toNat_s] at hs')))
local macro_rules | `(tactic| walk_at "compareOp In int ref") => `(tactic| (k_here; k_dflt (refine d_in (by k_asm) (by k_mem) (by assumption) (by assumption) (by assumption) ?_); (try dsimp only [Option.isSome])))
local macro_rules | `(tactic| walk_at "subscriptTail Name BinOp ref int") => `(tactic| (k_here; k_dflt (refine d_item (by k_asm) (by k_mem) (by assumption) (by assumption) (by assumption) ?_); intro t'))
local macro_rules | `(tactic| walk_at "subscriptTail") => `(tactic| (k_here; k_dflt (refine d_item (by k_asm) (by k_mem) (by assumption) (by assumption) (by assumption) ?_); intro t'))
local macro_rules | `(tactic| walk_at "setItem ref int") => `(tactic| (k_here; k_dflt (refine d_set (by k_asm) (by k_asm) (by k_updF) (by assumption) (by assumption) ?_); intro h' o' F' N' t'; (try dsimp only at N')))
local macro_rules | `(tactic| walk_at "DPost") => `(tactic| (dsimp only [DPost]))
local macro_rules | `(tactic| walk_at "DEnd") => `(tactic| (refine Halt.out ?_))
local macro_rules | `(tactic| walk_at "WPost") => `(tactic| (dsimp only [WPost]))
local macro_rules | `(tactic| walk_at "WEnd") => `(tactic| (refine Halt.out ?_))
theorem need_ne : ∀ wd ∈ [4, 5, 6, 7, 8, 9, 10, 11], ∀ mt ∈ [0, 1], needL wd mt ≠ [] := by decide +kernel
theorem st_names {z : Str} (h : [Str.ofString "w", Str.ofString "lo"].contains z = false) : z ≠ Str.ofString "w" ∧ z ≠ Str.ofString "lo" := by
  simp only [List.contains_cons, List.contains_nil, Bool.or_false, Bool.or_eq_false_iff, beq_eq_false_iff_ne, ne_eq] at h
  exact h
theorem fr_three {h₀ h : Heap} {L : Addr} {m : Str → Option Value} {x1 x2 x3 : Str} {v1 v2 v3 : Value} (F : Fr h₀ L h m) (e1 : m x1 = some v1) (e2 : m x2 = some v2) (e3 : m x3 = some v3) :
    ∃ mm : Str → Option Value, Fr h₀ L h (fun z => if z = x1 then some v1 else if z = x2 then some v2 else if z = x3 then some v3 else mm z) := by
  refine ⟨m, ?_⟩
  have e : m = fun z => if z = x1 then some v1 else if z = x2 then some v2 else if z = x3 then some v3 else m z := by
    funext z
    by_cases h1 : z = x1
    · rw [if_pos h1, h1, e1]
    rw [if_neg h1]
    by_cases h2 : z = x2
    · rw [if_pos h2, h2, e2]
    rw [if_neg h2]
    by_cases h3 : z = x3
    · rw [if_pos h3, h3, e3]
    rw [if_neg h3]
  rw [← e]
  exact F
theorem allLt_mem {I : Addr} : ∀ {l : List (Addr × Obj)}, AllLt I l → ∀ p ∈ l, p.1 < I
  | [], _, _, h => nomatch h
  | q :: r, h, p, hp => by
    rcases List.mem_cons.mp hp with rfl | hp
    · exact h.1
    · exact allLt_mem h.2 p hp
theorem allLt_at {I : Addr} {news : List (Addr × Obj)} {p1 p2 p3 p4 p5 : Prop} (h : p1 ∧ p2 ∧ p3 ∧ p4 ∧ p5 ∧ AllLt I news) : ∀ p ∈ news, p.1 < I := allLt_mem h.2.2.2.2.2
theorem drop3N {h₀ h : Heap} {L : Addr} {a b c x y z : Addr × Obj} {l : List (Addr × Obj)} (N : News h₀ L h (a :: b :: c :: x :: y :: z :: l)) : News h₀ L h (a :: b :: c :: l) := fun p hp => N p (by
  simp only [List.mem_cons] at hp ⊢
  rcases hp with e | e | e | e
  · exact .inl e
  · exact .inr (.inl e)
  · exact .inr (.inr (.inl e))
  · exact .inr (.inr (.inr (.inr (.inr (.inr e))))))
theorem at_nats {l : List Nat} {i : Nat} {k : Int} (h : (ofNats l)[i]? = some k) : ∃ n : Nat, k = (n : Int) ∧ l.getD i 0 = n ∧ i < l.length := by
  rw [List.getElem?_map] at h
  cases e : l[i]? with
  | none => rw [e] at h; cases h
  | some n =>
    rw [e] at h
    refine ⟨n, (Option.some.inj h).symm, ?_, (List.getElem?_eq_some_iff.mp e).1⟩
    rw [List.getD_eq_getElem?_getD, e]
    rfl
theorem st_names4 {z : Str} (h : [Str.ofString "this", Str.ofString "lo", Str.ofString "hi", Str.ofString "sq"].contains z = false) : z ≠ Str.ofString "this" ∧ z ≠ Str.ofString "lo" ∧ z ≠ Str.ofString "hi" ∧ z ≠ Str.ofString "sq" ∧ [Str.ofString "lo", Str.ofString "hi", Str.ofString "sq"].contains z = false := by
  have h' := h
  simp only [List.contains_cons, List.contains_nil, Bool.or_false, Bool.or_eq_false_iff, beq_eq_false_iff_ne, ne_eq] at h
  rw [List.contains_cons, Bool.or_eq_false_iff] at h'
  exact ⟨h.1, h.2.1, h.2.2.1, h.2.2.2, h'.2⟩
theorem first_tab {bs : Int} {l : List Nat} {k : Nat} (h : (ofNats l)[0]? = some (k : Int)) : PyProof.V.putD (PyData.int (k : Int)) (PyData.int (bs ^ ((k : Nat) : Int).toNat)) [] = powT bs (l.take 1) := by
  cases l with
  | nil => cases h
  | cons a r =>
    have : (a : Int) = (k : Int) := Option.some.inj h
    have : a = k := by omega
    subst this
    rfl
theorem first12 {l : List Nat} (h : l ∈ lists12) : ∃ k n : Nat, k ≤ 1 ∧ (ofNats l)[0]? = some (k : Int) ∧ (ofNats l).length = n + 1 := by
  have : ∀ l ∈ lists12, l.headD 0 ≤ 1 ∧ l.head? = some (l.headD 0) ∧ l.length = (l.length - 1) + 1 := by decide +kernel
  obtain ⟨h1, h2, h3⟩ := this l h
  refine ⟨l.headD 0, l.length - 1, h1, ?_, by rw [List.length_map]; exact h3⟩
  rw [List.getElem?_map, ← List.head?_eq_getElem?, h2]
  rfl
structure WP (w : World) (wn mn : Nat) (o1 o2 o3 : Obj) (sn nd ws : List Nat) : Prop where
  s1 : SetI w o1 (ofNats sn)
  s2 : SmallI w o2 nd
  s3 : SetI w o3 (ofNats ws)
  inv : WInv wn mn ⟨sn, nd, ws⟩
set_option maxHeartbeats 1500000 in
theorem c_compute {w mean mg mb} (wn mn bn : Nat) (bs : Int) (t1 t2 t3 : Tok) (news) (hw : wn ∈ [4, 5, 6, 7, 8, 9, 10, 11]) (hm : mn ∈ [0, 1]) (hb : 1 ≤ bs ∧ bs ≤ 3) :
    Ctr w mean mg mb 1 30 22 [.int wn t1, .int bs t2, .int mn t3] news (RetD w news ((needL wn mn).map fun (n : Nat) => (PyData.int n, PyData.int (bs ^ n)))) := by
  unfold Ctr
  k_fill
  intros; rename_i hret
  refine wpAny_call ?_
  k_dflt (refine' code_def ?k1 ?k2 ?k3 ?k4 ?k5 ?kA ?kF ?kK ?k6 ?k7 ?k8 ?k9 ?kB ?_ ?c2 ?c3 ?c4 ?c5; (case kA => exact rfl); (case kF => exact rfl); (case kK => assumption); (case k1 => k_asm); (case k2 => k_asm); (case k3 => k_asm); (case k4 => k_asm); (case k5 => k_asm); (case k6 => k_is); (case k7 => k_is); (case k8 => ktr_room); (case k9 => (refine' kp_binds ?kx ?ke; (case kx => k_in); (case ke => exact fun _ => rfl))); (case c5 => decide); (case kB => exact locs rfl); (case c2 => exact rfl); (case c3 => exact rfl); (case c4 => exact rfl); k_whole; intro g' L' h' FG' F' N' B' X' T'; (try dsimp only); (try k_lift B'); (try k_fold))
  k_steps
  unfold Halt
  rename SetI w _ (ofNats [((wn : Nat) : Int).toNat]) => hs3
  rename Fr _ _ _ _ => F0
  rename News _ _ _ ((_, _) :: (_, set0 w) :: (_, set0 w) :: news) => N0
  rw [Int.toNat_natCast] at hs3
  rename_i d1 _ _ _ d2 _ _ _ d3 _ _ _ _ _ o3 _
  refine while_dr (σ := Obj × Obj × Obj × WSt) (fun c => (d3, c.2.2.1) :: (d2, c.2.1) :: (d1, c.1) :: news) [Str.ofString "w", Str.ofString "lo"] (fun c => WP w wn mn c.1 c.2.1 c.2.2.1 c.2.2.2.sn c.2.2.2.nd c.2.2.2.ws) (fun c => wMu c.2.2.2) (set0 w, set0 w, o3, ⟨[], [], [wn]⟩) F0 N0 ⟨set0_I w, set0_S w, hs3, WInv.start wn mn hw hm⟩ ?_
  clear hs3 F0 N0
  rintro ⟨o1, o2, o3, sn, nd, ws⟩ u h tk dr hP F N
  dsimp only at hP F N ⊢
  obtain ⟨s1, s2, s3, inv⟩ := hP
  have l2 := s2.len
  obtain ⟨fs, fe, l1, l3⟩ := inv.facts hw hm
  dsimp only at fs fe l1 l3
  have b1 : sn.length ≤ 30 := by omega
  have b3 : ws.length ≤ 30 := by omega
  clear inv
  k_steps
  · exact absurd (List.isEmpty_iff.mp (by assumption) : nd = []) (fe (List.isEmpty_iff.mp (by assumption)) ▸ need_ne wn hw mn hm)
  · unfold Halt
    have hnd : nd = needL wn mn := fe (List.isEmpty_iff.mp (by assumption))
    have h12 : nd ∈ lists12 := hnd ▸ need12 wn hw mn hm
    obtain ⟨k0, n0, hk0, hget, hlen⟩ := first12 h12
    rename Fr _ _ _ _ => F1
    rename News _ _ _ _ => N1
    refine s_sorted (by exact rfl) F1 N1 (by repeat (first | exact List.Mem.head _ | refine List.Mem.tail _ ?_)) s2 ?_
    clear F1 N1 s1 s2 s3 fs
    intro D vs c h1 tk1 F1 N1 lt1 hI
    (try k_lt lt1)
    (try dsimp only); (try k_fold)
    k_steps
    unfold Halt
    rename PyProof.V.FlatPairs PyData.int _ (PyProof.V.putD _ _ []) => hf9
    have t0 := TabOf.intro (by assumption) hf9
    rw [first_tab hget] at t0
    rename Fr _ _ _ _ => F2
    rename News _ _ _ _ => N2
    clear hf9
    rename (_ == sysModules) = false => lo9
    have N3 := drop3N N2
    rename _ ∧ _ ∧ _ ∧ _ ∧ _ ∧ AllLt _ _ => lt9
    rename _ < _ ∧ _ < _ ∧ _ < _ ∧ AllLt _ _ => lt8
    obtain ⟨mm, F3⟩ := fr_three (x1 := Str.ofString "d") (x2 := Str.ofString "base") (x3 := Str.ofString "show") F2 (by with_unfolding_all rfl) (by with_unfolding_all rfl) (by with_unfolding_all rfl)
    clear F2
    refine iter_from1 [Str.ofString "lo", Str.ofString "hi", Str.ofString "sq"] (fun i o => TabOf (intKind PySem.Challenge.rw_sn0064_01.prog w) PyData.int o (powT bs (nd.take i))) (by exact rfl) hI hlen F3 N3 (Nat.ne_of_lt lt9.1) (Nat.ne_of_lt lt9.2.1) (fun p hp => Nat.ne_of_lt (allLt_at lt9 p hp)) t0 ?_ ?_
    · clear N2 F3 t0 N3
      intro i k t u o' io lo h9 tk9 hk hi tab F9 N9
      obtain ⟨kn, rfl, hkn, hlt⟩ := at_nats hk
      obtain ⟨pt, habs, hk1, hk5⟩ := pturn hb h12 (by omega) hlt
      have hlen9 : (powT bs (nd.take (i + 1))).length ≤ 20 := by unfold powT; rw [List.length_map, List.length_take]; omega
      have hmore := pow_more hlt habs
      rw [hkn] at pt habs hk1 hk5 hmore
      rcases pt with ⟨x, h1, h2, h3, h4⟩ | ⟨x, h1, h5, h2, h3, h6, h4⟩ | ⟨x, h1, h5, h2, h3, h6, h4⟩
      all_goals k_steps
      all_goals (first | (exfalso; omega) | unfold Halt)
      all_goals (rename TabOf _ _ _ (PyProof.V.putD _ _ _) => t9)
      all_goals (rename Fr _ _ _ _ => F4)
      all_goals (rename News _ _ _ _ => N4)
      all_goals (refine ⟨_, _, _, _, _, rfl, F4, N4, fun p hp => hp, ?_, by rw [h4, hmore] at t9; exact t9⟩)
      all_goals (intro z hz; obtain ⟨z1, z2, z3, z4, z5⟩ := st_names4 hz; dsimp only; simp only [z1, z2, z3, z4, z5, if_false, Bool.false_eq_true])
    · clear N2 F3 t0 N3
      intro u9 o' h9 tk9 tab F9 N9
      k_steps
      rename News _ _ _ _ => NZ
      rename Fr _ _ _ _ => FZ
      have tab2 : TabOf (intKind PySem.Challenge.rw_sn0064_01.prog w) PyData.int o' (powT bs (needL wn mn)) := by
        have hl : nd.take (n0 + 1) = nd := List.take_of_length_le (by rw [List.length_map] at hlen; omega)
        rw [hl, hnd] at tab
        exact tab
      exact hret _ _ _ _ _ FZ NZ (allLt_mem lt8.2.2.2) lo9 tab2
  all_goals (unfold Halt)
  · have hx := w_skip fs (by assumption) (.inl (by assumption))
    rename SetI w _ (ofNats (ws.erase _)) => s4
    rename Fr _ _ _ _ => F4
    rename News _ _ _ _ => N4
    refine ⟨(o1, o2, _, ⟨sn, nd, _⟩), _, _, _, _, _, rfl, F4, N4, fun p hp => hp, ?_, ⟨s1, s2, s4, hx.1⟩, hx.2⟩
    intro z hz
    obtain ⟨z1, z2⟩ := st_names hz
    dsimp only
    simp only [z1, z2, if_false, hz, Bool.false_eq_true]
  · have hx := w_skip fs (by assumption) (.inr (by omega))
    rename SetI w _ (ofNats (ws.erase _)) => s4
    rename Fr _ _ _ _ => F4
    rename News _ _ _ _ => N4
    refine ⟨(o1, o2, _, ⟨sn, nd, _⟩), _, _, _, _, _, rfl, F4, N4, fun p hp => hp, ?_, ⟨s1, s2, s4, hx.1⟩, hx.2⟩
    intro z hz
    obtain ⟨z1, z2⟩ := st_names hz
    dsimp only
    simp only [z1, z2, if_false, hz, Bool.false_eq_true]
  · have hx := w_odd fs (by assumption) (by assumption) (by omega) (by omega)
    rename SetI w _ (ofNats (addS _ sn)) => t1
    rename SmallI w _ (addS _ nd) => t2
    rename SetI w _ (ofNats (addS (_ + 1) _)) => t3
    rename Fr _ _ _ _ => F4
    rename News _ _ _ _ => N4
    refine ⟨(_, _, _, ⟨_, _, _⟩), _, _, _, _, _, rfl, F4, N4, fun p hp => hp, ?_, ⟨t1, t2, t3, hx.1⟩, hx.2⟩
    intro z hz
    obtain ⟨z1, z2⟩ := st_names hz
    dsimp only
    simp only [z1, z2, if_false, hz, Bool.false_eq_true]
  · have hx := w_even fs (by assumption) (by assumption) (by omega) (by omega)
    rename SetI w _ (ofNats (addS _ sn)) => t1
    rename SmallI w _ (addS _ nd) => t2
    rename SetI w _ (ofNats (addS _ (ws.erase _))) => t3
    rename Fr _ _ _ _ => F4
    rename News _ _ _ _ => N4
    refine ⟨(_, _, _, ⟨_, _, _⟩), _, _, _, _, _, rfl, F4, N4, fun p hp => hp, ?_, ⟨t1, t2, t3, hx.1⟩, hx.2⟩
    intro z hz
    obtain ⟨z1, z2⟩ := st_names hz
    dsimp only
    simp only [z1, z2, if_false, hz, Bool.false_eq_true]
end Mine
end
noncomputable section
open PySem PySem.W PyProof.Rows PySem.Spec PySem.Calls
set_option linter.unusedVariables false
set_option linter.unusedSimpArgs false
set_option maxRecDepth 100000
namespace Mine
noncomputable def needLit (wd mt : Nat) : List Nat := (([[0, 1, 2], [0, 1, 2], [0, 1, 3], [0, 1, 2, 3], [0, 1, 2, 4], [0, 1, 2, 4], [0, 1, 2, 5], [0, 1, 2, 3, 5]] : List (List Nat)).getD (wd - 4) []).drop mt
theorem needL_eq : ∀ wd ∈ [4, 5, 6, 7, 8, 9, 10, 11], ∀ mt ∈ [0, 1], needL wd mt = needLit wd mt := by decide +kernel
noncomputable def lookI (x : Int) : List (PyData × PyData) → Option Int
  | [] => none
  | (.int k, .int v) :: r => if k = x then some v else lookI x r
  | _ :: _ => none
theorem lookI_ok {x v : Int} : ∀ {T : List (PyData × PyData)}, lookI x T = some v → PySem.Spec.lookup (.int x) T = some (.int v)
  | (.int k, .int u) :: r, h => by
    unfold lookI at h
    rw [look_cons]
    by_cases e : k = x
    · rw [if_pos e] at h ⊢
      rw [Option.some.inj h]
    · rw [if_neg e] at h ⊢
      exact lookI_ok h
theorem table_ok : ∀ wd ∈ [4, 5, 6, 7, 8, 9, 10, 11], ∀ mt ∈ [0, 1], ∀ bs ∈ ([1, 2, 3] : List Int), (tableT bs (mt : Nat) wd).length = (needLit wd mt).length ∧ ∀ n ∈ needLit wd mt, lookI (n : Nat) (tableT bs (mt : Nat) wd) = some (bs ^ n) := by decide +kernel
theorem rows_ok {bs : Int} {Db : List (PyData × PyData)} : ∀ {l : List Nat}, (∀ n ∈ l, PySem.Spec.lookup (.int (n : Int)) Db = some (.int (bs ^ n))) → KeqRows Db (powT bs l) true
  | [], _ => .nil
  | n :: r, h => by
    have := KeqRows.hit (v := .int (bs ^ n)) (h n (.head _)) (rows_ok fun k hk => h k (.tail _ hk))
    have e : (PyData.eqv (.int (bs ^ n)) (.int (bs ^ n)) && true) = true := by
      show ((bs ^ n == bs ^ n) && true) = true
      simp
    rw [e] at this
    exact this
theorem tables_eq {wd mt : Nat} {bs : Int} (hw : wd ∈ [4, 5, 6, 7, 8, 9, 10, 11]) (hm : mt ∈ [0, 1]) (hb : 1 ≤ bs ∧ bs ≤ 3) : (powT bs (needL wd mt)).length = (tableT bs (mt : Nat) wd).length ∧ KeqRows (tableT bs (mt : Nat) wd) (powT bs (needL wd mt)) true := by
  have hb' : bs ∈ ([1, 2, 3] : List Int) := by
    have : bs = 1 ∨ bs = 2 ∨ bs = 3 := by omega
    rcases this with rfl | rfl | rfl <;> decide
  obtain ⟨h1, h2⟩ := table_ok wd hw mt hm bs hb'
  rw [needL_eq wd hw mt hm]
  exact ⟨by unfold powT; rw [List.length_map, h1], rows_ok fun n hn => lookI_ok (h2 n hn)⟩
theorem pick_ok : ∀ a ∈ [1, 2], ∀ r ∈ [0, 1, 2, 3], ∀ mt ∈ [0, 1], 4 * a + r ∈ [4, 5, 6, 7, 8, 9, 10, 11] ∧ a ∈ needLit (4 * a + r) mt := by decide +kernel
theorem pick {a r mt : Nat} {bs : Int} (ha : 1 ≤ a ∧ a ≤ 2) (hr : r ≤ 3) (hm : mt ≤ 1) : 4 * a + r ∈ [4, 5, 6, 7, 8, 9, 10, 11] ∧ PySem.Spec.lookup (.int (a : Int)) (powT bs (needL (4 * a + r) mt)) = some (.int (bs ^ a)) := by
  have hm' : mt ∈ [0, 1] := (by decide +kernel : ∀ m ∈ List.range 2, m ∈ [0, 1]) mt (List.mem_range.mpr (Nat.lt_succ_of_le hm))
  obtain ⟨h1, h2⟩ := pick_ok a ((by decide +kernel : ∀ a ∈ List.range 3, 1 ≤ a → a ∈ [1, 2]) a (List.mem_range.mpr (Nat.lt_succ_of_le ha.2)) ha.1) r ((by decide +kernel : ∀ r ∈ List.range 4, r ∈ [0, 1, 2, 3]) r (List.mem_range.mpr (Nat.lt_succ_of_le hr))) mt hm'
  refine ⟨h1, ?_⟩
  rw [look_pow, if_pos (by rw [needL_eq _ h1 mt hm']; exact h2)]
noncomputable def dueP (num : Int) (k : Nat) (gs : List Nat) : Nat → Int
  | 0 => num
  | i + 1 => dueP num k gs i * ((k : Int) + 1 - (i : Int)) ^ (gs.getD i 0)
theorem g_item {prog : Program} {w : World} {A : Around} {E : Value → Shared → Prop} {s : Shared} {h₀ : Heap} {L l : Addr} {news : List (Addr × Obj)} {value slice : Expr} {vs : List Value} {c : Nat} {ns : List Int} {k ga : Int} {u : Tok} {Q : Value → Shared → Prop}
    (N : News h₀ L s.heap news) (hm : (l, listOf vs.toArray c) ∈ news) (hi : IntsAre vs ns) (h0 : 0 ≤ k) (h1 : k < ns.length) (hf : k < 2 ^ 63) (hE : ns.getD k.toNat 0 = ga) (h : ∀ t, Q (.int ga t) s)
    (hs : subscripted slice false (.ref l) (.int k u) = operate [.ref l, .int k u] (getItem (.ref l) (.int k u)) := by with_unfolding_all rfl) (hg : ∀ r, letTemporaryGo value (.ref l) r = pure () := by intro _; with_unfolding_all rfl) :
    wpAny (model prog w) A (subscriptTail value slice (.ref l) (.int k u)) Q E s :=
  item_list_ints (isList_of (N _ hm).1) hi h0 h1 hf (fun t => by rw [hE]; exact h t) hs hg
theorem pow_b {B : Int} {g : Nat} (hb : 1 ≤ B ∧ B ≤ 3) (hg : g ≤ 2) : 0 ≤ B ^ g ∧ B ^ g ≤ 9 := by
  have h1 : B = 1 ∨ B = 2 ∨ B = 3 := by omega
  have h2 : g = 0 ∨ g = 1 ∨ g = 2 := by omega
  rcases h1 with rfl | rfl | rfl <;> rcases h2 with rfl | rfl | rfl <;> decide
theorem mul_ok {a b : Int} (h : 0 ≤ b ∧ b ≤ 9) : IntMulOk a b := IntMulOk.of_right (intBits_le_64 (by omega) (by omega))
theorem grow_at {a b c i : Nat} (h : a ≤ 2 ∧ b ≤ 2 ∧ c ≤ 1) (hi : i ≤ 2) : (ofNats [a, b, c]).getD (0 + (i : Int)).toNat 0 = ((([a, b, c] : List Nat).getD i 0 : Nat) : Int) ∧ ([a, b, c] : List Nat).getD i 0 ≤ 2 := by
  have e : (0 + (i : Int)).toNat = i := by omega
  rw [e]
  have : i = 0 ∨ i = 1 ∨ i = 2 := by omega
  rcases this with rfl | rfl | rfl
  · exact ⟨rfl, h.1⟩
  · exact ⟨rfl, h.2.1⟩
  · exact ⟨rfl, by show c ≤ 2; omega⟩
theorem ch_at {ch : Int} (h : 0 ≤ ch ∧ ch ≤ 1000000) : (ch.fdiv 2).fmod 4 = (((ch / 2 % 4).toNat : Nat) : Int) ∧ (ch / 2 % 4).toNat ≤ 3 ∧ ch.fmod 2 = (((ch % 2).toNat : Nat) : Int) ∧ (ch % 2).toNat ≤ 1 := by
  have e1 : ch.fdiv 2 = ch / 2 := Int.fdiv_eq_ediv_of_nonneg _ (by decide)
  have e2 : (ch / 2).fmod 4 = ch / 2 % 4 := Int.fmod_eq_emod_of_nonneg _ (by decide)
  have e3 : ch.fmod 2 = ch % 2 := Int.fmod_eq_emod_of_nonneg _ (by decide)
  rw [e1, e2, e3]
  have a1 : 0 ≤ ch / 2 % 4 := Int.emod_nonneg _ (by decide)
  have a2 : ch / 2 % 4 < 4 := Int.emod_lt_of_pos _ (by decide)
  have b1 : 0 ≤ ch % 2 := Int.emod_nonneg _ (by decide)
  have b2 : ch % 2 < 2 := Int.emod_lt_of_pos _ (by decide)
  exact ⟨(Int.toNat_of_nonneg a1).symm, Nat.le_of_lt_succ ((Int.toNat_lt a1).mpr a2), (Int.toNat_of_nonneg b1).symm, Nat.le_of_lt_succ ((Int.toNat_lt b1).mpr b2)⟩
end Mine
end
noncomputable section
open PySem PySem.W PyProof.Rows PySem.Spec PySem.Calls
set_option linter.unusedVariables false
set_option maxRecDepth 100000
namespace Mine
noncomputable abbrev RetVD (news : List (Addr × Obj)) (R : Tok → Value) : Heap → Addr → (Str → Option Value) → Shared → (Value → Shared → Prop) → Prop := fun h₀ L m s Q =>
  ∀ (t : Tok) (h' : Heap) (tk' : Nat) (dr : Drawn), Fr h₀ L h' m → News h₀ L h' news → Q (R t) { s with heap := h', toks := tk', drawn := dr }
theorem iter_rangeV {prog : Program} {w : World} {A : Around} {E : Value → Shared → Prop} {s : Shared} {env : Env} {h₀ : Heap} {x : Str} {body : List Stmt} {Q : Flow → Shared → Prop}
    {r : Addr} {rest : List (Addr × Obj)} {a₀ b₀ : Int} {t₀ u₀ v₀ : Tok} {n : Nat} {m₀ : Str → Option Value} (y : Str) (stored : List Str) (Pj : Nat → Int → Prop) (z₀ : Int) (tz₀ : Tok) (hh : A.handled = none)
    (hr : IsRange s.heap r a₀ b₀ 1 t₀ u₀ v₀) (hsmall : Builtin.Range.small a₀ b₀ 1 = true) (hn : Builtin.Range.rangeSize a₀ b₀ 1 = (n : Int)) (hx : env.kindOf x = some .local) (hp : (env.scope.kind == .class || (env.scope.kind == .module && env.locals != env.globals)) = false)
    (F : Fr h₀ env.locals s.heap (fun z => if z = y then some (.int z₀ tz₀) else m₀ z)) (N : News h₀ env.locals s.heap rest) (h0 : Pj 0 z₀)
    (turn : ∀ (i : Nat) t z₁ tz (u : Str → Option Value) I oI h tk dr, i < n → (∀ p ∈ rest, p.1 < I) → Pj i z₁ → Fr h₀ env.locals h (fun z => if z = x then some (.int (a₀ + (i : Int)) t) else if stored.contains z then u z else if z = y then some (.int z₁ tz) else m₀ z) → News h₀ env.locals h ((I, oI) :: rest) →
      wpAny (model prog w) A (execs body env) (LPost (σ := Int × Tok) h₀ env.locals { s with heap := h, toks := tk, drawn := dr } I oI (fun _ => rest) (x :: stored) (fun c z => if z = y then some (.int c.1 c.2) else m₀ z) (fun c => Pj (i + 1) c.1) Q) E { s with heap := h, toks := tk, drawn := dr })
    (done : ∀ z₁ tz (u : Str → Option Value) h tk dr, Pj n z₁ → Fr h₀ env.locals h (fun z => if (x :: stored).contains z then u z else if z = y then some (.int z₁ tz) else m₀ z) → News h₀ env.locals h rest → Q .next { s with heap := h, toks := tk, drawn := dr })
    (hE : PassesOwn (model prog w) A env E := by passes_own) : wpAny (model prog w) A (pyIter (.ref r)) (fun it s₂ => LoopD prog w A env x body Q E it s₂) E s :=
  iter_rangeD (σ := Int × Tok) (m₀ := fun c z => if z = y then some (.int c.1 c.2) else m₀ z) (fun _ => rest) stored (fun i c => Pj i c.1) (z₀, tz₀) hh hr hsmall hn hx hp F N (fun _ => rfl) h0 (fun i t c u I oI h tk dr => turn i t c.1 c.2 u I oI h tk dr) (fun c u h tk dr => done c.1 c.2 u h tk dr) hE
local macro_rules | `(tactic| walk_at "exec For Name Call cons nil") => `(tactic| (k_here; (with_unfolding_all refine For_D ?_); k_whole))
local macro_rules | `(tactic| walk_at "pyIter ref") => `(tactic| (k_here; refine Halt.out ?_))
local macro_rules | `(tactic| walk_at "call ref") => `(tactic| (k_here; refine Halt.out ?_))
local macro_rules | `(tactic| walk_at "compareOp NotEq ref ref") => `(tactic| (k_here; refine Halt.out ?_))
local macro_rules | `(tactic| walk_at "LPost") => `(tactic| (dsimp only [LPost]))
local macro_rules | `(tactic| walk_at "LEnd") => `(tactic| (refine Halt.out ?_))
local macro_rules | `(tactic| walk_at "subscriptTail") => `(tactic| (k_here; refine Halt.out ?_))
local macro_rules | `(tactic| walk_at "inplaceOp Mult int int") => `(tactic| (k_here; (with_reducible refine imul_int ?_ (mul_ok (by assumption)))))
local macro_rules | `(tactic| walk_at "subscriptTail Name Name ref int") => `(tactic| (k_here; (with_reducible show wpAny _ _ (subscriptTail (Expr.Name (Str.ofString "grow") _) _ (Value.ref _) (Value.int _ _)) _ _ _); k_dflt (refine g_item (by k_asm) (by k_mem) (by with_reducible assumption) (by omega) (by with_reducible assumption) (by omega) (by with_reducible assumption) ?_); intro t'))
local macro_rules | `(tactic| walk_at "subscriptTail Name Subscript ref int") => `(tactic| (k_here; (with_reducible show wpAny _ _ (subscriptTail (Expr.Name (Str.ofString "table") _) _ (Value.ref _) (Value.int _ _)) _ _ _); k_dflt (refine d_item (by k_asm) (by k_mem) (by with_reducible assumption) (by with_reducible assumption) (by with_reducible assumption) ?_); intro t'))
theorem due_ix {i k : Nat} (hi : i < k + 1) (hk : k ≤ 2) : i ≤ 2 ∧ 0 ≤ 0 + (i : Int) ∧ 0 + (i : Int) < 3 ∧ 0 + (i : Int) < 2 ^ 63 ∧ (1 ≤ (k : Int) + 1 - (i : Int) ∧ (k : Int) + 1 - (i : Int) ≤ 3) ∧ (k : Int) + 1 - (0 + (i : Int)) = (k : Int) + 1 - (i : Int) := by omega
theorem k_three {k : Nat} (h : k ≤ 2) : k = 0 ∨ k = 1 ∨ k = 2 := by omega
theorem mn_two {k : Nat} (h : k ≤ 1) : k ∈ [0, 1] := by simp; omega
set_option maxHeartbeats 2500000 in
theorem c_due {w mean mg mb} (num ch : Int) (k a b c : Nat) (gl : Addr) (gvs : List Value) (gn : Nat) (t1 t2 t3 : Tok) (news) (hg : IntsAre gvs (ofNats [a, b, c])) (hk : k ≤ 2) (hab : a ≤ 2 ∧ b ≤ 2 ∧ c ≤ 1) (hc : 0 ≤ ch ∧ ch ≤ 1000000) (hnum : -20000000 ≤ num ∧ num ≤ 20000000) :
    Ctr w mean mg mb 6 90 147 [.int num t1, .ref gl, .int k t2, .int ch t3] ((gl, listOf gvs.toArray gn) :: news) (RetVD ((gl, listOf gvs.toArray gn) :: news) fun t => .int (dueP num k [a, b, c] (k + 1)) t) := by
  unfold Ctr
  k_fill
  intros; rename_i hret
  refine wpAny_call ?_
  k_dflt cell_enter
  k_steps
  unfold Halt
  rename IsRange _ _ _ _ _ _ _ _ => hr
  rename Fr _ _ _ _ => F1
  rename News _ _ _ ((_, _) :: news) => N1
  have hsm : Builtin.Range.small 0 ((k : Int) + 1) 1 = true ∧ Builtin.Range.rangeSize 0 ((k : Int) + 1) 1 = ((k + 1 : Nat) : Int) := by
    have := k_three hk
    rcases this with rfl | rfl | rfl <;> exact ⟨by decide, by decide⟩
  refine iter_rangeV (n := k + 1) (Str.ofString "due") [Str.ofString "width", Str.ofString "table"] (fun i d => d = dueP num k [a, b, c] i) num _ (by exact rfl) hr hsm.1 hsm.2 (by exact rfl) (by exact rfl) F1 N1 rfl ?_ ?_
  · clear N1 F1 hr
    intro i t d td u I oI h tk dr hi lI hd F2 N2
    (try k_lt lI)
    obtain ⟨i2, x1, x2, x3, hbb, hB⟩ := due_ix hi hk
    have hgs := grow_at (a := a) (b := b) (c := c) (i := i) hab i2
    generalize hgd : ([a, b, c] : List Nat).getD i 0 = g at hgs
    obtain ⟨hgE, hg2⟩ := hgs
    have hr9 := ch_at hc
    generalize hrd : (ch / 2 % 4).toNat = r at hr9
    generalize hmd : (ch % 2).toNat = mn at hr9
    obtain ⟨hR, hr3, hM, hm1⟩ := hr9
    have hds : dueP num k [a, b, c] (i + 1) = dueP num k [a, b, c] i * ((k : Int) + 1 - (i : Int)) ^ g := by rw [← hgd]; rfl
    rw [← hd] at hds
    clear hd hgd hrd hmd
    have hlt3 : 0 + (i : Int) < ((ofNats [a, b, c]).length : Int) := x2
    k_steps
    · unfold Halt
      have hg1 : 1 ≤ g := by omega
      have hW : 4 * (g : Int) + (ch.fdiv 2).fmod 4 = ((4 * g + r : Nat) : Int) := by rw [hR]; omega
      have hpk := pick (a := g) (r := r) (mt := mn) (bs := (k : Int) + 1 - (i : Int)) ⟨hg1, hg2⟩ hr3 hm1
      have hmm : mn ∈ [0, 1] := mn_two hm1
      have htq := tables_eq hpk.1 hmm hbb
      rw [hW, hM, hB]
      refine Ctr.use (c_compute (4 * g + r) mn 0 ((k : Int) + 1 - (i : Int)) _ _ _ _ hpk.1 hmm hbb) (by k_asm) (by k_asm) (by k_asm) (by k_asm) (by k_asm) (by first | exact rfl | assumption) (by first | omega | ktr_room) (by first | omega | ktr_units) ?_
      intro D1 o1 h9 tk9 dr9 F9 N9 l9 lo1 tab1
      (try k_lt l9)
      (try dsimp only); (try k_fold)
      k_steps
      unfold Halt
      rw [hW, hM, hB]
      refine Ctr.use (c_table (4 * g + r) mn ((k : Int) + 1 - (i : Int)) _ _ _ _ hpk.1 hbb) (by k_asm) (by k_asm) (by k_asm) (by k_asm) (by k_asm) (by first | exact rfl | assumption) (by first | omega | ktr_room) (by first | omega | ktr_units) ?_
      intro D2 o2 h10 tk10 dr10 F10 N10 l10 lo2 tab2
      (try k_lt l10)
      (try dsimp only); (try k_fold)
      have N10c := N10
      k_steps
      unfold Halt
      refine kne_tabs (knd := intKind _ _) (enc := PyData.int) PyProof.V.same_int (tab1.tabAt N10c (.tail _ (.head _)) lo1) (tab2.tabAt N10c (.head _) lo2) htq.1 (by first | omega | ktr_units) htq.2 ?_
      have hl1 := hpk.2
      clear htq hW hpk tab2 hmm
      (try dsimp only); (try k_fold)
      k_steps
      unfold Halt
      rename News _ _ _ _ => N99
      refine d_item N99 (by repeat (first | exact List.Mem.head _ | refine List.Mem.tail _ ?_)) lo1 tab1 hl1 ?_
      intro t99
      (try dsimp only); (try k_fold)
      clear hl1 tab1
      have pw := pow_b (B := (k : Int) + 1 - (i : Int)) (g := g) hbb hg2
      k_steps
      unfold Halt
      rename Fr _ _ _ _ => F4
      rename News _ _ _ ((_, _) :: (_, _) :: (I, oI) :: _) => N4
      refine ⟨(d * ((k : Int) + 1 - (i : Int)) ^ g, tk10 + 1), _, _, _, _, _, rfl, F4, N4, fun p hp => .tail _ (.tail _ hp), ?_, hds.symm⟩
      intro z hz
      simp only [List.contains_cons, List.contains_nil, Bool.or_false, Bool.or_eq_false_iff, beq_eq_false_iff_ne, ne_eq] at hz
      simp [hz]
      by_cases hy : z = Str.ofString "due"
      · rw [if_pos hy, if_pos hy]
      · rw [if_neg hy, if_neg hy, if_neg hy]
    · unfold Halt
      have hg0 : g = 0 := by omega
      rename Fr _ _ _ _ => F4
      rename News _ _ _ _ => N4
      refine ⟨(d, td), _, _, _, _, _, rfl, F4, N4, fun p hp => hp, ?_, ?_⟩
      · intro z hz
        simp only [List.contains_cons, List.contains_nil, Bool.or_false, Bool.or_eq_false_iff, beq_eq_false_iff_ne, ne_eq] at hz
        simp [hz]
      · show d = dueP num k [a, b, c] (i + 1)
        rw [hds, hg0, Int.pow_zero, Int.mul_one]
  · clear N1 F1 hr
    intro d td u h tk dr hd F2 N2
    k_steps
    rename Fr _ _ _ _ => FZ
    rename News _ _ _ _ => NZ
    rw [← hd] at hret
    exact hret _ _ _ _ FZ NZ
end Mine
end
noncomputable section
open PySem PySem.W PyProof.Rows PySem.Spec PySem.Calls PyProof.Rows.LCg
set_option linter.unusedVariables false
set_option linter.unusedSimpArgs false
set_option maxRecDepth 100000
namespace Mine
/-! a list comprehension of our own: any source, a test or none, draws told -/
inductive CV (R : Nat → Value → Prop) : List Nat → List Value → Prop
  | nil : CV R [] []
  | snoc {is : List Nat} {ys : List Value} {i : Nat} {y : Value} : CV R is ys → R i y → CV R (is ++ [i]) (ys ++ [y])
theorem CV.length {R : Nat → Value → Prop} {is : List Nat} {ys : List Value} (h : CV R is ys) : ys.length = is.length := by
  induction h with
  | nil => rfl
  | snoc _ _ ih => rw [List.length_append, List.length_append, ih]; rfl
noncomputable def CKeep (h₀ : Heap) (L : Addr) (m : Str → Option Value) (s : Shared) (need : List (Addr × Obj)) (s' : Shared) : Prop :=
  ∃ h' tk' dr' nw, s' = { s with heap := h', toks := tk', drawn := dr' } ∧ Fr h₀ L h' m ∧ News h₀ L h' nw ∧ ∀ p ∈ need, p ∈ nw
section
variable {prog : Program} {w : World} {A : Around} {E : Value → Shared → Prop} {s : Shared} {h₀ : Heap} {L : Addr} {m : Str → Option Value} {env : Env}
noncomputable abbrev TestsOf (prog : Program) (w : World) (A : Around) (ifs : List Expr) (cenv : Env) : (Bool → Shared → Prop) → (Value → Shared → Prop) → Shared → Prop :=
  wpAny (model prog w) A (forIn ifs true fun c r => if r = true then do let ok ← isTrue c cenv (eval c cenv); pure (ForInStep.yield ok) else pure (ForInStep.yield r))
theorem comp_core {elt iter : Expr} {x : Str} {px : Pos} {ifs : List Expr} {scope : Scope} {cl : List (Str × Addr)} {pos : Pos} {s₂ : Shared} {I : Addr} {fp : List Addr} {n : Nat} {P : Nat → Value → Prop} {St : Nat → Heap → Prop} {news : List (Addr × Obj)} (pz : Nat → Bool) (R : Nat → Value → Prop)
    {RR : Value → Addr → Result → Shared → Prop}
    (W : Walks prog w A I fp [I] n P St) (hsz : n ≤ sizeLine) (hIo : ∀ i h, St i h → ∃ o, h.get? I = some o)
    (hSt : ∀ i h h' o, St i h → h.get? I = some o → h'.get? I = some o → (∀ b o, h₀.get? b = some o → h'.get? b = some o) → News h₀ L h' news → St i h')
    (hcell : ∀ y ∈ scope.names, y.2 ≠ .cell) (hkind : scope.kind = .function) (hx : scope.names.lookup x = some .local) (hst : St 0 s₂.heap) (hfp : ∀ b ∈ fp, b < s₂.heap.objs.size)
    (F : Fr h₀ L s₂.heap m) (N : News h₀ L s₂.heap news) (hIL : L ≠ I) (hI₀ : h₀.get? I = none) (off : ∀ p ∈ news, p.1 ≠ I)
    (turn : ∀ i v C oI oC D ys m₂ h tk dr (E' : Value → Shared → Prop), i < n → P i v → NsObj oC m₂ → m₂ x = some v → Fr h₀ L h m → News h₀ L h ((I, oI) :: (C, oC) :: (D, lst ys) :: news) → Off3 I C D news → ((@Ne Nat I C) ∧ (@Ne Nat I D) ∧ (@Ne Nat C D)) →
      TestsOf prog w A ifs (compEnvC scope cl C env) (fun ok s' => if ok = true then wpAny (model prog w) A (eval elt (compEnvC scope cl C env)) (fun y s'' => pz i = true ∧ R i y ∧ CKeep h₀ L m s₂ ((I, oI) :: (C, oC) :: (D, lst ys) :: news) s'') E' s'
        else pz i = false ∧ CKeep h₀ L m s₂ ((I, oI) :: (C, oC) :: (D, lst ys) :: news) s') E' { s₂ with heap := h, toks := tk, drawn := dr })
    (hRR : ∀ D C h tk dr m' ys, Fr h₀ L h m → News h₀ L h ((D, lst ys) :: news) → Off1 D news → h.Ns C m' → h₀.get? C = none → h₀.get? D = none → C ≠ L → D ≠ L → C ≠ D → (∀ p ∈ news, p.1 ≠ C) → (∀ p ∈ news, p.1 < D) → CV R ((List.range n).filter pz) ys → RR (.ref D) C (.ok .next) { s₂ with heap := h, toks := tk, drawn := dr }) :
    wpAny (model prog w) A (newList []) (fun acc s₃ => wpAny (model prog w) A (newFunctionEnv scope env.globals cl [] env.qual none .none (some env)) (fun cenv s₄ =>
      codeAny (model prog w) A (.compStart (.ListComp elt [⟨.Name x px, iter, ifs, 0⟩] scope pos) 0 (.ref I) acc { cenv with scope := relabel scope env }) (RR acc cenv.locals) s₄) E s₃) E s₂ := by
  refine wpAny_newObj_type (wpAny_newFunctionEnv hcell (by intro y hy; simp at hy) (fun h₁ hns₁ hsb₁ => ?_) hkind)
  dsimp only at hns₁ hsb₁ ⊢
  generalize hH2 : s₂.heap.push { cls := .type "list", dict := none, data := .seq ([] : List Value).toArray } = H2 at hns₁ hsb₁ ⊢
  have hC : H2.objs.size = s₂.heap.objs.size + 1 := by rw [← hH2, Heap.size_push]
  generalize hDn : s₂.heap.objs.size = D at hC ⊢
  generalize hCn : H2.objs.size = C at hns₁ hsb₁ hC ⊢
  have hDC : D ≠ C := by rw [hC]; exact Nat.ne_of_lt (Nat.lt_succ_self _)
  have lt : ∀ b o, s₂.heap.get? b = some o → b < D := fun b o e => hDn ▸ Heap.lt_size e
  have hIlt : I < D := hDn ▸ hfp I (W.sub I (List.mem_singleton.mpr rfl))
  have hLlt : L < D := hDn ▸ F.ns.lt
  have hCD : C = D + 1 := hC
  have hDf : D ∉ fp := fun hm => absurd (hfp _ hm) (by rw [hDn]; exact Nat.lt_irrefl _)
  have hCf : C ∉ fp := fun hm => absurd (hfp _ hm) (by rw [hDn, hCD]; exact fun h => Nat.lt_irrefl _ (Nat.lt_of_succ_lt h))
  have ne1 : ∀ b, b < D → b ≠ C ∧ b ≠ D := fun b hb => ⟨by rw [hCD]; exact Nat.ne_of_lt (Nat.lt_succ_of_lt hb), Nat.ne_of_lt hb⟩
  have old : ∀ b o, s₂.heap.get? b = some o → h₁.get? b = some o := fun b o e => hsb₁.extBut b o (ne1 b (lt b o e)).1 (Heap.get?_push_of_some _ (hH2 ▸ Heap.get?_push_of_some _ e))
  have hacc : h₁.get? D = some (lst []) := hsb₁.extBut _ _ hDC (Heap.get?_push_of_some _ (hDn ▸ hH2 ▸ Heap.get?_push_size _ rfl))
  have hst₁ : St 0 h₁ := W.frame _ _ _ hst fun b _ o e => old b o e
  have none_of : ∀ a, D ≤ a → h₀.get? a = none := fun a ha => by
    cases e : h₀.get? a with
    | none => rfl
    | some o' => exact absurd (lt a o' (F.keep a o' e)) (Nat.not_lt.mpr ha)
  have hD₀ : h₀.get? D = none := none_of _ (Nat.le_refl _)
  have hC₀ : h₀.get? C = none := none_of _ (by rw [hCD]; exact Nat.le_succ _)
  have hDL : D ≠ L := (ne1 L hLlt).2.symm
  have hCL : C ≠ L := (ne1 L hLlt).1.symm
  have hCI : I ≠ C := (ne1 I hIlt).1
  have hDI : I ≠ D := (ne1 I hIlt).2
  have off₀ : Off3 I C D news := Off3.of fun p hp => ⟨off p hp, ne1 _ (lt _ _ (N p hp).1)⟩
  have off3 := off₀.mem
  have below : ∀ p ∈ news, p.1 < D := fun p hp => lt _ _ (N p hp).1
  have loop : ∀ s₃ : Shared, s₃ = { s₂ with heap := h₁, toks := s₂.toks + ([] : List (Str × Value)).length } →
      codeAny (model prog w) A (.compLoop (.ListComp elt [⟨.Name x px, iter, ifs, 0⟩] scope pos) 0 (.ref I) (.ref D) (compEnvC scope cl C env)) (RR (.ref D) C) s₃ := by
    rintro s₃ rfl
    refine codeAny_compLoop_tests
      (fun k s' => ∃ h' tk dr i ys m', s' = { s₂ with heap := h', toks := tk, drawn := dr } ∧ i ≤ n ∧ k = n + 1 - i ∧ ys.length ≤ i ∧ CV R ((List.range i).filter pz) ys ∧ St i h' ∧ Fr h₀ L h' m ∧ h'.Ns C m' ∧ News h₀ L h' ((D, lst ys) :: news)) ?_ (n + 1)
      ⟨h₁, _, s₂.drawn, 0, [], _, rfl, Nat.zero_le _, rfl, Nat.le_refl _, CV.nil, hst₁, F.keeps old, hns₁, fun p hp => ?_⟩
    · rintro k s' ⟨h', tk, dr, i, ys, m', rfl, hi, rfl, hyl, hcv, hst', F', hn', N'⟩
      by_cases hlt : i < n
      · refine W.item i _ _ _ hlt hst' fun v h₂ tk₂ hPv hst₂ hk₂ => ?_
        refine wpAny_assign_Name (wpAny_storeName_local (lookup_relabel_local hx) (hn'.at' fun o e => hk₂ _ o (by simpa using Ne.symm hCI) e) (fun h₃ hn₃ hs₃ => ?_) (by simp [compEnvC, relabel, hkind]))
        have hst₃ : St (i + 1) h₃ := W.frame _ _ _ hst₂ fun b hb o e => hs₃.extBut b o (fun q => hCf (by have q' : b = C := q; rw [← q']; exact hb)) e
        obtain ⟨oI, heI⟩ := hIo _ _ hst₃
        obtain ⟨oC, heC, hoC⟩ := ns_obj hn₃
        have F₃ : Fr h₀ L h₃ m := (fr_but F' hk₂ hIL hI₀).change hs₃ hCL hC₀
        have N₂ : News h₀ L h₂ ((D, lst ys) :: news) := news_but N' hk₂ fun p hp => by
          rcases List.mem_cons.mp hp with rfl | hp
          · exact Ne.symm hDI
          · exact (off3 p hp).1
        have N₃ : News h₀ L h₃ ((I, oI) :: (C, oC) :: (D, lst ys) :: news) := fun p hp => by
          rcases List.mem_cons.mp hp with rfl | hp
          · exact ⟨heI, Ne.symm hIL, hI₀⟩
          · rcases List.mem_cons.mp hp with rfl | hp
            · exact ⟨heC, hCL, hC₀⟩
            · have z := N₂ p hp
              refine ⟨hs₃.extBut _ _ ?_ z.1, z.2⟩
              rcases List.mem_cons.mp hp with rfl | hp
              · exact hDC
              · exact (off3 p hp).2.1
        have back : ∀ s', CKeep h₀ L m s₂ ((I, oI) :: (C, oC) :: (D, lst ys) :: news) s' → ∃ h₄ tk₄ dr₄ mm, s' = { s₂ with heap := h₄, toks := tk₄, drawn := dr₄ } ∧ Fr h₀ L h₄ m ∧ h₄.Ns C mm ∧ News h₀ L h₄ ((D, lst ys) :: news) ∧ St (i + 1) h₄ := by
          rintro s' ⟨h₄, tk₄, dr₄, nw, rfl, F₄, N₄, hn₄⟩
          have zI := (N₄ _ (hn₄ _ (.head _))).1
          have zC := (N₄ _ (hn₄ _ (.tail _ (.head _)))).1
          have N₅ : News h₀ L h₄ ((D, lst ys) :: news) := fun p hp => N₄ p (hn₄ p (.tail _ (.tail _ hp)))
          exact ⟨h₄, tk₄, dr₄, _, rfl, F₄, hoC.ns zC, N₅, hSt _ _ _ _ hst₃ heI zI F₄.keep fun p hp => N₅ p (.tail _ hp)⟩
        refine wpAny_mono (turn i v C oI oC D ys _ h₃ _ dr _ hlt hPv hoC (by simp) F₃ N₃ off₀ ⟨hCI, hDI, Ne.symm hDC⟩) (fun ok s₅ h₅ => ?_) fun _ _ e => e
        have hrange : List.range (i + 1) = List.range i ++ [i] := List.range_succ
        cases ok with
        | false =>
          simp only [Bool.false_eq_true, if_false] at h₅ ⊢
          obtain ⟨hp, hk⟩ := h₅
          obtain ⟨h₄, tk₄, dr₄, mm, rfl, F₄, hn₄, N₄, hst₄⟩ := back _ hk
          refine ⟨n + 1 - (i + 1), by omega, h₄, tk₄, dr₄, i + 1, ys, _, rfl, hlt, rfl, by omega, ?_, hst₄, F₄, hn₄, N₄⟩
          rw [hrange, List.filter_append]
          simpa [hp] using hcv
        | true =>
          simp only [if_true] at h₅ ⊢
          refine wpAny_mono h₅ (fun y s₆ h₆ => ?_) fun _ _ e => e
          obtain ⟨hp, hR, hk⟩ := h₆
          obtain ⟨h₄, tk₄, dr₄, mm, rfl, F₄, hn₄, N₄, hst₄⟩ := back _ hk
          have zD := (N₄ _ (.head _)).1
          refine append_at (hsz := by show ys.toArray.size ≤ sizeLine; rw [List.size_toArray]; omega) zD fun h₇ hs₇ hD₇ => ?_
          refine ⟨n + 1 - (i + 1), by omega, h₇, tk₄, dr₄, i + 1, ys ++ [y], _, rfl, hlt, rfl, by rw [List.length_append, List.length_singleton]; omega, ?_, W.frame _ _ _ hst₄ fun b hb o e => hs₇.extBut b o (fun q => hDf (q ▸ hb)) e, F₄.change hs₇ hDL hD₀,
            hn₄.sameBut hs₇ (Ne.symm hDC), fun p hp' => ?_⟩
          · rw [hrange, List.filter_append]
            have : List.filter pz [i] = [i] := by simp [hp]
            rw [this]
            exact hcv.snoc hR
          · rcases List.mem_cons.mp hp' with rfl | hp'
            · exact ⟨hD₇.trans (congrArg some (lst_snoc ys y)), hDL, hD₀⟩
            · exact ⟨hs₇.extBut _ _ (off3 p hp').2.2 (N₄ p (.tail _ hp')).1, (N₄ p (.tail _ hp')).2⟩
      · obtain rfl : i = n := Nat.le_antisymm hi (Nat.not_lt.mp hlt)
        refine W.done _ _ _ hst' fun h₂ tk₂ hk₂ => ?_
        exact hRR _ _ h₂ tk₂ dr _ ys (fr_but F' hk₂ hIL hI₀) (news_but N' hk₂ fun p hp => by
          rcases List.mem_cons.mp hp with rfl | hp
          · exact Ne.symm hDI
          · exact (off3 p hp).1) off₀.one (hn'.at' fun o e => hk₂ _ o (by simpa using Ne.symm hCI) e) hC₀ hD₀ hCL hDL (Ne.symm hDC) (fun p hp => (off3 p hp).2.1) below hcv
    · rcases List.mem_cons.mp hp with rfl | hp
      · exact ⟨hacc, hDL, hD₀⟩
      · exact ⟨old _ _ (N p hp).1, (N p hp).2⟩
  exact codeAny_compStart_list (loop _ rfl) (W.self 0 _ _ _ hst₁ (loop _ rfl))
end
end Mine
end
noncomputable section
open PySem PySem.W PyProof.Rows PySem.Spec PySem.Calls PyProof.Rows.LCg
set_option linter.unusedVariables false
set_option linter.unusedSimpArgs false
set_option maxRecDepth 100000
namespace Mine
/-- a comprehension's source: a range -/
noncomputable def SrcD (prog : Program) (w : World) (A : Around) (h₀ : Heap) (L : Addr) (m : Str → Option Value) (env : Env) (elt : Expr) (ifs : List Expr) (x : Str) (scope : Scope) (cl : List (Str × Addr)) (Fin : Addr → List Value → Heap → Nat → Drawn → Shared → Prop) (xv : Value) (s₁ : Shared) : Prop :=
  ∃ (r : Addr) (a b : Int) (t u v : Tok) (n : Nat) (news : List (Addr × Obj)) (pz : Nat → Bool) (R : Nat → Value → Prop), xv = .ref r ∧ A.handled = none ∧ Fr h₀ L s₁.heap m ∧ News h₀ L s₁.heap news ∧ IsRange s₁.heap r a b 1 t u v ∧ Builtin.Range.small a b 1 = true ∧ Builtin.Range.rangeSize a b 1 = ((n : Nat) : Int) ∧ n ≤ sizeLine ∧
    (∀ (i : Nat) t I C oI oC D ys m₂ h tk dr (E' : Value → Shared → Prop), i < n → NsObj oC m₂ → m₂ x = some (.int (a + (i : Int)) t) → Fr h₀ L h m → News h₀ L h ((I, oI) :: (C, oC) :: (D, lst ys) :: news) → Off3 I C D news → ((@Ne Nat I C) ∧ (@Ne Nat I D) ∧ (@Ne Nat C D)) →
      TestsOf prog w A ifs (compEnvC scope cl C env) (fun ok s' => if ok = true then wpAny (model prog w) A (eval elt (compEnvC scope cl C env)) (fun y s'' => pz i = true ∧ R i y ∧ CKeep h₀ L m s₁ ((I, oI) :: (C, oC) :: (D, lst ys) :: news) s'') E' s'
        else pz i = false ∧ CKeep h₀ L m s₁ ((I, oI) :: (C, oC) :: (D, lst ys) :: news) s') E' { s₁ with heap := h, toks := tk, drawn := dr }) ∧
    (∀ D ys h tk dr, Fr h₀ L h m → News h₀ L h ((D, lst ys) :: news) → (∀ p ∈ news, p.1 < D) → CV R ((List.range n).filter pz) ys → Fin D ys h tk dr s₁)
noncomputable def SrcA (prog : Program) (w : World) (A : Around) (h₀ : Heap) (L : Addr) (m : Str → Option Value) (env : Env) (elt : Expr) (ifs : List Expr) (x y : Str) (scope : Scope) (cl : List (Str × Addr)) (Q : Flow → Shared → Prop) (xv : Value) (s₁ : Shared) : Prop :=
  ∃ (r : Addr) (a b : Int) (t u v : Tok) (n : Nat) (news : List (Addr × Obj)) (pz : Nat → Bool) (R : Nat → Value → Prop), xv = .ref r ∧ A.handled = none ∧ Fr h₀ L s₁.heap m ∧ News h₀ L s₁.heap news ∧ IsRange s₁.heap r a b 1 t u v ∧ Builtin.Range.small a b 1 = true ∧ Builtin.Range.rangeSize a b 1 = ((n : Nat) : Int) ∧ n ≤ sizeLine ∧
      (∀ (i : Nat) t I C oI oC D ys m₂ h tk dr (E' : Value → Shared → Prop), i < n → NsObj oC m₂ → m₂ x = some (.int (a + (i : Int)) t) → Fr h₀ L h m → News h₀ L h ((I, oI) :: (C, oC) :: (D, lst ys) :: news) → Off3 I C D news → ((@Ne Nat I C) ∧ (@Ne Nat I D) ∧ (@Ne Nat C D)) →
        TestsOf prog w A ifs (compEnvC scope cl C env) (fun ok s' => if ok = true then wpAny (model prog w) A (eval elt (compEnvC scope cl C env)) (fun y s'' => pz i = true ∧ R i y ∧ CKeep h₀ L m s₁ ((I, oI) :: (C, oC) :: (D, lst ys) :: news) s'') E' s'
          else pz i = false ∧ CKeep h₀ L m s₁ ((I, oI) :: (C, oC) :: (D, lst ys) :: news) s') E' { s₁ with heap := h, toks := tk, drawn := dr }) ∧
      (∀ D ys h tk dr, Fr h₀ L h (fun z => if z = y then some (.ref D) else m z) → News h₀ L h ((D, lst ys) :: news) → (∀ p ∈ news, p.1 < D) → CV R ((List.range n).filter pz) ys → Q .next { s₁ with heap := h, toks := tk, drawn := dr })
section
variable {prog : Program} {w : World} {A : Around} {E : Value → Shared → Prop} {s : Shared} {h₀ : Heap} {L : Addr} {m : Str → Option Value} {env : Env}
theorem eval_comp_D {elt iter : Expr} {ifs : List Expr} {x : Str} {px : Pos} {scope : Scope} {cl : List (Str × Addr)} {pos : Pos} {Q : Value → Shared → Prop} (F₀ : Fr h₀ L s.heap m)
    (hclos : closureFor scope env = pure cl) (hcell : ∀ y ∈ scope.names, y.2 ≠ .cell) (hkind : scope.kind = .function)
    (hnames : ∀ y ∈ scope.names, y.2 = .local → scope.names.lookup y.1 = some .local) (hx : scope.names.lookup x = some .local)
    (h : wpAny (model prog w) A (eval iter env) (SrcD prog w A h₀ L m env elt ifs x scope cl (fun D ys h tk dr s₁ => Q (.ref D) { s₁ with heap := h, toks := tk, drawn := dr })) E s)
    (hs : ∀ x, foldedSetIterable iter env x = pure x := by intro _; rfl) :
    wpAny (model prog w) A (eval (.ListComp elt [⟨.Name x px, iter, ifs, 0⟩] scope pos) env) Q E s := by
  rw [eval_ListComp]
  refine wpAny_comprehension_free (use := none) rfl hs hclos hkind hnames (wpAny_mono h (fun xv s₁ h₁ => ?_) fun _ _ e => e)
  obtain ⟨r, a, b, t, u, v, n, news, pz, R, rfl, hh, F, N, hr, hsm, hn, hsz, turn, fin⟩ := h₁
  refine wpAny_pyIter_range hr hsm ?_
  refine comp_core pz R (range_walks hh a n) hsz (fun i h st => ⟨_, st⟩) (fun i h h' o st e e' _ _ => by
    have st' : h.get? s₁.heap.objs.size = some _ := st
    show h'.get? s₁.heap.objs.size = some _
    rw [e', ← e]; exact st') hcell hkind hx (by show IsRangeIter _ _ _ _ _; rw [hn]; simpa using Heap.get?_push_size _ rfl) (fun b hb => ?_)
    (F.keeps fun _ _ e => Heap.get?_push_of_some _ e) (N.grown fun _ _ e => Heap.get?_push_of_some _ e) (Nat.ne_of_lt F.ns.lt) (next_is_new F) (fun p hp => Nat.ne_of_lt (Heap.lt_size (N p hp).1)) ?_ ?_
  · rw [List.mem_singleton.mp hb]
    show s₁.heap.objs.size < (s₁.heap.push _).objs.size
    rw [Heap.size_push]; exact Nat.lt_succ_self _
  · rintro i v C oI oC D ys m₂ h tk dr E' hi ⟨t, rfl⟩ hC hx' F' N' off ne
    exact turn i t _ C oI oC D ys m₂ h tk dr E' hi hC hx' F' N' off ne
  · intro D C h' tk dr m' ys F' N' o1 hn' hC₀ hD₀ hCL hDL hCD offC lD hcv
    refine ⟨m', hn', fun h'' hs'' => fin D ys h'' tk dr (F'.change hs'' hCL hC₀) (fun p hp => ?_) lD hcv⟩
    refine ⟨hs''.extBut _ _ ?_ (N' p hp).1, (N' p hp).2⟩
    rcases List.mem_cons.mp hp with rfl | hp
    · exact Ne.symm hCD
    · exact offC p hp
theorem assign_comp_D {elt iter : Expr} {ifs : List Expr} {x y : Str} {px py : Pos} {scope : Scope} {cl : List (Str × Addr)} {pos spos : Pos} {Q : Flow → Shared → Prop} (F₀ : Fr h₀ L s.heap m) (hLe : env.locals = L)
    (hsw : swapsWith (.ListComp elt [⟨.Name x px, iter, ifs, 0⟩] scope pos) (some (.Name y py)) spos.line env = pure true)
    (hclos : closureFor scope env = pure cl) (hcell : ∀ z ∈ scope.names, z.2 ≠ .cell) (hkind : scope.kind = .function)
    (hnames : ∀ z ∈ scope.names, z.2 = .local → scope.names.lookup z.1 = some .local) (hx : scope.names.lookup x = some .local)
    (hy : env.kindOf y = some .local) (hp : (env.scope.kind == .class || (env.scope.kind == .module && env.locals != env.globals)) = false)
    (h : wpAny (model prog w) A (eval iter env) (SrcA prog w A h₀ L m env elt ifs x y scope cl Q) E s)
    (hs : ∀ x, foldedSetIterable iter env x = pure x := by intro _; rfl) :
    wpAny (model prog w) A (exec (.Assign [.Name y py] (.ListComp elt [⟨.Name x px, iter, ifs, 0⟩] scope pos) spos) env) Q E s := by
  subst hLe
  rw [exec_Assign_Name_used _ _ _ _ hsw]
  refine wpAny_bind (wpAny_standAt (wpAny_bind ?_))
  show wpAny _ A (do let _ ← comprehension (.ListComp elt [⟨.Name x px, iter, ifs, 0⟩] scope pos) scope env _ (newList []) false (eval iter env) (some (assign (.Name y py) env))) _ _ s
  refine wpAny_bind (wpAny_mono (wpAny_comprehension_free (use := some (assign (.Name y py) env)) (Q := fun _ s' => Q .next s') rfl hs hclos hkind hnames
    (wpAny_mono h (fun xv s₁ h₁ => ?_) fun _ _ e => e)) (fun _ s' hq => wpAny_pure (wpAny_pure hq)) fun _ _ e => e)
  obtain ⟨r, a, b, t, u, v, n, news, pz, R, rfl, hh, F, N, hr, hsm, hn, hsz, turn, fin⟩ := h₁
  refine wpAny_pyIter_range hr hsm ?_
  refine comp_core pz R (range_walks hh a n) hsz (fun i h st => ⟨_, st⟩) (fun i h h' o st e e' _ _ => by
    have st' : h.get? s₁.heap.objs.size = some _ := st
    show h'.get? s₁.heap.objs.size = some _
    rw [e', ← e]; exact st') hcell hkind hx (by show IsRangeIter _ _ _ _ _; rw [hn]; simpa using Heap.get?_push_size _ rfl) (fun b hb => ?_)
    (F.keeps fun _ _ e => Heap.get?_push_of_some _ e) (N.grown fun _ _ e => Heap.get?_push_of_some _ e) (Nat.ne_of_lt F.ns.lt) (next_is_new F) (fun p hp => Nat.ne_of_lt (Heap.lt_size (N p hp).1)) ?_ ?_
  · rw [List.mem_singleton.mp hb]
    show s₁.heap.objs.size < (s₁.heap.push _).objs.size
    rw [Heap.size_push]; exact Nat.lt_succ_self _
  · rintro i v C oI oC D ys m₂ h tk dr E' hi ⟨t, rfl⟩ hC hx' F' N' off ne
    exact turn i t _ C oI oC D ys m₂ h tk dr E' hi hC hx' F' N' off ne
  · intro D C h' tk dr m' ys F' N' o1 hn' hC₀ hD₀ hCL hDL hCD offC lD hcv
    show wpAny _ A (assign (.Name y py) env (.ref D)) _ _ _
    refine wpAny_assign_Name (wpAny_storeName_local hy F'.ns (fun h₂ hn₂ hs₂ => ?_) hp)
    have hL₀ : h₀.get? env.locals = none := Heap.get?_none_of_le F'.above
    have F₂ : Fr h₀ env.locals h₂ (fun z => if z = y then some (.ref D) else m z) := ⟨hn₂, fun b o e => hs₂.extBut b o (fun q => by rw [q, hL₀] at e; cases e) (F'.keep b o e), F'.above⟩
    refine ⟨m', hn'.sameBut hs₂ hCL, fun h'' hs'' => fin D ys h'' _ dr (F₂.change hs'' hCL hC₀) (fun p hp => ?_) lD hcv⟩
    have z : h₂.get? p.1 = some p.2 := hs₂.extBut _ _ (N' p hp).2.1 (N' p hp).1
    refine ⟨hs''.extBut _ _ ?_ z, (N' p hp).2⟩
    rcases List.mem_cons.mp hp with rfl | hp
    · exact Ne.symm hCD
    · exact offC p hp
end
end Mine
end
noncomputable section
open PySem PySem.W PyProof.Rows PySem.Spec PySem.Calls
set_option linter.unusedVariables false
set_option linter.unusedSimpArgs false
set_option maxRecDepth 100000
namespace Mine
/-! a while whose frame and ledger follow a datum -/
noncomputable def VEnd {σ : Type} (h₀ : Heap) (L : Addr) (s : Shared) (Led : σ → List (Addr × Obj)) (stored : List Str) (m₀ : σ → Str → Option Value) (P : σ → Prop) (μ : σ → Nat) (c : σ) (s₂ : Shared) : Prop :=
  ∃ (c' : σ) (h' : Heap) (tk : Nat) (dr : Drawn) (m' : Str → Option Value) (news' : List (Addr × Obj)), s₂ = { s with heap := h', toks := tk, drawn := dr } ∧ Fr h₀ L h' m' ∧ News h₀ L h' news' ∧ (∀ p ∈ Led c', p ∈ news') ∧ (∀ z, stored.contains z = false → m' z = m₀ c' z) ∧ P c' ∧ μ c' < μ c
noncomputable def VPost {σ : Type} (h₀ : Heap) (L : Addr) (s : Shared) (Led : σ → List (Addr × Obj)) (stored : List Str) (m₀ : σ → Str → Option Value) (P : σ → Prop) (μ : σ → Nat) (Q : Flow → Shared → Prop) (c : σ) (f : Flow) (s₂ : Shared) : Prop :=
  match f with
  | .ret v => Q (.ret v) s₂
  | .brk => Q .next s₂
  | _ => VEnd h₀ L s Led stored m₀ P μ c s₂
section
variable {prog : Program} {w : World} {A : Around} {E : Value → Shared → Prop} {Q : Flow → Shared → Prop} {s : Shared} {env : Env} {h₀ : Heap} {L : Addr}
theorem while_c {σ : Type} {test : Expr} {body : List Stmt} {pos : Pos} {m₀ : σ → Str → Option Value} (Led : σ → List (Addr × Obj)) (stored : List Str) (P : σ → Prop) (μ : σ → Nat) (c₀ : σ)
    (F : Fr h₀ L s.heap (m₀ c₀)) (N : News h₀ L s.heap (Led c₀)) (hp : P c₀)
    (turn : ∀ (c : σ) (u : Str → Option Value) h tk dr, P c → Fr h₀ L h (fun z => if stored.contains z then u z else m₀ c z) → News h₀ L h (Led c) →
      wpAny (model prog w) A (isTrue test env (eval test env)) (fun b s₂ =>
        if b = true then wpAny (model prog w) A (execs body env) (VPost h₀ L s Led stored m₀ P μ Q c) E s₂ else Q .next s₂) E { s with heap := h, toks := tk, drawn := dr })
    (hE : PassesOwn (model prog w) A env E := by passes_own) :
    wpAny (model prog w) A (exec (.While test body [] pos) env) Q E s := by
  refine wpAny_While (codeAny_whileLoop (fun n s' => ∃ c h₁ tk₁ dr₁ m₁, s' = { s with heap := h₁, toks := tk₁, drawn := dr₁ } ∧ Fr h₀ L h₁ m₁ ∧ News h₀ L h₁ (Led c) ∧ μ c = n ∧ (∀ z, stored.contains z = false → m₁ z = m₀ c z) ∧ P c) ?_ (μ c₀) ⟨c₀, s.heap, s.toks, s.drawn, m₀ c₀, rfl, F, N, rfl, fun _ _ => rfl, hp⟩)
  rintro n s' ⟨c, h₁, tk₁, dr₁, m₁, rfl, F₁, N₁, hn, hm, hp'⟩
  have em : (fun z => if stored.contains z = true then m₁ z else m₀ c z) = m₁ := by
    funext y
    cases h3 : stored.contains y with
    | true => simp
    | false => simp only [Bool.false_eq_true, if_false]; exact (hm y h3).symm
  refine wpAny_mono (turn c m₁ h₁ tk₁ dr₁ hp' (by rw [em]; exact F₁) N₁) (fun b s₂ h₂ => ?_) hE
  cases b with
  | false =>
    simp only [Bool.false_eq_true, if_false] at h₂ ⊢
    exact wpAny_execs_nil h₂
  | true =>
    simp only [if_true] at h₂ ⊢
    refine wpAny_mono h₂ (fun f s₃ h₃ => ?_) hE
    cases f with
    | next =>
      obtain ⟨c', h', tk, dr, m', news', rfl, F', N', hl, hz, hp9, hμ⟩ := h₃
      exact ⟨μ c', hn ▸ hμ, c', h', tk, dr, m', rfl, F', fun p hp => N' p (hl p hp), rfl, hz, hp9⟩
    | cont =>
      obtain ⟨c', h', tk, dr, m', news', rfl, F', N', hl, hz, hp9, hμ⟩ := h₃
      exact ⟨μ c', hn ▸ hμ, c', h', tk, dr, m', rfl, F', fun p hp => N' p (hl p hp), rfl, hz, hp9⟩
    | brk => exact h₃
    | ret v => exact h₃
end
end Mine
end
noncomputable section
open PySem PySem.W PyProof.Rows PySem.Spec PySem.Calls
set_option linter.unusedVariables false
set_option linter.unusedSimpArgs false
set_option maxRecDepth 100000
namespace Mine
/-! the law's texts: p times f, q times s, r times k -/
noncomputable def txL (p q r : Nat) : List Nat := List.replicate p 102 ++ List.replicate q 115 ++ List.replicate r 107
noncomputable def tx (p q r : Nat) : Str := ⟨(txL p q r).toArray⟩
noncomputable def chAt (p q i : Nat) : Nat := if i < p then 102 else if i < p + q then 115 else 107
noncomputable def pz (p q r i : Nat) : Bool := i + 1 == p || i + 1 == p + q || i + 1 == p + q + r
noncomputable def skL (p q r : Nat) : List Nat := (List.range (p + q + r)).filter (pz p q r)
noncomputable def trips : List (Nat × Nat × Nat) := [0, 1, 2, 3].flatMap fun p => [0, 1, 2].flatMap fun a => [0, 1].map fun b => (p, p + a, p + a + b)
theorem trips_down : ∀ t ∈ trips, (t.1 - 1, t.2.1 - 1, t.2.2 - 1) ∈ trips := by decide +kernel
theorem trips_len : ∀ t ∈ trips, t.1 + t.2.1 + t.2.2 ≤ 14 := by decide +kernel
theorem tx_len (p q r : Nat) : (tx p q r).length = p + q + r := by
  show (txL p q r).toArray.size = _
  simp [txL]
  omega
theorem rng_ok {n : Nat} (h : n ≤ 14) : Builtin.Range.small 0 (n : Int) 1 = true ∧ Builtin.Range.rangeSize 0 (n : Int) 1 = ((n : Nat) : Int) ∧ n ≤ sizeLine := by
  have := (by decide +kernel : ∀ n ∈ List.range 15, Builtin.Range.small 0 ((n : Nat) : Int) 1 = true ∧ Builtin.Range.rangeSize 0 ((n : Nat) : Int) 1 = ((n : Nat) : Int)) n (List.mem_range.mpr (by omega))
  exact ⟨this.1, this.2, by rw [sizeLine_eq]; omega⟩
theorem test_ok : ∀ t ∈ trips, ∀ i ∈ List.range 14, i < t.1 + t.2.1 + t.2.2 →
    (Txt.slice (tx t.1 t.2.1 t.2.2) (some (0 + (i : Int))) (some (0 + (i : Int) + 2)) != Txt.mul (Txt.item (tx t.1 t.2.1 t.2.2) (0 + (i : Int))) 2) = pz t.1 t.2.1 t.2.2 i := by decide +kernel
theorem test_at {p q r i : Nat} (ht : (p, q, r) ∈ trips) (hi : i < p + q + r) (hl : p + q + r ≤ 14) : (Txt.slice (tx p q r) (some (0 + (i : Int))) (some (0 + (i : Int) + 2)) != Txt.mul (Txt.item (tx p q r) (0 + (i : Int))) 2) = pz p q r i :=
  test_ok (p, q, r) ht i (List.mem_range.mpr (by omega)) hi
theorem cv_ints {is : List Nat} {ys : List Value} (h : CV (fun i y => ∃ t, y = .int (i : Int) t) is ys) : IntsAre ys (is.map fun (n : Nat) => (n : Int)) := by
  induction h with
  | nil => exact IntsAre.nil
  | snoc _ hr ih =>
    obtain ⟨t, rfl⟩ := hr
    rw [List.map_append]
    exact IntsAre.append ih (IntsAre.cons _ _ IntsAre.nil)
noncomputable def vlC (v : Int) (i : Nat) : Nat := [173, 8203, 65279].getD (((i : Int) + v) % 3).toNat 0
noncomputable def pageS (v : Int) (p q r i : Nat) : Str := ⟨#[if pz p q r i then vlC v i else chAt p q i]⟩
theorem l_in {prog : Program} {w : World} {A : Around} {E : Value → Shared → Prop} {s : Shared} {h₀ : Heap} {L l : Addr} {news : List (Addr × Obj)} {vs : List Value} {c : Nat} {ns : List Int} {k : Int} {u : Tok} {b : Bool} {Q : Value → Shared → Prop}
    (N : News h₀ L s.heap news) (hm : (l, listOf vs.toArray c) ∈ news) (hi : IntsAre vs ns) (hb : ns.any (· == k) = b) (h : Q (.bool b) s) : wpAny (model prog w) A (compareOp .In (.int k u) (.ref l)) Q E s :=
  in_list_ints (isList_of (N _ hm).1) hi (by rw [hb]; exact h)
theorem sk_any_ok : ∀ t ∈ trips, ∀ i ∈ List.range 14, i < t.1 + t.2.1 + t.2.2 → (ofNats (skL t.1 t.2.1 t.2.2)).any (· == (0 + (i : Int))) = pz t.1 t.2.1 t.2.2 i := by decide +kernel
theorem sk_any {p q r i : Nat} (ht : (p, q, r) ∈ trips) (hi : i < p + q + r) (hl : p + q + r ≤ 14) : (ofNats (skL p q r)).any (· == (0 + (i : Int))) = pz p q r i :=
  sk_any_ok (p, q, r) ht i (List.mem_range.mpr (by omega)) hi
theorem tx_item_ok : ∀ t ∈ trips, ∀ i ∈ List.range 14, i < t.1 + t.2.1 + t.2.2 → Txt.item (tx t.1 t.2.1 t.2.2) (0 + (i : Int)) = ⟨#[chAt t.1 t.2.1 i]⟩ := by decide +kernel
theorem tx_item {p q r i : Nat} (ht : (p, q, r) ∈ trips) (hi : i < p + q + r) (hl : p + q + r ≤ 14) : Txt.item (tx p q r) (0 + (i : Int)) = ⟨#[chAt p q i]⟩ :=
  tx_item_ok (p, q, r) ht i (List.mem_range.mpr (by omega)) hi
theorem veil_item (v : Int) (i : Nat) : Txt.item (Str.ofString "\u00ad\u200b\ufeff") ((0 + (i : Int) + v).fmod 3) = ⟨#[vlC v i]⟩ := by
  have e : (0 + (i : Int) + v).fmod 3 = ((i : Int) + v) % 3 := by rw [Int.zero_add]; exact Int.fmod_eq_emod_of_nonneg _ (by decide)
  rw [e]
  unfold vlC
  have : ((i : Int) + v) % 3 = 0 ∨ ((i : Int) + v) % 3 = 1 ∨ ((i : Int) + v) % 3 = 2 := by omega
  rcases this with h | h | h <;> rw [h] <;> decide +kernel
/-- one place of the pass -/
noncomputable def stepE (p q r : Nat) (xs : List Int) (st : Int × List Int × List (PyData × PyData)) (i : Nat) : Int × List Int × List (PyData × PyData) :=
  if pz p q r i then (st.1, st.2.1, PyProof.V.putD (.str ⟨#[chAt p q i]⟩) (.int (xs.getD i 0)) st.2.2)
  else (st.1 + xs.getD i 0, st.2.1 ++ [st.1 + xs.getD i 0], st.2.2)
noncomputable def stJ (p q r : Nat) (xs : List Int) (T : List (PyData × PyData)) (j : Nat) : Int × List Int × List (PyData × PyData) := (List.range j).foldl (stepE p q r xs) (0, [], T)
theorem stJ_succ (p q r : Nat) (xs : List Int) (T : List (PyData × PyData)) (j : Nat) : stJ p q r xs T (j + 1) = stepE p q r xs (stJ p q r xs T j) j := by
  unfold stJ
  rw [List.range_succ, List.foldl_append]
  rfl
noncomputable def goE : Nat → Nat → Nat → List Int → List (PyData × PyData) → List (PyData × PyData)
  | 0, _, _, _, T => T
  | r + 1, p, q, xs, T => goE r (p - 1) (q - 1) (stJ p q (r + 1) xs T (p + q + (r + 1))).2.1 (stJ p q (r + 1) xs T (p + q + (r + 1))).2.2
end Mine
end
noncomputable section
open PySem PySem.W PyProof.Rows PySem.Spec PySem.Calls
set_option linter.unusedVariables false
set_option linter.unusedSimpArgs false
set_option maxRecDepth 100000
namespace Mine
theorem cv_strs {f : Nat → Str} {is : List Nat} {ys : List Value} (h : CV (fun i y => ∃ t, y = .str (f i) t) is ys) : StrsAre ys (is.map f) := by
  induction h with
  | nil => exact StrsAre.nil
  | snoc _ hr ih =>
    obtain ⟨t, rfl⟩ := hr
    rw [List.map_append]
    exact StrsAre.append' ih (StrsAre.cons _ _ StrsAre.nil)
theorem cv_all {R : Nat → Value → Prop} {n : Nat} {ys : List Value} (h : CV R ((List.range n).filter fun _ => true) ys) : CV R (List.range n) ys := by
  rw [List.filter_eq_self.mpr (fun _ _ => rfl)] at h
  exact h
noncomputable def pgL (v : Int) (p q r : Nat) : List Str := (List.range (p + q + r)).map (pageS v p q r)
noncomputable def pg (v : Int) (p q r : Nat) : Str := Txt.join (Str.ofString "") (pgL v p q r)
theorem glue_fold : ∀ (rest : List Str) (acc : Array Nat), (rest.foldl (fun acc p => acc ++ (Str.ofString "").cps ++ p.cps) acc).toList = acc.toList ++ rest.flatMap (·.cps.toList)
  | [], acc => by simp
  | x :: rest, acc => by
    rw [List.foldl_cons, glue_fold rest]
    have : (Str.ofString "").cps = #[] := rfl
    rw [this]
    simp
theorem join_toList : ∀ l : List Str, (Txt.join (Str.ofString "") l).cps.toList = l.flatMap (·.cps.toList)
  | [] => rfl
  | x :: rest => by
    show (rest.foldl (fun acc p => acc ++ (Str.ofString "").cps ++ p.cps) x.cps).toList = _
    rw [glue_fold]
    rfl
noncomputable def flc (c : Nat) : List Nat := if pzN ⟨#[c]⟩ then (b3r ⟨#[c]⟩).cps.toList else []
theorem flat_eq (x : Str) : flat x = x.cps.toList.flatMap flc := by
  show ((((x.cps.toList.map fun c => (⟨#[c]⟩ : Str)).filter pzN).map b3r).flatMap fun y => y.cps.toList) = _
  induction x.cps.toList with
  | nil => rfl
  | cons c cs ih =>
    rw [List.map_cons, List.filter_cons, List.flatMap_cons, ← ih]
    unfold flc
    by_cases h : pzN ⟨#[c]⟩ = true
    · rw [if_pos h, if_pos h, List.map_cons, List.flatMap_cons]
    · rw [if_neg h, if_neg h]; rfl
theorem prep_toList (x : Str) : (prep x).cps.toList = flat x := join_toList _
theorem prepL_len (x : Str) : (prepL x).length ≤ x.length := by
  show ((((x.cps.toList.map fun c => (⟨#[c]⟩ : Str)).filter pzN).map b3r)).length ≤ _
  rw [List.length_map]
  refine Nat.le_trans (List.length_filter_le _ _) ?_
  rw [List.length_map]
  exact Nat.le_of_eq (by simp [Str.length])
theorem prepL_sum (x : Str) : ((prepL x).map (·.length)).sum = (flat x).length := by
  unfold flat
  rw [List.length_flatMap]
  congr 1
theorem flc_v (v : Int) (i : Nat) : flc (vlC v i) = [] := by
  have : ((i : Int) + v) % 3 = 0 ∨ ((i : Int) + v) % 3 = 1 ∨ ((i : Int) + v) % 3 = 2 := by omega
  unfold vlC
  rcases this with h | h | h <;> rw [h] <;> kernel_rfl!
theorem flc_c (p q i : Nat) : flc (chAt p q i) = [chAt p q i] := by
  have a : flc 102 = [102] := by kernel_rfl!
  have b : flc 115 = [115] := by kernel_rfl!
  have c : flc 107 = [107] := by kernel_rfl!
  unfold chAt
  by_cases h : i < p
  · rw [if_pos h]; exact a
  · rw [if_neg h]
    by_cases h : i < p + q
    · rw [if_pos h]; exact b
    · rw [if_neg h]; exact c
noncomputable def dropL (p q r : Nat) : List Nat := (List.range (p + q + r)).flatMap fun i => if pz p q r i then [] else [chAt p q i]
theorem dropL_ok : ∀ t ∈ trips, 1 ≤ t.2.2 → dropL t.1 t.2.1 t.2.2 = txL (t.1 - 1) (t.2.1 - 1) (t.2.2 - 1) := by decide +kernel
theorem flat_pg (v : Int) (p q r : Nat) : flat (pg v p q r) = dropL p q r := by
  rw [flat_eq]
  unfold pg
  rw [join_toList]
  unfold pgL dropL
  rw [List.flatMap_assoc, List.flatMap_map]
  congr 1
  funext i
  show List.flatMap flc [if pz p q r i then vlC v i else chAt p q i] = _
  rw [List.flatMap_cons, List.flatMap_nil, List.append_nil]
  by_cases h : pz p q r i = true
  · rw [if_pos h, if_pos h]; exact flc_v v i
  · rw [if_neg h, if_neg h]; exact flc_c p q i
theorem prep_pg {v : Int} {p q r : Nat} (ht : (p, q, r) ∈ trips) (hr : 1 ≤ r) : prep (pg v p q r) = tx (p - 1) (q - 1) (r - 1) := by
  have h1 : (prep (pg v p q r)).cps.toList = txL (p - 1) (q - 1) (r - 1) := by
    rw [prep_toList, flat_pg]; exact dropL_ok (p, q, r) ht hr
  have h2 : (prep (pg v p q r)).cps = (txL (p - 1) (q - 1) (r - 1)).toArray := by rw [← h1]
  show (⟨(prep (pg v p q r)).cps⟩ : Str) = _
  rw [h2]
  rfl
theorem sum_ones : ∀ l : List Nat, (l.map fun _ => 1).sum = l.length
  | [] => rfl
  | _ :: l => by
    show 1 + (l.map fun _ => 1).sum = l.length + 1
    rw [sum_ones l]
    omega
theorem pgL_one (v : Int) (p q r : Nat) : ((pgL v p q r).map (·.length)).sum = p + q + r := by
  unfold pgL
  rw [List.map_map]
  have : ((fun x : Str => x.length) ∘ pageS v p q r) = fun _ => 1 := rfl
  rw [this, sum_ones, List.length_range]
theorem pg_len (v : Int) (p q r : Nat) : (pg v p q r).length = p + q + r := by
  show (pg v p q r).cps.size = _
  rw [← Array.length_toList]
  unfold pg
  rw [join_toList, List.length_flatMap]
  exact pgL_one v p q r
theorem pg_ok {v : Int} {p q r : Nat} (hl : p + q + r ≤ 14) : ((pgL v p q r).map (·.length)).sum + (pgL v p q r).length * 64 ≤ 16777216 := by
  rw [pgL_one]
  unfold pgL
  rw [List.length_map, List.length_range]
  omega
theorem pg_ok2 {v : Int} {p q r : Nat} (ht : (p, q, r) ∈ trips) (hr : 1 ≤ r) (hl : p + q + r ≤ 14) : ((prepL (pg v p q r)).map (·.length)).sum + (prepL (pg v p q r)).length * 64 ≤ 16777216 := by
  have h1 := prepL_len (pg v p q r)
  rw [pg_len] at h1
  rw [prepL_sum, flat_pg, dropL_ok (p, q, r) ht hr]
  have : (txL (p - 1) (q - 1) (r - 1)).length ≤ 14 := by unfold txL; simp; omega
  dsimp only
  omega
theorem lev_ok : ∀ t ∈ trips, 1 ≤ t.2.2 → lev (tx t.1 t.2.1 t.2.2) (tx (t.1 - 1) (t.2.1 - 1) (t.2.2 - 1)) (2 * ((skL t.1 t.2.1 t.2.2).length : Int)) = 2 * ((skL t.1 t.2.1 t.2.2).length : Int) := by decide +kernel
theorem levL_ok : ∀ t ∈ trips, 1 ≤ t.2.2 →
    (cutS (Txt.slice (tx (t.1 - 1) (t.2.1 - 1) (t.2.2 - 1)) (some (preF (tx t.1 t.2.1 t.2.2) (tx (t.1 - 1) (t.2.1 - 1) (t.2.2 - 1)))) none) (postF (Txt.slice (tx t.1 t.2.1 t.2.2) (some (preF (tx t.1 t.2.1 t.2.2) (tx (t.1 - 1) (t.2.1 - 1) (t.2.2 - 1)))) none) (Txt.slice (tx (t.1 - 1) (t.2.1 - 1) (t.2.2 - 1)) (some (preF (tx t.1 t.2.1 t.2.2) (tx (t.1 - 1) (t.2.1 - 1) (t.2.2 - 1)))) none))).length
      < (cutS (Txt.slice (tx t.1 t.2.1 t.2.2) (some (preF (tx t.1 t.2.1 t.2.2) (tx (t.1 - 1) (t.2.1 - 1) (t.2.2 - 1)))) none) (postF (Txt.slice (tx t.1 t.2.1 t.2.2) (some (preF (tx t.1 t.2.1 t.2.2) (tx (t.1 - 1) (t.2.1 - 1) (t.2.2 - 1)))) none) (Txt.slice (tx (t.1 - 1) (t.2.1 - 1) (t.2.2 - 1)) (some (preF (tx t.1 t.2.1 t.2.2) (tx (t.1 - 1) (t.2.1 - 1) (t.2.2 - 1)))) none))).length
    ∧ postF (Txt.slice (tx t.1 t.2.1 t.2.2) (some (preF (tx t.1 t.2.1 t.2.2) (tx (t.1 - 1) (t.2.1 - 1) (t.2.2 - 1)))) none) (Txt.slice (tx (t.1 - 1) (t.2.1 - 1) (t.2.2 - 1)) (some (preF (tx t.1 t.2.1 t.2.2) (tx (t.1 - 1) (t.2.1 - 1) (t.2.2 - 1)))) none) ≤ 0
    ∧ (cutS (Txt.slice (tx t.1 t.2.1 t.2.2) (some (preF (tx t.1 t.2.1 t.2.2) (tx (t.1 - 1) (t.2.1 - 1) (t.2.2 - 1)))) none) (postF (Txt.slice (tx t.1 t.2.1 t.2.2) (some (preF (tx t.1 t.2.1 t.2.2) (tx (t.1 - 1) (t.2.1 - 1) (t.2.2 - 1)))) none) (Txt.slice (tx (t.1 - 1) (t.2.1 - 1) (t.2.2 - 1)) (some (preF (tx t.1 t.2.1 t.2.2) (tx (t.1 - 1) (t.2.1 - 1) (t.2.2 - 1)))) none))).length ≤ 14 := by decide +kernel
theorem c_levE {w mean mg mb} {p q r : Nat} (t1 t2 t3 : Tok) (news) (ht : (p, q, r) ∈ trips) (hr : 1 ≤ r) (hl : p + q + r ≤ 14) :
    Ctr w mean mg mb 3 30 109 [.str (tx p q r) t1, .str (tx (p - 1) (q - 1) (r - 1)) t2, .int (2 * ((skL p q r).length : Int)) t3] news (RetV news fun t => .int (2 * ((skL p q r).length : Int)) t) := by
  have h := levL_ok (p, q, r) ht hr
  have hs : (skL p q r).length ≤ 14 := by
    unfold skL
    refine Nat.le_trans (List.length_filter_le _ _) ?_
    rw [List.length_range]
    exact hl
  have c := @c_lev w mean mg mb (tx p q r) (tx (p - 1) (q - 1) (r - 1)) (2 * ((skL p q r).length : Int)) t1 t2 t3 news ⟨by rw [tx_len]; exact hl, by rw [tx_len]; omega, by omega, by omega⟩ _ _ _ _ ⟨rfl, rfl, ⟨rfl, rfl⟩, h.1, h.2.1, h.2.2⟩
  rw [lev_ok (p, q, r) ht hr] at c
  exact c
theorem c_prepE {w mean mg mb} {v : Int} {p q r : Nat} (t1 : Tok) (news) (ht : (p, q, r) ∈ trips) (hr : 1 ≤ r) (hl : p + q + r ≤ 14) : Ctr w mean mg mb 3 30 114 [.str (pg v p q r) t1] news (RetV news fun t => .str (tx (p - 1) (q - 1) (r - 1)) t) := by
  have c := @c_prep w mean mg mb (pg v p q r) t1 news (by rw [pg_len]; omega) (pg_ok2 ht hr hl)
  rw [prep_pg ht hr] at c
  exact c
/-! the places of the pass -/
noncomputable def ahd (p q r i : Nat) : Nat := cnt (i : Int) (ofNats (skL p q r))
theorem sk_sort : ∀ t ∈ trips, (ofNats (skL t.1 t.2.1 t.2.2)).Pairwise (· ≤ ·) := by decide +kernel
theorem sk_len {p q r : Nat} (hl : p + q + r ≤ 14) : (ofNats (skL p q r)).length ≤ 14 := by
  unfold ofNats skL
  rw [List.length_map]
  refine Nat.le_trans (List.length_filter_le _ _) ?_
  rw [List.length_range]
  exact hl
theorem sums_ok : ∀ t ∈ trips, ∀ i ∈ List.range 14, i < t.1 + t.2.1 + t.2.2 → ((List.range i).filter fun j => !(pz t.1 t.2.1 t.2.2 j)).length + ahd t.1 t.2.1 t.2.2 i = i := by decide +kernel
theorem left_ok : ∀ t ∈ trips, 1 ≤ t.2.2 → ∀ i ∈ List.range 14, i < t.1 + t.2.1 + t.2.2 → pz t.1 t.2.1 t.2.2 i = false → Txt.item (tx (t.1 - 1) (t.2.1 - 1) (t.2.2 - 1)) ((((List.range i).filter fun j => !(pz t.1 t.2.1 t.2.2 j)).length : Nat) : Int) = ⟨#[chAt t.1 t.2.1 i]⟩ ∧ ((List.range i).filter fun j => !(pz t.1 t.2.1 t.2.2 j)).length < t.1 - 1 + (t.2.1 - 1) + (t.2.2 - 1) := by decide +kernel
theorem sums_len (p q r : Nat) (xs : List Int) (T : List (PyData × PyData)) : ∀ j, (stJ p q r xs T j).2.1.length = ((List.range j).filter fun j => !(pz p q r j)).length
  | 0 => rfl
  | j + 1 => by
    rw [stJ_succ, List.range_succ, List.filter_append, List.length_append, ← sums_len p q r xs T j]
    unfold stepE
    by_cases h : pz p q r j = true
    · rw [if_pos h]; simp [h]
    · rw [if_neg h]; simp [Bool.not_eq_true _ |>.mp h]
end Mine
end
noncomputable section
open PySem PySem.W PyProof.Rows PySem.Spec PySem.Calls
set_option linter.unusedVariables false
set_option linter.unusedSimpArgs false
set_option maxRecDepth 100000
namespace Mine
section
variable {prog : Program} {w : World} {A : Around} {E : Value → Shared → Prop} {s : Shared} {h₀ : Heap} {L l d : Addr} {m : Str → Option Value} {news : List (Addr × Obj)} {vs : List Value} {c : Nat} {ns : List Int} {Q : Value → Shared → Prop}
theorem l_len {k : Nat} (N : News h₀ L s.heap news) (hm : (l, listOf vs.toArray c) ∈ news) (hi : IntsAre vs ns) (hk : ns.length = k) (hb : k ≤ 100) (h : Q (.int (k : Int) (s.toks + 1)) { s with toks := s.toks + 1 + 1 }) :
    wpAny (model prog w) A (call (.builtin "len") [.ref l]) Q E s := by
  have e : vs.toArray.size = k := by rw [List.size_toArray, hi.length, hk]
  refine len_list (isList_of (N _ hm).1) (by rw [e]; omega) ?_
  rw [e]
  exact h
theorem d_setS {T : List (PyData × PyData)} {o : Obj} {x : Str} {tk : Tok} {v : Int} {tv : Tok} {g : Obj → List (Addr × Obj)} {Q : Unit → Shared → Prop} (F : Fr h₀ L s.heap m) (N : News h₀ L s.heap news) (U : UpdF d o news g) (t : TabOf (PySem.strKind prog w) PyData.str o T) (hsz : T.length ≤ 300)
    (h : ∀ h' o', Fr h₀ L h' m → News h₀ L h' (g o') → TabOf (PySem.strKind prog w) PyData.str o' (PyProof.V.putD (.str x) (.int v) T) → Q () { s with heap := h', toks := s.toks + 1 }) :
    wpAny (model prog w) A (setItem (.ref d) (.str x tk) (.int v tv)) Q E s := by
  obtain ⟨pre, post, rfl, hg, a, b⟩ := U.split
  exact setItem_pairJ (hsz := by rw [sizeLine_eq]; omega) PyProof.V.same_str (strKind_is _ _ _ _) (PyProof.V.Flat.int v tv) F N a b t fun h' o' F' N' t' => h h' o' F' (hg o' ▸ N') t'
theorem l_slice {value slice : PySem.Expr} {vl vu : Value} {lo hi : Option Int} (F : Fr h₀ L s.heap m) (N : News h₀ L s.heap news) (hm : (l, listOf vs.toArray c) ∈ news) (pl : IsPart vl lo) (pu : IsPart vu hi) (hi' : IntsAre vs ns) (hn : ns.length ≤ 100)
    (h : ∀ D ws h', Fr h₀ L h' m → News h₀ L h' ((D, listOf (List.toArray ws) 0) :: news) → (∀ p ∈ news, p.1 < D) → IntsAre ws (pickNums ns lo hi none) → Q (.ref D) { s with heap := h' })
    (hs : subscripted slice false (.ref l) (.ref s.heap.objs.size) = operate [.ref s.heap.objs.size, .ref l] (getItem (.ref l) (.ref s.heap.objs.size))) (ht : ∀ r, letTemporaryGo value (.ref l) r = pure ()) :
    wpAny (model prog w) A (subscriptTail value slice (.ref l) (.ref s.heap.objs.size)) Q E { s with heap := s.heap.push { cls := .type "slice", data := .fields #[vl, vu, .none] } } :=
  kmk_slice_ints F N (isList_of (N _ hm).1) pl pu hi' (IntsAre.pick hi' lo hi none) rfl (fun D ws h' F' N' l1 hw _ _ => h D ws h' F' N' l1 hw) hs ht (by rw [List.size_toArray, hi'.length, sizeLine_eq]; omega)
theorem l_eq {l' : Addr} {vs' : List Value} {c' : Nat} {ns' : List Int} {b : Bool} (N : News h₀ L s.heap news) (hm : (l, listOf vs.toArray c) ∈ news) (hi : IntsAre vs ns) (hm' : (l', listOf vs'.toArray c') ∈ news) (hi' : IntsAre vs' ns') (hu : A.units + 64 < cLine) (hb : decide (ns = ns') = b) (h : Q (.bool b) s) :
    wpAny (model prog w) A (compareOp .Eq (.ref l) (.ref l')) Q E s :=
  ke_eq_ints (isList_of (N _ hm).1) (isList_of (N _ hm').1) hi hi' hu (by rw [hb]; exact h)
end
theorem pickE_ok : ∀ t ∈ trips, ∀ i ∈ List.range 14, i < t.1 + t.2.1 + t.2.2 → decide (pickNums (ofNats (skL t.1 t.2.1 t.2.2)) (some (ahd t.1 t.2.1 t.2.2 i : Int)) (some ((ahd t.1 t.2.1 t.2.2 i : Int) + 1)) none = [0 + (i : Int)]) = pz t.1 t.2.1 t.2.2 i := by decide +kernel
theorem pick_at {p q r i : Nat} (ht : (p, q, r) ∈ trips) (hi : i < p + q + r) (hl : p + q + r ≤ 14) : decide (pickNums (ofNats (skL p q r)) (some (ahd p q r i : Int)) (some ((ahd p q r i : Int) + 1)) none = [0 + (i : Int)]) = pz p q r i :=
  pickE_ok (p, q, r) ht i (List.mem_range.mpr (by omega)) hi
noncomputable def nkeep (p q r i : Nat) : Nat := ((List.range i).filter fun j => !(pz p q r j)).length
theorem nkeep_at {p q r i : Nat} (ht : (p, q, r) ∈ trips) (hi : i < p + q + r) (hl : p + q + r ≤ 14) : nkeep p q r i + ahd p q r i = i := sums_ok (p, q, r) ht i (List.mem_range.mpr (by omega)) hi
theorem left_at {p q r i : Nat} (ht : (p, q, r) ∈ trips) (hr : 1 ≤ r) (hi : i < p + q + r) (hl : p + q + r ≤ 14) (hz : pz p q r i = false) : Txt.item (tx (p - 1) (q - 1) (r - 1)) (nkeep p q r i : Int) = ⟨#[chAt p q i]⟩ ∧ nkeep p q r i < p - 1 + (q - 1) + (r - 1) := left_ok (p, q, r) ht hr i (List.mem_range.mpr (by omega)) hi hz
theorem nkeep_end_ok : ∀ t ∈ trips, nkeep t.1 t.2.1 t.2.2 (t.1 + t.2.1 + t.2.2) = t.1 - 1 + (t.2.1 - 1) + (t.2.2 - 1) := by decide +kernel
theorem stT_len (p q r : Nat) (xs : List Int) (T : List (PyData × PyData)) : ∀ j, (stJ p q r xs T j).2.2.length ≤ T.length + j
  | 0 => Nat.le_refl _
  | j + 1 => by
    rw [stJ_succ]
    have ih := stT_len p q r xs T j
    unfold stepE
    by_cases h : pz p q r j = true
    · rw [if_pos h]
      have := PyProof.V.putD_length_le (.str ⟨#[chAt p q j]⟩) (.int (xs.getD j 0)) (stJ p q r xs T j).2.2
      dsimp only
      omega
    · rw [if_neg h]
      dsimp only
      omega
theorem iter_rangeW {σ : Type} {prog : Program} {w : World} {A : Around} {E : Value → Shared → Prop} {s : Shared} {env : Env} {h₀ : Heap} {x : Str} {body : List Stmt} {Q : Flow → Shared → Prop}
    {r : Addr} {a₀ b₀ : Int} {t₀ u₀ v₀ : Tok} {n : Nat} {m₀ : Str → Option Value} (y : Str) (tv : σ → Int) (tt : σ → Tok) (Led : σ → List (Addr × Obj)) (stored : List Str) (Pj : Nat → σ → Prop) (c₀ : σ) (hh : A.handled = none)
    (hr : IsRange s.heap r a₀ b₀ 1 t₀ u₀ v₀) (hsmall : Builtin.Range.small a₀ b₀ 1 = true) (hn : Builtin.Range.rangeSize a₀ b₀ 1 = (n : Int)) (hx : env.kindOf x = some .local) (hp : (env.scope.kind == .class || (env.scope.kind == .module && env.locals != env.globals)) = false)
    (F : Fr h₀ env.locals s.heap (fun z => if z = y then some (.int (tv c₀) (tt c₀)) else m₀ z)) (N : News h₀ env.locals s.heap (Led c₀)) (hadr : ∀ c, (Led c).map (·.1) = (Led c₀).map (·.1)) (h0 : Pj 0 c₀)
    (turn : ∀ (i : Nat) t c (u : Str → Option Value) I oI h tk dr, i < n → (∀ p ∈ Led c, p.1 < I) → Pj i c → Fr h₀ env.locals h (fun z => if z = x then some (.int (a₀ + (i : Int)) t) else if stored.contains z then u z else if z = y then some (.int (tv c) (tt c)) else m₀ z) → News h₀ env.locals h ((I, oI) :: Led c) →
      wpAny (model prog w) A (execs body env) (LPost h₀ env.locals { s with heap := h, toks := tk, drawn := dr } I oI Led (x :: stored) (fun c z => if z = y then some (.int (tv c) (tt c)) else m₀ z) (Pj (i + 1)) Q) E { s with heap := h, toks := tk, drawn := dr })
    (done : ∀ c (u : Str → Option Value) h tk dr, Pj n c → Fr h₀ env.locals h (fun z => if (x :: stored).contains z then u z else if z = y then some (.int (tv c) (tt c)) else m₀ z) → News h₀ env.locals h (Led c) → Q .next { s with heap := h, toks := tk, drawn := dr })
    (hE : PassesOwn (model prog w) A env E := by passes_own) : wpAny (model prog w) A (pyIter (.ref r)) (fun it s₂ => LoopD prog w A env x body Q E it s₂) E s :=
  iter_rangeD (m₀ := fun c z => if z = y then some (.int (tv c) (tt c)) else m₀ z) Led stored Pj c₀ hh hr hsmall hn hx hp F N hadr h0 turn done hE
theorem news_lt {h₀ h : Heap} {L : Addr} {news : List (Addr × Obj)} (N : News h₀ L h news) : ∀ p ∈ news, p.1 < h.objs.size := fun p hp => Heap.lt_size (N p hp).1
theorem news_cons {h₀ h : Heap} {L : Addr} {news : List (Addr × Obj)} {x : Addr × Obj} (N : News h₀ L h news) (hx : x ∈ news) : News h₀ L h (x :: news) := fun p hp => by
  rcases List.mem_cons.mp hp with rfl | hp
  · exact N _ hx
  · exact N _ hp
theorem news_tail {h₀ h : Heap} {L : Addr} {news : List (Addr × Obj)} {x : Addr × Obj} (N : News h₀ L h (x :: news)) : News h₀ L h news := fun p hp => N p (.tail _ hp)
theorem c_bisectE {w mean mg mb} {p q r i : Nat} (l : Addr) (vs : List Value) (nn : Nat) (t1 : Tok) (news) (hi : IntsAre vs (ofNats (skL p q r))) (ht : (p, q, r) ∈ trips) (hl : p + q + r ≤ 14) :
    Ctr w mean mg mb 1 8 31 [.ref l, .int (0 + (i : Int)) t1] ((l, listOf vs.toArray nn) :: news) (RetV ((l, listOf vs.toArray nn) :: news) fun t => .int (ahd p q r i : Int) t) := by
  have c := @c_bisect w mean mg mb l vs (ofNats (skL p q r)) nn (0 + (i : Int)) t1 news hi (Nat.le_trans (sk_len hl) (by decide)) (sk_sort _ ht)
  have e : cnt (0 + (i : Int)) (ofNats (skL p q r)) = ahd p q r i := by rw [Int.zero_add]; rfl
  rw [e] at c
  exact c
structure FS where
  tot : Int
  tk : Tok
  sv : List Value
  sn : Nat
  S : List Int
  od : Obj
  T : List (PyData × PyData)
structure FP (w : World) (p q r : Nat) (xs : List Int) (T : List (PyData × PyData)) (j : Nat) (c : FS) : Prop where
  e : (c.tot, c.S, c.T) = stJ p q r xs T j
  hs : IntsAre c.sv c.S
  tab : TabOf (PySem.strKind PySem.Challenge.rw_sn0064_01.prog w) PyData.str c.od c.T
end Mine
end
noncomputable section
open PySem PySem.W PyProof.Rows PySem.Spec PySem.Calls
set_option linter.unusedVariables false
set_option linter.unusedSimpArgs false
set_option maxRecDepth 100000
namespace Mine
noncomputable abbrev RetE (w : World) (news : List (Addr × Obj)) (T : List (PyData × PyData)) : Heap → Addr → (Str → Option Value) → Shared → (Value → Shared → Prop) → Prop := fun h₀ L m s Q =>
  ∀ (D : Addr) (o : Obj) (h' : Heap) (tk' : Nat) (dr : Drawn), Fr h₀ L h' m → News h₀ L h' ((D, o) :: news) → (∀ p ∈ news, p.1 < D) → (D == sysModules) = false → TabOf (PySem.strKind PySem.Challenge.rw_sn0064_01.prog w) PyData.str o T → Q (.ref D) { s with heap := h', toks := tk', drawn := dr }
theorem goE_step {p q r : Nat} (hr : 1 ≤ r) (xs : List Int) (T : List (PyData × PyData)) : goE r p q xs T = goE (r - 1) (p - 1) (q - 1) (stJ p q r xs T (p + q + r)).2.1 (stJ p q r xs T (p + q + r)).2.2 := by
  obtain ⟨r', rfl⟩ : ∃ r', r = r' + 1 := ⟨r - 1, by omega⟩
  rw [goE]
  rfl
theorem allLt_in {I : Addr} : ∀ {l : List (Addr × Obj)}, AllLt I l → ∀ p ∈ l, p.1 < I
  | [], _, _, h => nomatch h
  | q :: r, h, p, hp => by
    rcases List.mem_cons.mp hp with rfl | hp
    · exact h.1
    · exact allLt_in h.2 p hp
theorem ltA {x D y : Nat} {Q : Prop} (h : y < D ∧ Q) (k : y < D ∧ Q → x < D) : x < D := k h
structure Off (ra d L' : Nat) : Prop where
  a : @Ne Nat ra d
  b : @Ne Nat ra (L' + 1 + 1 + 1)
  c : @Ne Nat ra (L' + 1)
structure ES where
  p : Nat
  q : Nat
  r : Nat
  tt : Tok
  ra : Addr
  rvs : List Value
  rn : Nat
  xs : List Int
  od : Obj
  oS : Obj
  oT : Obj
  T : List (PyData × PyData)
structure EP (w : World) (V : List (PyData × PyData)) (d L' : Addr) (c : ES) : Prop where
  ht : (c.p, c.q, c.r) ∈ trips
  hx : c.xs.length = c.p + c.q + c.r
  hi : IntsAre c.rvs c.xs
  hT : c.oT.data = .cell (some (.str (tx c.p c.q c.r) c.tt))
  hS : ∃ x, c.oS.data = .cell x
  tab : TabOf (strKind PySem.Challenge.rw_sn0064_01.prog w) PyData.str c.od c.T
  go : goE c.r c.p c.q c.xs c.T = V
  n1 : Off c.ra d L'
  tl : c.T.length + 14 * c.r ≤ 200
local macro_rules | `(tactic| walk_at "exec While Name cons nil") => `(tactic| (k_here; refine Halt.out ?_))
local macro_rules | `(tactic| walk_at "And") => `(tactic| ((fail_if_success (with_reducible show (Frag.In _ _) ∧ _)); refine Halt.out ?_))
local macro_rules | `(tactic| walk_at "compareOp In int ref") => `(tactic| (k_here; k_dflt (refine l_in (by k_asm) (by k_mem) (by with_reducible assumption) (by with_reducible assumption) ?_)))
local macro_rules | `(tactic| walk_at "subscriptTail Constant BinOp str int") => `(tactic| (k_here; k_dflt (refine item_str_fmod (by decide) (by decide) (by decide) ?_); intro _))
local macro_rules | `(tactic| walk_at "subscriptTail Name Call str int") => `(tactic| (k_here; k_dflt (refine item_str (fitsSsize_of (N := 9223372036854775808) (by omega) (by omega) (Int.le_refl _)) (by omega) (by omega) ?_); intro _))
local macro_rules | `(tactic| walk_at "call builtin:str.join") => `(tactic| (k_here; refine Halt.out ?_))
local macro_rules | `(tactic| walk_at "call ref") => `(tactic| (k_here; refine Halt.out ?_))
local macro_rules | `(tactic| walk_at "call builtin:len") => `(tactic| (k_here; (with_reducible show wpAny _ _ (call (Value.builtin "len") [Value.ref _]) _ _ _); k_dflt (refine l_len (by k_asm) (by k_mem) (by with_reducible assumption) (by with_reducible assumption) (by omega) ?_)))
local macro_rules | `(tactic| walk_at "exec For Name Call cons nil") => `(tactic| (k_here; (with_unfolding_all refine For_D ?_); k_whole))
local macro_rules | `(tactic| walk_at "pyIter ref") => `(tactic| (k_here; refine Halt.out ?_))
local macro_rules | `(tactic| walk_at "LPost") => `(tactic| (dsimp only [LPost]))
local macro_rules | `(tactic| walk_at "LEnd") => `(tactic| (refine Halt.out ?_))
local macro_rules | `(tactic| walk_at "subscriptTail Name Name ref int") => `(tactic| (k_here; k_dflt (refine g_item (by k_asm) (by k_mem) (by with_reducible assumption) (by omega) (by with_reducible assumption) (by omega) (by with_reducible assumption) ?_); intro t'))
local macro_rules | `(tactic| walk_at "subscriptTail Name Slice ref ref") => `(tactic| (k_here; k_dflt (refine l_slice (by k_asm) (by k_asm) (by k_mem) (by kmk_part) (by kmk_part) (by with_reducible assumption) (by omega) ?_ (by with_unfolding_all rfl) (by kmk_pure)); intro D' ws' h' F' N' l1 hw'; (try k_lt l1); (try dsimp only); (try k_fold)))
local macro_rules | `(tactic| walk_at "compareOp Eq ref ref") => `(tactic| (k_here; refine Halt.out ?_))
local macro_rules | `(tactic| walk_at "setItem ref str") => `(tactic| (k_here; refine Halt.out ?_))
local macro_rules | `(tactic| walk_at "VPost") => `(tactic| (dsimp only [VPost]))
local macro_rules | `(tactic| walk_at "VEnd") => `(tactic| (refine Halt.out ?_))
local macro_rules | `(tactic| walk_at "SrcD") => `(tactic| (refine Halt.out ?_))
local macro_rules | `(tactic| walk_at "SrcA") => `(tactic| (refine Halt.out ?_))
local macro_rules | `(tactic| walk_at "exec Assign cons ListComp") => `(tactic| (k_here; k_dflt (refine assign_comp_D (F₀ := by k_asm) (by rfl) (by with_unfolding_all rfl) (by rfl) (by decide) (by rfl) (by decide) (by rfl) (by rfl) (by rfl) ?_)))
local macro_rules | `(tactic| walk_at "eval ListComp") => `(tactic| (k_here; k_dflt (refine eval_comp_D (F₀ := by k_asm) (by rfl) (by decide) (by rfl) (by decide) (by rfl) ?_)))
theorem while_row {σ : Type} {prog : Program} {w : World} {A : Around} {E : Value → Shared → Prop} {Q : Flow → Shared → Prop} {s : Shared} {env : Env} {h₀ : Heap} {L : Addr} {test : Expr} {body : List Stmt} {pos : Pos} {m : Str → Option Value} (y : Str) (ra : σ → Addr) (Led : σ → List (Addr × Obj)) (stored : List Str) (P : σ → Prop) (μ : σ → Nat) (c₀ : σ)
    (F : Fr h₀ L s.heap m) (hy : m y = some (.ref (ra c₀))) (N : News h₀ L s.heap (Led c₀)) (hp : P c₀)
    (turn : ∀ (c : σ) (u : Str → Option Value) h tk dr, P c → Fr h₀ L h (fun z => if stored.contains z then u z else if z = y then some (.ref (ra c)) else m z) → News h₀ L h (Led c) →
      wpAny (model prog w) A (isTrue test env (eval test env)) (fun b s₂ =>
        if b = true then wpAny (model prog w) A (execs body env) (VPost h₀ L s Led stored (fun c z => if z = y then some (.ref (ra c)) else m z) P μ Q c) E s₂ else Q .next s₂) E { s with heap := h, toks := tk, drawn := dr })
    (hE : PassesOwn (model prog w) A env E := by passes_own) :
    wpAny (model prog w) A (exec (.While test body [] pos) env) Q E s := by
  have e : m = fun z => if z = y then some (.ref (ra c₀)) else m z := by
    funext z
    by_cases h : z = y
    · rw [if_pos h, h, hy]
    · rw [if_neg h]
  rw [e] at F
  exact while_c (m₀ := fun c z => if z = y then some (.ref (ra c)) else m z) Led stored P μ c₀ F N hp turn hE
theorem news_head {h₀ h : Heap} {L l : Addr} {o : Obj} {news : List (Addr × Obj)} (N : News h₀ L h ((l, o) :: news)) : ∃ x, x = l := ⟨l, rfl⟩
theorem tok_of {h₀ h : Heap} {L D I ls : Addr} {o1 o2 : Obj} {sv : List Value} {z : Int} {t : Tok} {n : Nat} {rest : List (Addr × Obj)} (N : News h₀ L h ((D, o1) :: (I, o2) :: (ls, listOf (sv ++ [Value.int z t]).toArray n) :: rest)) : ∃ x, x = t := ⟨t, rfl⟩
theorem fr_two {h₀ h : Heap} {L : Addr} {m : Str → Option Value} {x y : Str} {v u : Value} (F : Fr h₀ L h m) (hx : m x = some v) (hy : m y = some u) : ∃ mm : Str → Option Value, Fr h₀ L h (fun z => if z = x then some v else if z = y then some u else mm z) := by
  refine ⟨m, ?_⟩
  have e : m = fun z => if z = x then some v else if z = y then some u else m z := by
    funext z
    by_cases h1 : z = x
    · rw [if_pos h1, h1, hx]
    · rw [if_neg h1]
      by_cases h2 : z = y
      · rw [if_pos h2, h2, hy]
      · rw [if_neg h2]
  rw [← e]
  exact F
theorem ix_ok {i n len : Nat} (hi : i < n) (hl : len = n) (hn : n ≤ 14) : -(9223372036854775808 : Int) < 0 + (i : Int) ∧ 0 + (i : Int) < 9223372036854775808 ∧ -(len : Int) ≤ 0 + (i : Int) ∧ 0 + (i : Int) < (len : Int) := by omega
theorem nk_ok {k a i n S U T r : Nat} (hk : k + a = i) (hi : i < n) (hn : n ≤ 14) (hS : S = k) (hU : U ≤ T + i) (hT : T + 14 * r ≤ 200) : k ≤ 100 ∧ (k : Int) < 9223372036854775808 ∧ -(9223372036854775808 : Int) < (k : Int) ∧ S ≤ 16777216 ∧ U ≤ 300 := by omega
theorem lf_ok {k n len : Nat} (h : k < n) (hl : len = n) : -(len : Int) ≤ (k : Int) ∧ (k : Int) < (len : Int) := by omega
theorem r_zero : ∀ t ∈ trips, t.2.2 = 0 → t.1 + t.2.1 + t.2.2 = 0 := by decide +kernel
local macro_rules | `(tactic| k_ne) => `(tactic| (refine neN ?_; (try dsimp only); first | ((refine Nat.ne_of_lt (ltA (by with_reducible assumption) ?_); intro h; repeat (first | exact h.1 | exact h | replace h := h.2)); done) | ((refine Nat.ne_of_gt (ltA (by with_reducible assumption) ?_); intro h; repeat (first | exact h.1 | exact h | replace h := h.2)); done) | exact Off.a (by with_reducible assumption) | exact Off.b (by with_reducible assumption) | exact Off.c (by with_reducible assumption) | exact (Off.a (by with_reducible assumption)).symm | exact (Off.b (by with_reducible assumption)).symm | exact (Off.c (by with_reducible assumption)).symm))
set_option maxHeartbeats 1500000 in
theorem c_ends {w mean mg mb} (p q r : Nat) (v : Int) (rl : Addr) (rvs : List Value) (rn : Nat) (xs : List Int) (t1 t2 : Tok) (news) (hrl : IntsAre rvs xs) (hx : xs.length = p + q + r) (ht : (p, q, r) ∈ trips) (hv : 0 ≤ v ∧ v ≤ 1000000) :
    Ctr w mean mg mb 8 120 126 [.str (tx p q r) t1, .ref rl, .int v t2] ((rl, listOf rvs.toArray rn) :: news) (RetE w ((rl, listOf rvs.toArray rn) :: news) (goE r p q xs [])) := by
  unfold Ctr
  k_fill
  intros; rename_i hret
  refine wpAny_call ?_
  k_dflt (refine' code_defC ?k1 ?k2 ?k3 ?k4 ?k5 ?kA ?kF ?kK ?k6 ?k7 ?k8 ?k9 ?kB ?kD ?_ ?c2 ?c3 ?c4; (case kA => exact rfl); (case kF => exact rfl); (case kK => assumption); (case k1 => k_asm); (case k2 => k_asm); (case k3 => k_asm); (case k4 => k_asm); (case k5 => k_asm); (case k6 => k_is); (case k7 => k_is); (case k8 => ktr_room); (case k9 => exact BindsTo.of_eq rfl); (case kB => exact rfl); (case kD => decide +kernel); (case c2 => exact rfl); (case c3 => exact rfl); (case c4 => exact rfl); k_whole; intro g' L' h' tk' cells' FG' F' N' Y' B' X' T' l1; (try k_lt l1); k_cells Y'; (try simp only [List.cons_append, List.nil_append] at N'); (try dsimp only); (try k_lift B'); (try k_fold))
  k_steps
  unfold Halt
  rename_i oA oB oC dA dB dC d hX od loX hsX fsX hiX fiX lX hY F0 N0
  have eA : oA.data = .cell none := dA.trans (by with_unfolding_all rfl)
  have eB : oB.data = .cell (some (.int v t2)) := dB.trans (by with_unfolding_all rfl)
  have eC : oC.data = .cell (some (.str (tx p q r) t1)) := dC.trans (by with_unfolding_all rfl)
  have tab0 := TabOf.intro hsX fsX
  clear dA dB dC hsX fsX hiX fiX
  have n10 : Off rl d L' := by
    have a1 : @LT.lt Nat _ rl L' := l1.1
    have a2 : @LT.lt Nat _ rl d := lX.2.2.2.1
    exact ⟨Nat.ne_of_lt a2, Nat.ne_of_lt (by omega), Nat.ne_of_lt (by omega)⟩
  have tl0 : ([] : List (PyData × PyData)).length + 14 * r ≤ 200 := by have := trips_len _ ht; dsimp only at this; show 0 + 14 * r ≤ 200; omega
  have m1 : AllLt (L' + 1) news := tbn_up (by omega) l1.2
  have m3 : AllLt (L' + 1 + 1 + 1) news := tbn_up (by omega) l1.2
  obtain ⟨mm, F1⟩ := fr_two (x := Str.ofString "row") (y := Str.ofString "ends") F0 (by with_unfolding_all rfl) (by with_unfolding_all rfl)
  clear F0
  refine while_row (Str.ofString "row") ES.ra (fun c => (c.ra, listOf c.rvs.toArray c.rn) :: (d, c.od) :: (L' + 1 + 1 + 1, c.oS) :: (L' + 1 + 1, oB) :: (L' + 1, c.oT) :: (rl, listOf rvs.toArray rn) :: news) [Str.ofString "page", Str.ofString "left", Str.ofString "sums", Str.ofString "total", Str.ofString "place", Str.ofString "ahead"] (EP w (goE r p q xs []) d L') ES.r ⟨p, q, r, t1, rl, rvs, rn, xs, od, oA, oC, []⟩ F1 (if_pos rfl) ?_ ⟨ht, hx, hrl, eC, ⟨_, eA⟩, tab0, rfl, n10, tl0⟩ ?_
  · intro p hp
    rcases List.mem_cons.mp hp with rfl | hp
    · exact N0 _ (by simp)
    · exact N0 _ hp
  clear N0 F1 tab0 eA eC hrl hx ht
  rintro ⟨p, q, r, tt, ra, rvs1, rn1, xs1, od, oS, oT, T⟩ u h tk dr ⟨ht, hx, hi, hT, ⟨sv, hS⟩, tab, go, n1, tl⟩ F N
  dsimp only at ht hx hi hT hS tab go n1 tl F N ⊢
  have hlen := trips_len _ ht
  dsimp only at hlen
  have htl := tx_len p q r
  k_steps
  · unfold Halt
    rename IsRange _ _ _ _ _ _ _ _ => hr
    rename Fr _ _ _ _ => F1
    rename News _ _ _ ((ra, _) :: _) => N1
    rw [htl] at hr
    have hr1 : 1 ≤ r := by
      rcases Nat.eq_zero_or_pos r with h0 | h0
      · exfalso
        have := r_zero _ ht h0
        dsimp only at this
        rename _ ≠ (0 : Int) => hn0
        apply hn0
        rw [htl]
        omega
      · exact h0
    rename _ ≠ (0 : Int) => hn0
    clear hn0
    refine ⟨_, _, _, _, _, _, p + q + r, _, pz p q r, fun i y => ∃ t, y = .int (i : Int) t, rfl, by exact rfl, F1, N1, hr, (rng_ok hlen).1, (rng_ok hlen).2.1, (rng_ok hlen).2.2, ?_, ?_⟩
    · clear F1 N1 hr
      intro i t I C oI oC D ys m2 h tk dr E' hi hC hx2 F N off ne
      obtain ⟨x1, x2, x3, x4⟩ := ix_ok hi htl hlen
      refine wpAny_tests_one ?_
      k_steps
      all_goals (unfold Halt)
      all_goals (rename Fr _ _ _ _ => F4)
      all_goals (rename News _ _ _ _ => N4)
      · exact ⟨(test_at ht hi hlen).symm.trans (by assumption), ⟨t, by rw [Int.zero_add]⟩, _, _, _, _, rfl, F4, N4, fun p hp => hp⟩
      · exact ⟨(test_at ht hi hlen).symm.trans (by assumption), _, _, _, _, rfl, F4, N4, fun p hp => hp⟩
    · clear F1 N1 hr
      intro D5 ys5 h tk dr F N lD hcv
      have hys : IntsAre ys5 (ofNats (skL p q r)) := cv_ints hcv
      clear hcv
      (try k_lt lD)
      k_steps
      unfold Halt
      rename IsRange _ _ _ _ _ _ _ _ => hr
      rename Fr _ _ _ _ => F1
      rename News _ _ _ ((_, _) :: (ra, _) :: _) => N1
      rw [htl] at hr
      refine ⟨_, _, _, _, _, _, p + q + r, _, fun _ => true, fun i y => ∃ t, y = .str (pageS v p q r i) t, rfl, by exact rfl, F1, N1, hr, (rng_ok hlen).1, (rng_ok hlen).2.1, (rng_ok hlen).2.2, ?_, ?_⟩
      · clear F1 N1 hr
        intro i t I C oI oC D ys m2 h tk dr E' hi9 hC hx2 F N off ne
        obtain ⟨x1, x2, x3, x4⟩ := ix_ok hi9 htl hlen
        refine wpAny_tests_nil ?_
        have hany := sk_any ht hi9 hlen
        k_steps
        all_goals (unfold Halt)
        all_goals (rename Fr _ _ _ _ => F4)
        all_goals (rename News _ _ _ _ => N4)
        · have e : pageS v p q r i = ⟨#[vlC v i]⟩ := by unfold pageS; rw [if_pos (by assumption)]
          have e := e.trans (veil_item v i).symm
          refine ⟨rfl, ⟨_, by rw [e]⟩, _, _, _, _, rfl, F4, N4, fun p hp => hp⟩
        · have e : pageS v p q r i = ⟨#[chAt p q i]⟩ := by unfold pageS; rw [if_neg (by rename pz p q r i = false => hpz; rw [hpz]; decide)]
          have e := e.trans (tx_item ht hi9 hlen).symm
          refine ⟨rfl, ⟨_, by rw [e]⟩, _, _, _, _, rfl, F4, N4, fun p hp => hp⟩
      · clear F1 N1 hr
        intro D ys h tk dr F N lD hcv
        (try k_lt lD)
        k_steps
        unfold Halt
        refine join_listC (ys := pgL v p q r) (isList_of (N _ (.head _)).1) (cv_strs (cv_all hcv)) (by decide) (pg_ok hlen) ?_
        clear hcv
        intro t9 k9
        (try dsimp only); (try k_fold)
        k_steps
        unfold Halt
        show wpAny _ _ (call (.ref 114) [.str (pg v p q r) _]) _ _ _
        refine Ctr.use (c_prepE (v := v) _ _ ht hr1 hlen) (by k_asm) (by k_asm) (by k_asm) (by k_asm) (by k_asm) (by first | exact rfl | assumption) (by first | omega | ktr_room) (by first | omega | ktr_units) ?_
        intro t10 h10 tk10 F10 N10
        (try dsimp only); (try k_fold)
        have hsl : (ofNats (skL p q r)).length = (skL p q r).length := by unfold ofNats; rw [List.length_map]
        have hs14 : (skL p q r).length ≤ 14 := hsl ▸ sk_len hlen
        k_steps
        unfold Halt
        refine Ctr.use (c_levE _ _ _ _ ht hr1 hlen) (by k_asm) (by k_asm) (by k_asm) (by k_asm) (by k_asm) (by first | exact rfl | assumption) (by first | omega | ktr_room) (by first | omega | ktr_units) ?_
        intro t11 h11 tk11 F11 N11
        (try dsimp only); (try k_fold)
        k_steps
        · exact absurd rfl (by with_reducible assumption)
        unfold Halt
        rename IsRange _ _ _ _ _ _ _ _ => hr
        rename Fr _ _ _ _ => F1
        rename News _ _ _ _ => N1
        rw [htl] at hr
        dsimp only at F1 N1
        obtain ⟨ls, els⟩ := news_head N1
        subst els
        refine iter_rangeW (n := p + q + r) (Str.ofString "total") FS.tot FS.tk (fun c => (ls, listOf c.sv.toArray c.sn) :: _ :: _ :: (ra, listOf rvs1.toArray rn1) :: (d, c.od) :: _) [Str.ofString "ahead"] (FP w p q r xs1 T) ⟨0, _, [], 0, [], od, T⟩ (by exact rfl) hr (rng_ok hlen).1 (rng_ok hlen).2.1 (by exact rfl) (by exact rfl) F1 N1 (fun _ => rfl) ⟨rfl, IntsAre.nil, tab⟩ ?_ ?_
        · clear F1 N1 hr
          rintro i t ⟨tot, ttk, sv1, sn, S, od1, T1⟩ u I oI h tk dr hi9 lI ⟨e, hS1, tab1⟩ F2 N2
          dsimp only at e hS1 tab1 F2 N2 lI ⊢
          (try k_lt lI)
          have hlt : 0 + (i : Int) < (xs1.length : Int) := by rw [hx]; omega
          have hE1 : xs1.getD (0 + (i : Int)).toNat 0 = xs1.getD i 0 := by rw [Int.zero_add]; rfl
          have hss : S.length = nkeep p q r i := by
            have := sums_len p q r xs1 T i
            rw [← e] at this
            exact this
          have hnk := nkeep_at ht hi9 hlen
          have hT1 : T1.length ≤ T.length + i := by
            have := stT_len p q r xs1 T i
            rw [← e] at this
            exact this
          obtain ⟨x1, x2, x3, x4⟩ := ix_ok hi9 htl hlen
          obtain ⟨y1, y2, y3, y4, y5⟩ := nk_ok hnk hi9 hlen hss hT1 tl
          have htl2 := tx_len (p - 1) (q - 1) (r - 1)
          have hsk14 : (ofNats (skL p q r)).length ≤ 14 := sk_len hlen
          k_steps
          unfold Halt
          rename News _ _ _ ((I, oI) :: _) => N3
          refine Ctr.use (c_bisectE (i := i) D5 ys5 _ _ _ hys ht hlen) (by k_asm) (by k_asm) (by k_asm) (news_cons N3 (by repeat (first | exact List.Mem.head _ | refine List.Mem.tail _ ?_))) (by k_asm) (by first | exact rfl | assumption) (by first | omega | ktr_room) (by first | omega | ktr_units) ?_
          intro t12 h12 tk12 F12 N12
          have N13 := news_tail N12
          clear N12
          (try dsimp only); (try k_fold)
          have hpick := pick_at ht hi9 hlen
          k_steps
          unfold Halt
          refine l_eq (by k_asm) (by repeat (first | exact List.Mem.head _ | refine List.Mem.tail _ ?_)) (by with_reducible assumption) (by repeat (first | exact List.Mem.head _ | refine List.Mem.tail _ ?_)) (IntsAre.cons _ _ IntsAre.nil) (by first | omega | ktr_units) hpick ?_
          clear hpick
          rename News _ _ _ _ => N5
          have N6 := news_tail N5
          clear N5
          cases hpz : pz p q r i
          · obtain ⟨u1, u2⟩ := lf_ok (left_at ht hr1 hi9 hlen hpz).2 htl2
            ((try dsimp only); (try k_fold))
            k_steps
            · exfalso; omega
            · rename (Txt.item _ _ != Txt.item _ _) = true => hne
              rw [(left_at ht hr1 hi9 hlen hpz).1, tx_item ht hi9 hlen] at hne
              simp at hne
            unfold Halt
            rename Fr _ _ _ _ => F4
            rename News _ _ _ _ => N4
            rw [List.push_toArray] at N4
            obtain ⟨tv, ev⟩ := tok_of N4
            subst ev
            refine ⟨⟨tot + xs1.getD i 0, tv, sv1 ++ [.int (tot + xs1.getD i 0) tv], sn + 1, S ++ [tot + xs1.getD i 0], od1, T1⟩, _, _, _, _, _, rfl, F4, N4, fun p hp => .tail _ hp, ?_, ?_, IntsAre.append hS1 (IntsAre.cons _ _ IntsAre.nil), tab1⟩
            · intro z hz
              simp only [List.contains_cons, List.contains_nil, Bool.or_false, Bool.or_eq_false_iff, beq_eq_false_iff_ne, ne_eq] at hz
              simp [hz]
              by_cases hy : z = Str.ofString "total"
              · rw [if_pos hy, if_pos hy]
              · rw [if_neg hy, if_neg hy, if_neg hy]
            · rw [stJ_succ, ← e]
              unfold stepE
              rw [if_neg (by rw [hpz]; decide)]
          · ((try dsimp only); (try k_fold))
            k_steps
            unfold Halt
            refine' d_setS ?F N6 ?U tab1 (by omega) ?_
            case F => k_asm
            case U => k_updF
            intro h' o' F' N' t'
            (try dsimp only)
            (try k_fold)
            clear N6
            k_steps
            unfold Halt
            rename Fr _ _ _ _ => F4
            rename News _ _ _ _ => N4
            rw [tx_item ht hi9 hlen] at t'
            refine ⟨⟨tot, ttk, sv1, sn, S, o', PyProof.V.putD (.str ⟨#[chAt p q i]⟩) (.int (xs1.getD i 0)) T1⟩, _, _, _, _, _, rfl, F4, N4, fun p hp => .tail _ hp, ?_, ?_, hS1, t'⟩
            · intro z hz
              simp only [List.contains_cons, List.contains_nil, Bool.or_false, Bool.or_eq_false_iff, beq_eq_false_iff_ne, ne_eq] at hz
              simp [hz]
            · rw [stJ_succ, ← e]
              unfold stepE
              rw [if_pos hpz]
        · clear N1 F1 hr
          rintro ⟨tot, ttk, sv1, sn, S, od1, T1⟩ u h tk dr ⟨e, hS1, tab1⟩ F2 N2
          dsimp only at e hS1 tab1 F2 N2 ⊢
          k_steps
          unfold Halt
          rename Fr _ _ _ _ => F4
          rename News _ _ _ _ => N4
          rename (_ = Data.cell (some (Value.str (tx (p - 1) (q - 1) (r - 1)) t10))) => dT
          rename (_ = Data.cell (some (Value.ref D5))) => dS
          refine ⟨⟨p - 1, q - 1, r - 1, t10, ls, sv1, sn, S, od1, _, _, T1⟩, _, _, _, _, _, rfl, F4, N4, ?_, ?_, ⟨trips_down _ ht, ?_, hS1, dT, ⟨_, dS⟩, tab1, ?_, ?_, ?_⟩, ?_⟩
          · intro p hp
            simp only [List.mem_cons] at hp ⊢
            rcases hp with h | h | h | h | h | h | h <;> simp [h]
          · intro z hz
            simp only [List.contains_cons, List.contains_nil, Bool.or_false, Bool.or_eq_false_iff, beq_eq_false_iff_ne, ne_eq] at hz
            simp [hz]
            by_cases hy : z = Str.ofString "row" <;> simp [hy]
          · have h1 := sums_len p q r xs1 T (p + q + r)
            rw [← e] at h1
            exact h1.trans (nkeep_end_ok _ ht)
          · rw [← go, goE_step hr1, ← e]
          · show Off ls d L'
            exact ⟨by k_ne, by k_ne, by k_ne⟩
          · have h1 := stT_len p q r xs1 T (p + q + r)
            rw [← e] at h1
            dsimp only at h1 ⊢
            omega
          · show r - 1 < r
            omega
  · (try dsimp only); (try k_fold)
    k_steps
    have h0 : r = 0 := by
      rename ((tx p q r).length : Int) = 0 => hz0
      rw [htl] at hz0
      omega
    rename Fr _ _ _ _ => kF
    rename News _ _ _ _ => kN
    subst h0
    rw [← go] at hret
    refine hret d od _ _ _ kF (fun p hp => ?_) (fun p hp => ?_) loX tab
    · simp only [List.mem_cons] at hp
      refine kN p ?_
      simp only [List.mem_cons]
      rcases hp with h | h | h <;> simp [h]
    · rcases List.mem_cons.mp hp with rfl | hp
      · exact lX.2.2.2.1
      · exact allLt_in lX.2.2.2.2 p hp
end Mine
end
noncomputable section
open PySem PySem.W PyProof.Rows PySem.Spec PySem.Calls
set_option linter.unusedVariables false
set_option maxRecDepth 100000
namespace Mine
/-! the plain law: linear rows -/
noncomputable def evL (x y : Int) (l : Int × Int) : Int := l.1 * x + l.2 * y
noncomputable def addL (a b : Int × Int) : Int × Int := (a.1 + b.1, a.2 + b.2)
noncomputable def putF (c : Nat) (l : Int × Int) (T : List (Nat × Int × Int)) : List (Nat × Int × Int) :=
  if T.any (fun p => p.1 == c) then T.map (fun p => if p.1 == c then (p.1, l) else p) else T ++ [(c, l)]
noncomputable def evT (x y : Int) (t : Nat × Int × Int) : PyData × PyData := (.str ⟨#[t.1]⟩, .int (evL x y t.2))
theorem same_ch (a b : Nat) : PySem.Spec.same (.str ⟨#[a]⟩) (.str ⟨#[b]⟩) = (a == b) := by
  rw [PyProof.V.same_str]
  by_cases h : a = b
  · subst h; simp
  · have : (⟨#[a]⟩ : Str) ≠ ⟨#[b]⟩ := fun e => h (by injection e with e; simpa using e)
    simp [this, h]
theorem put_ev (x y : Int) (c : Nat) (l : Int × Int) (T : List (Nat × Int × Int)) : PyProof.V.putD (.str ⟨#[c]⟩) (.int (evL x y l)) (T.map (evT x y)) = (putF c l T).map (evT x y) := by
  unfold PyProof.V.putD putF
  have e1 : ((T.map (evT x y)).any fun p => PySem.Spec.same p.1 (.str ⟨#[c]⟩)) = T.any fun p => p.1 == c := by
    rw [List.any_map]
    congr 1
    funext p
    exact same_ch p.1 c
  rw [e1]
  by_cases h : (T.any fun p => p.1 == c) = true
  · rw [if_pos h, if_pos h, List.map_map, List.map_map]
    congr 1
    funext p
    show (if PySem.Spec.same (.str ⟨#[p.1]⟩) (.str ⟨#[c]⟩) = true then _ else _) = evT x y (if (p.1 == c) = true then (p.1, l) else p)
    rw [same_ch]
    by_cases h : (p.1 == c) = true
    · rw [if_pos h, if_pos h]; rfl
    · rw [if_neg h, if_neg h]
  · rw [if_neg h, if_neg h, List.map_append]
    rfl
noncomputable def stepF (p q r : Nat) (xs : List (Int × Int)) (st : (Int × Int) × List (Int × Int) × List (Nat × Int × Int)) (i : Nat) : (Int × Int) × List (Int × Int) × List (Nat × Int × Int) :=
  if pz p q r i then (st.1, st.2.1, putF (chAt p q i) (xs.getD i (0, 0)) st.2.2)
  else (addL st.1 (xs.getD i (0, 0)), st.2.1 ++ [addL st.1 (xs.getD i (0, 0))], st.2.2)
noncomputable def stF (p q r : Nat) (xs : List (Int × Int)) (T : List (Nat × Int × Int)) (j : Nat) : (Int × Int) × List (Int × Int) × List (Nat × Int × Int) := (List.range j).foldl (stepF p q r xs) ((0, 0), [], T)
noncomputable def goF : Nat → Nat → Nat → List (Int × Int) → List (Nat × Int × Int) → List (Nat × Int × Int)
  | 0, _, _, _, T => T
  | r + 1, p, q, xs, T => goF r (p - 1) (q - 1) (stF p q (r + 1) xs T (p + q + (r + 1))).2.1 (stF p q (r + 1) xs T (p + q + (r + 1))).2.2
noncomputable def evS (x y : Int) (st : (Int × Int) × List (Int × Int) × List (Nat × Int × Int)) : Int × List Int × List (PyData × PyData) := (evL x y st.1, st.2.1.map (evL x y), st.2.2.map (evT x y))
theorem getD_ev (x y : Int) (xs : List (Int × Int)) (i : Nat) : (xs.map (evL x y)).getD i 0 = evL x y (xs.getD i (0, 0)) := by
  rw [List.getD_eq_getElem?_getD, List.getD_eq_getElem?_getD, List.getElem?_map]
  cases xs[i]? with
  | none => show (0 : Int) = 0 * x + 0 * y; omega
  | some v => rfl
theorem add_ev (x y : Int) (a b : Int × Int) : evL x y a + evL x y b = evL x y (addL a b) := by
  show a.1 * x + a.2 * y + (b.1 * x + b.2 * y) = (a.1 + b.1) * x + (a.2 + b.2) * y
  rw [Int.add_mul, Int.add_mul]
  omega
theorem step_ev (x y : Int) (p q r : Nat) (xs : List (Int × Int)) (st) (i : Nat) : stepE p q r (xs.map (evL x y)) (evS x y st) i = evS x y (stepF p q r xs st i) := by
  unfold stepE stepF
  by_cases h : pz p q r i = true
  · rw [if_pos h, if_pos h]
    show (_, _, PyProof.V.putD _ (.int ((xs.map (evL x y)).getD i 0)) _) = _
    rw [getD_ev]
    show (_, _, PyProof.V.putD _ _ (st.2.2.map (evT x y))) = _
    rw [put_ev]
    rfl
  · rw [if_neg h, if_neg h, getD_ev]
    show (evL x y st.1 + _, st.2.1.map (evL x y) ++ [evL x y st.1 + _], _) = _
    rw [add_ev]
    show _ = (_, List.map (evL x y) (st.2.1 ++ [_]), _)
    rw [List.map_append]
    rfl
theorem fold_ev (x y : Int) (p q r : Nat) (xs : List (Int × Int)) : ∀ (l : List Nat) (st), l.foldl (stepE p q r (xs.map (evL x y))) (evS x y st) = evS x y (l.foldl (stepF p q r xs) st)
  | [], _ => rfl
  | i :: l, st => by
    rw [List.foldl_cons, List.foldl_cons, step_ev, fold_ev]
theorem st_ev (x y : Int) (p q r : Nat) (xs : List (Int × Int)) (T : List (Nat × Int × Int)) (j : Nat) : stJ p q r (xs.map (evL x y)) (T.map (evT x y)) j = evS x y (stF p q r xs T j) := by
  unfold stJ stF
  rw [← fold_ev]
  congr 1
  show _ = (0 * x + 0 * y, _, _)
  have : (0 : Int) * x + 0 * y = 0 := by omega
  rw [this]
  rfl
theorem go_ev (x y : Int) : ∀ (r p q : Nat) (xs : List (Int × Int)) (T : List (Nat × Int × Int)), goE r p q (xs.map (evL x y)) (T.map (evT x y)) = (goF r p q xs T).map (evT x y)
  | 0, _, _, _, _ => rfl
  | r + 1, p, q, xs, T => by
    rw [goE, goF, st_ev]
    exact go_ev x y r _ _ _ _
noncomputable def rowF (n : Nat) : List (Int × Int) := (List.range n).map fun (i : Nat) => ((1 : Int), (i : Int))
noncomputable def rowE (x y : Int) (n : Nat) : List Int := (List.range n).map fun (i : Nat) => x + y * (i : Int)
theorem rowE_eq (x y : Int) (n : Nat) : rowE x y n = (rowF n).map (evL x y) := by
  unfold rowE rowF
  rw [List.map_map]
  congr 1
  funext i
  show x + y * (i : Int) = 1 * x + (i : Int) * y
  rw [Int.one_mul, Int.mul_comm]
noncomputable def facE (k : Nat) (gs : List Nat) : Nat → Int
  | 0 => 1
  | i + 1 => facE k gs i * ((k : Int) + 1 - (i : Int)) ^ (gs.getD i 0)
theorem due_fac (num : Int) (k : Nat) (gs : List Nat) : ∀ i, dueP num k gs i = facE k gs i * num
  | 0 => (Int.one_mul num).symm
  | i + 1 => by
    rw [dueP, facE, due_fac num k gs i, Int.mul_assoc, Int.mul_assoc, Int.mul_comm num]
noncomputable def grows : List (Nat × Nat × Nat) := [0, 1, 2].flatMap fun a => [0, 1, 2].flatMap fun b => [0, 1].map fun c => (a, b, c)
theorem goF_ok : ∀ g ∈ grows, goF (1 + g.1 + g.2.1 + g.2.2) (1 + g.1) (1 + g.1 + g.2.1) (rowF (1 + g.1 + (1 + g.1 + g.2.1) + (1 + g.1 + g.2.1 + g.2.2))) [] =
    [(102, facE 0 [g.1, g.2.1, g.2.2] 1, 0), (115, facE 1 [g.1, g.2.1, g.2.2] 2, facE 1 [g.1, g.2.1, g.2.2] 2), (107, facE 2 [g.1, g.2.1, g.2.2] 3, 2 * facE 2 [g.1, g.2.1, g.2.2] 3)] := by decide +kernel
theorem trips_grow : ∀ g ∈ grows, (1 + g.1, 1 + g.1 + g.2.1, 1 + g.1 + g.2.1 + g.2.2) ∈ trips := by decide +kernel
theorem grows_ok : ∀ a ∈ List.range 3, ∀ b ∈ List.range 3, ∀ c ∈ List.range 2, (a, b, c) ∈ grows := by decide +kernel
theorem grows_mem {a b c : Nat} (h : a ≤ 2 ∧ b ≤ 2 ∧ c ≤ 1) : (a, b, c) ∈ grows := grows_ok a (List.mem_range.mpr (Nat.lt_succ_of_le h.1)) b (List.mem_range.mpr (Nat.lt_succ_of_le h.2.1)) c (List.mem_range.mpr (Nat.lt_succ_of_le h.2.2))
/-- the ends' table is the due numbers' -/
theorem go_due {a b c : Nat} (ha : a ≤ 2) (hb : b ≤ 2) (hc : c ≤ 1) (x y : Int) :
    goE (1 + a + b + c) (1 + a) (1 + a + b) (rowE x y (1 + a + (1 + a + b) + (1 + a + b + c))) [] =
      [(.str ⟨#[102]⟩, .int (dueP (x + y * 0) 0 [a, b, c] 1)), (.str ⟨#[115]⟩, .int (dueP (x + y * 1) 1 [a, b, c] 2)), (.str ⟨#[107]⟩, .int (dueP (x + y * 2) 2 [a, b, c] 3))] := by
  have hg : (a, b, c) ∈ grows := grows_mem ⟨ha, hb, hc⟩
  have h := go_ev x y (1 + a + b + c) (1 + a) (1 + a + b) (rowF (1 + a + (1 + a + b) + (1 + a + b + c))) []
  rw [← rowE_eq, goF_ok _ hg] at h
  rw [List.map_nil] at h
  rw [h]
  have e0 : evL x y (facE 0 [a, b, c] 1, 0) = dueP (x + y * 0) 0 [a, b, c] 1 := by
    rw [due_fac]
    show _ * x + 0 * y = _ * (x + y * 0)
    rw [Int.mul_zero, Int.add_zero, Int.zero_mul, Int.add_zero]
  have e1 : evL x y (facE 1 [a, b, c] 2, facE 1 [a, b, c] 2) = dueP (x + y * 1) 1 [a, b, c] 2 := by
    rw [due_fac]
    show _ * x + _ * y = _ * (x + y * 1)
    rw [Int.mul_one, Int.mul_add]
  have e2 : evL x y (facE 2 [a, b, c] 3, 2 * facE 2 [a, b, c] 3) = dueP (x + y * 2) 2 [a, b, c] 3 := by
    rw [due_fac]
    show _ * x + 2 * facE 2 [a, b, c] 3 * y = _ * (x + y * 2)
    rw [Int.mul_add, Int.mul_comm y 2, ← Int.mul_assoc, Int.mul_comm (facE 2 [a, b, c] 3) 2]
  rw [← e0, ← e1, ← e2]
  rfl
end Mine
end
noncomputable section
open PySem PySem.W PyProof.Rows PySem.Spec PySem.Calls
set_option linter.unusedVariables false
set_option linter.unusedSimpArgs false
set_option maxRecDepth 100000
namespace Mine
noncomputable abbrev rowL : RowW := PySem.Challenge.rw_sn0064_01.row.toRowW
noncomputable abbrev lawD : DefRec := ⟨"law", litA22.1, litB22.1, litS22.1, ⟨180, 0, 191, 76⟩⟩
theorem asK : ∀ P, Kas = (Kd P).map (·.1) := fun P => by kernel_rfl!
noncomputable abbrev CallL : Prop := WalkO qv looseL (XL qv []) (InK Kd) rowL lawD [] fun f vs => PySem.call f vs
/-! the draws -/
noncomputable def litD : List Int := [1, 1, 1, 9, 4, 7, 30, 2, 6]
noncomputable def giv (ns : List Int) : List Int := (ns.take 9).map fun k => k.fmod (10 ^ Int.toNat 6)
theorem pick_lit : ∀ k ∈ List.range 10, pickNums litD (some (k : Int)) none none = litD.drop k := by decide +kernel
theorem giv_len (ns : List Int) : (giv ns).length ≤ 9 := by
  unfold giv
  rw [List.length_map, List.length_take]
  omega
theorem giv_b (ns : List Int) : ∀ x ∈ giv ns, 0 ≤ x ∧ x < 1000000 := by
  intro x hx
  unfold giv at hx
  obtain ⟨k, _, rfl⟩ := List.mem_map.mp hx
  have e : k.fmod (10 ^ Int.toNat 6) = k % 1000000 := Int.fmod_eq_emod_of_nonneg _ (by decide)
  rw [e]
  omega
theorem lit_b : ∀ x ∈ litD, 0 ≤ x ∧ x < 1000000 := by decide +kernel
theorem nine {P : Int → Prop} : ∀ l : List Int, l.length = 9 → (∀ x ∈ l, P x) → ∃ a0 a1 a2 a3 a4 a5 a6 a7 a8, l = [a0, a1, a2, a3, a4, a5, a6, a7, a8] ∧ P a0 ∧ P a1 ∧ P a2 ∧ P a3 ∧ P a4 ∧ P a5 ∧ P a6 ∧ P a7 ∧ P a8
  | [a0, a1, a2, a3, a4, a5, a6, a7, a8], _, h => ⟨a0, a1, a2, a3, a4, a5, a6, a7, a8, rfl, h _ (.head _), h _ (.tail _ (.head _)), h _ (.tail _ (.tail _ (.head _))), h _ (.tail _ (.tail _ (.tail _ (.head _)))), h _ (.tail _ (.tail _ (.tail _ (.tail _ (.head _))))), h _ (.tail _ (.tail _ (.tail _ (.tail _ (.tail _ (.head _)))))), h _ (.tail _ (.tail _ (.tail _ (.tail _ (.tail _ (.tail _ (.head _))))))), h _ (.tail _ (.tail _ (.tail _ (.tail _ (.tail _ (.tail _ (.tail _ (.head _)))))))), h _ (.tail _ (.tail _ (.tail _ (.tail _ (.tail _ (.tail _ (.tail _ (.tail _ (.head _)))))))))⟩
theorem draws_at (ns : List Int) : ∃ a0 a1 a2 a3 a4 a5 a6 a7 a8, giv ns ++ pickNums litD (some ((giv ns).length : Int)) none none = [a0, a1, a2, a3, a4, a5, a6, a7, a8] ∧
    (0 ≤ a0 ∧ a0 < 1000000) ∧ (0 ≤ a1 ∧ a1 < 1000000) ∧ (0 ≤ a2 ∧ a2 < 1000000) ∧ (0 ≤ a3 ∧ a3 < 1000000) ∧ (0 ≤ a4 ∧ a4 < 1000000) ∧ (0 ≤ a5 ∧ a5 < 1000000) ∧ (0 ≤ a6 ∧ a6 < 1000000) ∧ (0 ≤ a7 ∧ a7 < 1000000) ∧ (0 ≤ a8 ∧ a8 < 1000000) := by
  have hl := giv_len ns
  rw [pick_lit _ (List.mem_range.mpr (by omega))]
  refine nine (P := fun x => 0 ≤ x ∧ x < 1000000) _ ?_ ?_
  · rw [List.length_append, List.length_drop]
    show (giv ns).length + (9 - (giv ns).length) = 9
    omega
  · intro x hx
    rcases List.mem_append.mp hx with h | h
    · exact giv_b ns x h
    · exact lit_b x (List.mem_of_mem_drop h)
theorem fm_nat (x : Int) (m : Nat) (hm : 0 < m) : ∃ a : Nat, a < m ∧ x.fmod (m : Int) = (a : Int) := by
  have h1 : 0 ≤ x.fmod (m : Int) := Int.fmod_nonneg_of_pos x (Int.ofNat_lt.mpr hm)
  have h2 : x.fmod (m : Int) < (m : Int) := Int.fmod_lt_of_pos x (Int.ofNat_lt.mpr hm)
  obtain ⟨k, hk⟩ := Int.eq_ofNat_of_zero_le h1
  rw [hk] at h2
  exact ⟨k, Int.ofNat_lt.mp h2, hk⟩
theorem grow_of {a0 a1 a2 : Int} (h0 : 0 ≤ a0 ∧ a0 < 1000000) (h1 : 0 ≤ a1 ∧ a1 < 1000000) (h2 : 0 ≤ a2 ∧ a2 < 1000000) : ∃ a b c : Nat, (a ≤ 2 ∧ b ≤ 2 ∧ c ≤ 1) ∧ a0.fmod 3 = (a : Int) ∧ a1.fmod 3 = (b : Int) ∧ a2.fmod 2 = (c : Int) := by
  obtain ⟨a, ha, ea⟩ := fm_nat a0 3 (by decide)
  obtain ⟨b, hb, eb⟩ := fm_nat a1 3 (by decide)
  obtain ⟨c, hc, ec⟩ := fm_nat a2 2 (by decide)
  exact ⟨a, b, c, ⟨Nat.le_of_lt_succ ha, Nat.le_of_lt_succ hb, Nat.le_of_lt_succ hc⟩, ea, eb, ec⟩
theorem lt9 {a0 a1 a2 a3 a4 a5 a6 a7 a8 k : Int} (h : k < 9) : k < ([a0, a1, a2, a3, a4, a5, a6, a7, a8].length : Int) := h
theorem lt3 {a0 a1 a2 k : Int} (h : k < 3) : k < ([a0, a1, a2].length : Int) := h
theorem head_ints {h₀ h : Heap} {L l : Addr} {n : Nat} {rest : List (Addr × Obj)} {x y z : Int} {tx ty tz : Tok} (N : News h₀ L h ((l, listOf #[.int x tx, .int y ty, .int z tz] n) :: rest)) :
    ∃ l' vs, l' = l ∧ IntsAre vs [x, y, z] ∧ News h₀ L h ((l', listOf vs.toArray n) :: rest) :=
  ⟨l, [.int x tx, .int y ty, .int z tz], rfl, .cons _ _ (.cons _ _ (.cons _ _ .nil)), N⟩
theorem cv_intf {f : Nat → Int} {is : List Nat} {ys : List Value} (h : CV (fun i y => ∃ t, y = .int (f i) t) is ys) : IntsAre ys (is.map f) := by
  induction h with
  | nil => exact IntsAre.nil
  | snoc _ hr ih =>
    obtain ⟨t, rfl⟩ := hr
    rw [List.map_append]
    exact IntsAre.append ih (IntsAre.cons _ _ IntsAre.nil)
theorem ints_to {vs : List Value} {x y z x' y' z' : Int} (h : IntsAre vs [x, y, z]) (e1 : x = x') (e2 : y = y') (e3 : z = z') : IntsAre vs [x', y', z'] := by subst e1; subst e2; subst e3; exact h
theorem range_to {h : Heap} {r : Addr} {a b b' : Int} {t u v : Tok} (hr : IsRange h r a b 1 t u v) (e : b = b') : IsRange h r a b' 1 t u v := e ▸ hr
theorem trip_at {a b c : Nat} (h : a ≤ 2 ∧ b ≤ 2 ∧ c ≤ 1) : (1 + a, 1 + a + b, 1 + a + b + c) ∈ trips := by
  have hg : (a, b, c) ∈ grows := grows_mem h
  exact trips_grow _ hg
theorem cv_alln {R : Nat → Value → Prop} {n : Nat} {ys : List Value} (h : CV R ((List.range n).filter fun _ => true) ys) : CV R (List.range n) ys := by
  rw [List.filter_eq_self.mpr (fun _ _ => rfl)] at h
  exact h
theorem eL : looseW qv looseL = looseL := by kernel_rfl!
theorem top_to {w : World} {mean : ExcName → Option Value} {mg mb : Str → Option Value} {h : Heap} (T : Top qv (looseW qv looseL) mean mg mb h) : Top qv looseL mean mg mb h := eL ▸ T
noncomputable def Guard : Prop := True
theorem Guard.on : Guard := trivial
theorem mul_ok2 {a b : Int} (h : 0 ≤ b ∧ b ≤ 1000) : IntMulOk a b := IntMulOk.of_right (intBits_le_64 (by omega) (by omega))
end Mine
end
noncomputable section
open PySem PySem.W PyProof.Rows PySem.Spec PySem.Calls
set_option linter.unusedVariables false
set_option linter.unusedSimpArgs false
set_option maxRecDepth 100000
namespace Mine
theorem cv_inv {R : Nat → Value → Prop} {js : List Nat} {ys : List Value} (h : CV R js ys) : ∀ {is : List Nat} {i : Nat}, js = is ++ [i] → ∃ zs y, ys = zs ++ [y] ∧ CV R is zs ∧ R i y := by
  cases h with
  | nil => intro is i e; simp at e
  | snoc h hr =>
    intro is i e
    obtain ⟨rfl, e2⟩ := List.append_inj' e rfl
    cases e2
    exact ⟨_, _, rfl, h, hr⟩
theorem cv3 {R : Nat → Value → Prop} {ys : List Value} (h : CV R (List.range 3) ys) : ∃ y0 y1 y2, ys = [y0, y1, y2] ∧ R 0 y0 ∧ R 1 y1 ∧ R 2 y2 := by
  obtain ⟨z2, y2, rfl, h2, r2⟩ := cv_inv h (is := [0, 1]) (i := 2) rfl
  obtain ⟨z1, y1, rfl, h1, r1⟩ := cv_inv h2 (is := [0]) (i := 1) rfl
  obtain ⟨z0, y0, rfl, h0, r0⟩ := cv_inv h1 (is := []) (i := 0) rfl
  have e := List.eq_nil_of_length_eq_zero h0.length
  subst e
  exact ⟨y0, y1, y2, rfl, r0, r1, r2⟩
noncomputable def typ (p q r : Nat) (i : Nat) (y : Value) : Prop := ∃ x t, y = .str x t ∧ TyOk ([102, 115, 107].getD i 0) (([p, q, r].getD i 0 : Nat) : Int) x ∧ (x.length : Int) ≤ (([p, q, r].getD i 0 : Nat) : Int)
theorem cv_text {p q r : Nat} {ys : List Value} (hl : p + q + r ≤ 14) (h : CV (typ p q r) (List.range 3) ys) :
    ∃ xs : List Str, StrsAre ys xs ∧ (xs.map (·.length)).sum + xs.length * 64 ≤ 16777216 ∧ prep (Txt.join (Str.ofString "") xs) = tx p q r ∧ (Txt.join (Str.ofString "") xs).length ≤ 100 ∧
      ((prepL (Txt.join (Str.ofString "") xs)).map (·.length)).sum + (prepL (Txt.join (Str.ofString "") xs)).length * 64 ≤ 16777216 := by
  obtain ⟨y0, y1, y2, rfl, ⟨x0, t0, rfl, f0, l0⟩, ⟨x1, t1, rfl, f1, l1⟩, ⟨x2, t2, rfl, f2, l2⟩⟩ := cv3 h
  have l0 : (x0.length : Int) ≤ (p : Int) := l0
  have l1 : (x1.length : Int) ≤ (q : Int) := l1
  have l2 : (x2.length : Int) ≤ (r : Int) := l2
  have f0 : flat x0 = List.replicate p 102 := f0
  have f1 : flat x1 = List.replicate q 115 := f1
  have f2 : flat x2 = List.replicate r 107 := f2
  have hj : (Txt.join (Str.ofString "") [x0, x1, x2]).cps.toList = x0.cps.toList ++ (x1.cps.toList ++ x2.cps.toList) := by
    rw [join_toList]
    simp
  have hfl : flat (Txt.join (Str.ofString "") [x0, x1, x2]) = txL p q r := by
    rw [flat_eq, hj, List.flatMap_append, List.flatMap_append, ← flat_eq, ← flat_eq, ← flat_eq, f0, f1, f2]
    show _ = List.replicate p 102 ++ List.replicate q 115 ++ List.replicate r 107
    rw [List.append_assoc]
  have hlen : (Txt.join (Str.ofString "") [x0, x1, x2]).length ≤ 14 := by
    show (Txt.join (Str.ofString "") [x0, x1, x2]).cps.size ≤ 14
    rw [← Array.length_toList, hj, List.length_append, List.length_append, Array.length_toList, Array.length_toList, Array.length_toList]
    show x0.length + (x1.length + x2.length) ≤ 14
    omega
  refine ⟨[x0, x1, x2], .cons _ _ (.cons _ _ (.cons _ _ .nil)), ?_, ?_, by omega, ?_⟩
  · show x0.length + (x1.length + (x2.length + 0)) + 3 * 64 ≤ 16777216
    omega
  · have h1 : (prep (Txt.join (Str.ofString "") [x0, x1, x2])).cps.toList = txL p q r := by rw [prep_toList, hfl]
    have h2 : (prep (Txt.join (Str.ofString "") [x0, x1, x2])).cps = (txL p q r).toArray := by rw [← h1]
    show (⟨(prep (Txt.join (Str.ofString "") [x0, x1, x2])).cps⟩ : Str) = _
    rw [h2]
    rfl
  · have h1 := prepL_len (Txt.join (Str.ofString "") [x0, x1, x2])
    rw [prepL_sum, hfl]
    have : (txL p q r).length ≤ 14 := by unfold txL; simp; omega
    omega
theorem txt_ok : ∀ t ∈ trips, (tx t.1 t.2.1 t.2.2 != Txt.mul (Str.ofString "f") ((t.1 : Nat) : Int) ++ Txt.mul (Str.ofString "s") ((t.2.1 : Nat) : Int) ++ Txt.mul (Str.ofString "k") ((t.2.2 : Nat) : Int)) = false := by decide +kernel
theorem rowE_len (x y : Int) (n : Nat) : (rowE x y n).length = n := by unfold rowE; rw [List.length_map, List.length_range]
theorem rowE_at (x y : Int) {n i : Nat} (hi : i < n) : (rowE x y n).getD ((i : Int)).toNat 0 = x + y * (i : Int) := by
  have e : ((i : Int)).toNat = i := Int.toNat_natCast i
  rw [e]
  unfold rowE
  rw [List.getD_eq_getElem?_getD, List.getElem?_map, List.getElem?_range hi]
  rfl
noncomputable def dueR (x y : Int) (a b c : Nat) (i : Nat) (v : Value) : Prop := ∃ t, v = .int (dueP (x + y * (i : Int)) i [a, b, c] (i + 1)) t
theorem cv_due {x y : Int} {a b c : Nat} {ys : List Value} (h : CV (dueR x y a b c) (List.range 3) ys) :
    IntsAre ys [dueP (x + y * 0) 0 [a, b, c] 1, dueP (x + y * 1) 1 [a, b, c] 2, dueP (x + y * 2) 2 [a, b, c] 3] := by
  obtain ⟨y0, y1, y2, rfl, ⟨t0, rfl⟩, ⟨t1, rfl⟩, ⟨t2, rfl⟩⟩ := cv3 h
  exact .cons _ _ (.cons _ _ (.cons _ _ .nil))
theorem six_of {a b c : Nat} (h : a ≤ 2 ∧ b ≤ 2 ∧ c ≤ 1) : 1 + a ≤ 6 ∧ 1 + a + b ≤ 6 ∧ 1 + a + b + c ≤ 6 ∧ 3 ≤ 1 + a + (1 + a + b) + (1 + a + b + c) := by omega
theorem ty_pre {n : Nat} {r : Int} (h : n ≤ 6) (hr : 0 ≤ r ∧ r < 1000000) : 0 ≤ (n : Int) ∧ (n : Int) ≤ 6 ∧ 0 ≤ r ∧ r < 1000000 := by omega
theorem sz_eq1 (a : Nat) : 1 + (a : Int) = ((1 + a : Nat) : Int) := by omega
theorem sz_eq2 (a b : Nat) : 1 + (a : Int) + (b : Int) = ((1 + a + b : Nat) : Int) := by omega
theorem sz_eq3 (a b c : Nat) : 1 + ((a : Int) + ((b : Int) + ((c : Int) + 0))) = ((1 + a + b + c : Nat) : Int) := by omega
theorem rng_eq (a b c : Nat) : 1 + (a : Int) + (1 + (a : Int) + (b : Int) + (1 + ((a : Int) + ((b : Int) + ((c : Int) + 0))) + 0)) = ((1 + a + (1 + a + b) + (1 + a + b + c) : Nat) : Int) := by omega
theorem three_of {i : Nat} (h : i < 3) : i = 0 ∨ i = 1 ∨ i = 2 := by omega
theorem i14_of {i n : Nat} (h : i < n) (hn : n ≤ 14) : 0 ≤ 0 + (i : Int) ∧ 0 + (i : Int) ≤ 1000 := by omega
theorem num_of {x y : Int} {i : Nat} (hx : 0 ≤ x ∧ x < 1000000) (hy : 0 ≤ y ∧ y < 1000000) (hi : i < 3) : -20000000 ≤ x - 5 + (y - 2) * (i : Int) ∧ x - 5 + (y - 2) * (i : Int) ≤ 20000000 := by
  rcases three_of hi with rfl | rfl | rfl <;> omega
theorem i63_of {i : Nat} (h : i < 3) : (i : Int) < 2 ^ 63 := by omega
theorem news_drop4 {h₀ h : Heap} {L : Addr} {x0 x1 x2 x3 x4 : Addr × Obj} {rest : List (Addr × Obj)} (N : News h₀ L h (x0 :: x1 :: x2 :: x3 :: x4 :: rest)) : News h₀ L h (x0 :: rest) := fun p hp => N p (by
  rcases List.mem_cons.mp hp with rfl | hp
  · exact .head _
  · exact .tail _ (.tail _ (.tail _ (.tail _ (.tail _ hp)))))
theorem cjA {x D y : Nat} {Q : Prop} (h : y < D ∧ Q) (k : y < D ∧ Q → x < D) : x < D := k h
theorem sz_txt0 : ∀ t ∈ trips, (Txt.mul (Str.ofString "f") ((t.1 : Nat) : Int)).length + (Txt.mul (Str.ofString "s") ((t.2.1 : Nat) : Int)).length ≤ 100 ∧ (Txt.mul (Str.ofString "f") ((t.1 : Nat) : Int) ++ Txt.mul (Str.ofString "s") ((t.2.1 : Nat) : Int)).length + (Txt.mul (Str.ofString "k") ((t.2.2 : Nat) : Int)).length ≤ 100 := by decide +kernel
theorem sz_txt {p q r : Nat} (h : (p, q, r) ∈ trips) : (Txt.mul (Str.ofString "f") (p : Int)).length + (Txt.mul (Str.ofString "s") (q : Int)).length ≤ sizeLine ∧ (Txt.mul (Str.ofString "f") (p : Int) ++ Txt.mul (Str.ofString "s") (q : Int)).length + (Txt.mul (Str.ofString "k") (r : Int)).length ≤ sizeLine :=
  ⟨Nat.le_trans (sz_txt0 _ h).1 (by rw [sizeLine_eq]; decide), Nat.le_trans (sz_txt0 _ h).2 (by rw [sizeLine_eq]; decide)⟩
theorem mul_in {n : Nat} (h : n ≤ 6) : -2 ^ 63 ≤ (n : Int) ∧ (n : Int) ≤ ((1048576 : Nat) : Int) := by omega
noncomputable def EqI (a b : Int) : Prop := a = b
theorem g_itemE {prog : Program} {w : World} {A : Around} {E : Value → Shared → Prop} {s : Shared} {h₀ : Heap} {L l : Addr} {news : List (Addr × Obj)} {value slice : Expr} {vs : List Value} {c : Nat} {ns : List Int} {k ga : Int} {u : Tok} {Q : Value → Shared → Prop}
    (N : News h₀ L s.heap news) (hm : (l, listOf vs.toArray c) ∈ news) (hi : IntsAre vs ns) (h0 : 0 ≤ k) (h1 : k < ns.length) (hf : k < 2 ^ 63) (hE : EqI (ns.getD k.toNat 0) ga) (h : ∀ t, Q (.int ga t) s)
    (hs : subscripted slice false (.ref l) (.int k u) = operate [.ref l, .int k u] (getItem (.ref l) (.int k u)) := by with_unfolding_all rfl) (hg : ∀ r, letTemporaryGo value (.ref l) r = pure () := by intro _; with_unfolding_all rfl) :
    wpAny (model prog w) A (subscriptTail value slice (.ref l) (.int k u)) Q E s := g_item N hm hi h0 h1 hf hE h hs hg
noncomputable def Guard2 : Prop := True
noncomputable def endsT (x y : Int) (a b c : Nat) : List (PyData × PyData) :=
  [(.str ⟨#[102]⟩, .int (dueP (x + y * 0) 0 [a, b, c] 1)), (.str ⟨#[115]⟩, .int (dueP (x + y * 1) 1 [a, b, c] 2)), (.str ⟨#[107]⟩, .int (dueP (x + y * 2) 2 [a, b, c] 3))]
noncomputable def lk (x y : Int) (a b c : Nat) (s : Str) : PyData := (PySem.Spec.lookup (.str s) (endsT x y a b c)).getD .none
theorem lk_cases (x y : Int) (a b c : Nat) (s : Str) : (∃ n, lk x y a b c s = .int n) ∨ lk x y a b c s = .none := by
  unfold lk endsT
  unfold PySem.Spec.lookup
  split
  · exact .inl ⟨_, rfl⟩
  · unfold PySem.Spec.lookup
    split
    · exact .inl ⟨_, rfl⟩
    · unfold PySem.Spec.lookup
      split
      · exact .inl ⟨_, rfl⟩
      · exact .inr rfl
theorem lk_carried {x y : Int} {a b c : Nat} {s : Str} {v : Value} (h : PyProof.V.Flat v (lk x y a b c s)) : Carried v (lk x y a b c s) := by
  rcases lk_cases x y a b c s with ⟨n, e⟩ | e
  · rw [e] at h ⊢
    obtain ⟨t, rfl⟩ := PyProof.V.Flat.int_inv h
    exact .int _ _
  · rw [e] at h ⊢
    rw [PyProof.V.Flat.none_inv h]
    exact .none
theorem lk_all (x y : Int) (a b c : Nat) : ((signs (Str.ofString "fsk")).filter fun _ => true).map (lk x y a b c) =
    [dueP (x + y * 0) 0 [a, b, c] 1, dueP (x + y * 1) 1 [a, b, c] 2, dueP (x + y * 2) 2 [a, b, c] 3].map PyData.int := by
  kernel_rfl!
theorem no_none {prog : Program} {w : World} {A : Around} {E : Value → Shared → Prop} {s : Shared} {l : Addr} {vs : List Value} {n0 n1 n2 : Int} {Q : Value → Shared → Prop} (hl : s.heap.IsList l vs.toArray) (hi : IntsAre vs [n0, n1, n2]) (hu : A.units + 64 < cLine)
    (h : Q (.bool true) s) : wpAny (model prog w) A (compareOp .NotIn .none (.ref l)) Q E s :=
  PySem.SeqAt.notIn_list_reads (reads_newData hl (ke_carried hi)) .none rfl rfl (by
    have e : min (PyData.depthAll ([n0, n1, n2].map PyData.int)) (PyData.depth .none) ≤ 1 := Nat.le_trans (Nat.min_le_right _ _) (by decide)
    omega) h
section
variable {prog : Program} {w : World} {A : Around} {E : Value → Shared → Prop} {s : Shared}
theorem ne_strF {x y : Str} {t u : Tok} {b : Bool} {Q : Value → Shared → Prop} (e : (x != y) = b) (h : Q (.bool b) s) : wpAny (model prog w) A (compareOp .NotEq (.str x t) (.str y u)) Q E s := PyProof.Rows.ne_str (by rw [e]; exact h)
end
end Mine
end
noncomputable section
open PySem PySem.W PyProof.Rows PySem.Spec PySem.Calls
set_option linter.unusedVariables false
set_option linter.unusedSimpArgs false
set_option maxRecDepth 100000
namespace Mine
local macro_rules | `(tactic| walk_at "subscriptTail") => `(tactic| (k_here; (with_reducible show wpAny _ _ (subscriptTail (PySem.Expr.List _ _) _ _ _) _ _ _); refine Halt.out ?_))
local macro_rules | `(tactic| walk_at "binaryOp Add ref ref") => `(tactic| (k_here; refine Halt.out ?_))
local macro_rules | `(tactic| walk_at "subscriptTail Name Constant ref int") => `(tactic| (k_here; refine Halt.out ?_))
local macro_rules | `(tactic| walk_at "subscriptTail Name Constant ref int") => `(tactic| (k_here; k_dflt (refine g_itemE (by k_asm) (by k_mem) (by with_reducible assumption) (by decide) (by first | exact lt9 (by decide) | exact lt3 (by decide)) (by decide) (by with_reducible assumption) ?_); intro t'))
local macro_rules | `(tactic| walk_at "SrcD") => `(tactic| (refine Halt.out ?_))
local macro_rules | `(tactic| walk_at "SrcA") => `(tactic| (refine Halt.out ?_))
local macro_rules | `(tactic| walk_at "eval ListComp") => `(tactic| (k_here; (have hguard := (by with_reducible assumption : Guard)); (clear hguard); k_dflt (refine eval_comp_D (F₀ := by k_asm) (by rfl) (by decide) (by rfl) (by decide) (by rfl) ?_)))
local macro_rules | `(tactic| walk_at "And") => `(tactic| ((fail_if_success (with_reducible show (Frag.In _ _) ∧ _)); (have hguard := (by with_reducible assumption : Guard)); (clear hguard); refine Halt.out ?_))
local macro_rules | `(tactic| walk_at "binaryOp Mult int int") => `(tactic| (k_here; (with_reducible refine mul_int ?_ (mul_ok2 (by with_reducible assumption)))))
local macro_rules | `(tactic| walk_at "subscriptTail Name Name ref int") => `(tactic| (k_here; k_dflt (refine g_itemE (by k_asm) (by k_mem) (by with_reducible assumption) (by decide) (by first | exact lt9 (by decide) | exact lt3 (by decide)) (by decide) (by with_reducible assumption) ?_); intro t'))
local macro_rules | `(tactic| walk_at "subscriptTail Name Name ref int") => `(tactic| (k_here; k_dflt (refine g_itemE (by k_asm) (by k_mem) (by with_reducible assumption) (by with_reducible assumption) (by with_reducible assumption) (by with_reducible assumption) (by with_reducible assumption) ?_); intro t'))
local macro_rules | `(tactic| walk_at "subscriptTail Name BinOp ref int") => `(tactic| (k_here; k_dflt (refine g_itemE (by k_asm) (by k_mem) (by with_reducible assumption) (by decide) (by first | exact lt9 (by decide) | exact lt3 (by decide)) (by decide) (by with_reducible assumption) ?_); intro t'))
local macro_rules | `(tactic| walk_at "call ref") => `(tactic| (k_here; refine Halt.out ?_))
local macro_rules | `(tactic| walk_at "call builtin:str.join") => `(tactic| (k_here; refine Halt.out ?_))
local macro_rules | `(tactic| walk_at "subscriptTail Constant Name str int") => `(tactic| (k_here; k_dflt (refine item_str (by decide +kernel) (by decide +kernel) (by decide +kernel) ?_); intro _))
local macro_rules | `(tactic| walk_at "compareOp NotEq str str") => `(tactic| (k_here; refine Halt.out ?_))
local macro_rules | `(tactic| walk_at "exec Assign cons ListComp") => `(tactic| (k_here; (have hguard := (by with_reducible assumption : Guard)); (clear hguard); k_dflt (refine assign_comp_D (F₀ := by k_asm) (by rfl) (by with_unfolding_all rfl) (by rfl) (by decide) (by rfl) (by decide) (by rfl) (by rfl) (by rfl) ?_)))
local macro_rules | `(tactic| walk_at "eval ListComp") => `(tactic| (k_here; (have hguard := (by with_reducible assumption : Guard2)); (clear hguard); refine Halt.out ?_))
local macro_rules | `(tactic| walk_at "Exists") => `(tactic| ((have hguard := (by with_reducible assumption : Guard2)); (clear hguard); refine Halt.out ?_))
local macro_rules | `(tactic| walk_at "And") => `(tactic| ((fail_if_success (with_reducible show (Frag.In _ _) ∧ _)); (have hguard := (by with_reducible assumption : Guard2)); (clear hguard); refine Halt.out ?_))
local macro_rules | `(tactic| walk_at "getMethod ref") => `(tactic| (k_here; (have hguard := (by with_reducible assumption : Guard2)); (clear hguard); refine Halt.out ?_))
local macro_rules | `(tactic| walk_at "call builtin:dict.get") => `(tactic| (k_here; (have hguard := (by with_reducible assumption : Guard2)); (clear hguard); refine Halt.out ?_))
local macro_rules | `(tactic| walk_at "compareOp Eq ref ref") => `(tactic| (k_here; refine Halt.out ?_))
local macro_rules | `(tactic| walk_at "compareOp NotIn") => `(tactic| (k_here; refine Halt.out ?_))
local macro_rules | `(tactic| k_ne) => `(tactic| (refine neN ?_; (try dsimp only); first | ((refine Nat.ne_of_lt (cjA (by with_reducible assumption) ?_); intro h; repeat (first | exact h.1 | exact h | replace h := h.2)); done) | ((refine Nat.ne_of_gt (cjA (by with_reducible assumption) ?_); intro h; repeat (first | exact h.1 | exact h | replace h := h.2)); done)))
local macro_rules | `(tactic| walk_at "binaryOp Add str str") => `(tactic| (k_here; (refine SB.add ?_ (by with_reducible assumption)); intro _ _))
set_option maxHeartbeats 2000000 in
theorem callL : CallL := by
  show WalkO qv looseL (XL qv []) (InK Kd) PySem.Challenge.rw_sn0064_01.row.toRowW lawD [] fun f vs => PySem.call f vs
  k_fill
  intro w s₀ s₁ mg mb G Y fa o pm cd doc dV kV ho hd hcd hD hmg hg args vals as hpre hlay hrd hwl hlo
  have KX := kIn_of (e := asK) Y
  have X := (Ground.X G).1
  have V := (Ground.X G).2
  refine Ground.open G ?_
  intro T B D TE TW
  try (refine guard_noD D (by decide +kernel) ?_; clear D)
  obtain ⟨_, _, M⟩ := bmod_of_top T
  have TA := at_of_top T
  try (obtain ⟨_, _, he, B0⟩ := based_of_top T rfl hmg ho hd; have he' : cd = _ := he; subst he'; clear he)
  clear hmg
  wrow_args hpre hlay hrd hwl hlo
  refine enter_call ?_
  w_top on
  try refine codeAny_mono ?_ (fun _ _ g => GoodW.toG g)
  have K0 := below_caller (Top.heap T)
  w_call any ho hd hcd hD T F
  clear hd TA
  k_drop
  all_goals (try k_fold)
  rename List Int => script
  rename Top _ _ _ _ _ _ => T0
  have T2 := top_to (w := w) T0
  rename Below _ _ _ _ => K0
  have K2 : Below callerA s₁.heap [] s₁.heap := K0
  clear K0
  rename Flt.MathXP _ _ _ => c1
  rename LooseAre _ _ _ => c2
  rename Tables _ _ _ _ => c4
  rename TopE _ _ _ _ => c5
  rename TopW _ _ _ => c6
  rename BMod _ _ _ _ _ => c7
  clear c1 c2 c4 c5 c6 c7 T0 G Y
  k_steps
  unfold Halt
  rename Fr _ _ _ _ => F1
  rename News _ _ _ _ => N1
  rename _ ≠ _ ∧ _ => q1
  clear q1
  rename _ < _ ∧ _ => q2
  clear q2
  rename _ < _ ∧ _ => q3
  clear q3
  refine kba_turn (value' := .Name (Str.ofString "_") ⟨0, 0, 0, 0⟩) (fun _ => rfl) ?_
  refine l_slice (ns := litD) F1 N1 (.head _) (by kmk_part) (by kmk_part) (.cons _ _ (.cons _ _ (.cons _ _ (.cons _ _ (.cons _ _ (.cons _ _ (.cons _ _ (.cons _ _ (.cons _ _ .nil))))))))) (by decide) ?_ (by with_unfolding_all rfl) (by kmk_pure)
  intro D9 ws9 h9 F9 N9 l9 hw9
  (try k_lt l9); (try dsimp only); (try k_fold)
  clear N1 F1
  k_steps
  unfold Halt
  rename IntsAre _ (List.map (fun k' => k'.fmod (10 ^ Int.toNat 6)) (List.take 9 script)) => hgv
  have hgl := giv_len script
  obtain ⟨a0, a1, a2, a3, a4, a5, a6, a7, a8, hds, b0, b1, b2, b3, b4, b5, b6, b7, b8⟩ := draws_at script
  refine kmk_add_ints F9 N9 (isList_of (N9 _ (.tail _ (.tail _ (.head _)))).1) (isList_of (N9 _ (.head _)).1) hgv hw9 ?_ ?_
  rotate_left
  · have h9 := congrArg List.length hds
    rw [List.length_append] at h9
    show (giv script).length + (pickNums litD (some ((giv script).length : Int)) none none).length ≤ sizeLine
    rw [h9, sizeLine_eq]
    exact (by decide : (9 : Nat) ≤ 16777216)
  intro Dd us h10 F10 N10 l10 hus
  have hus : IntsAre us [a0, a1, a2, a3, a4, a5, a6, a7, a8] := by rw [← hds]; exact hus
  clear hds hgv hw9 hgl N9 F9
  (try k_lt l10)
  have l11 := l10.2.2.2.2
  clear l10 l9
  have N11 := news_drop4 N10
  clear N10
  obtain ⟨mm, F11⟩ : ∃ mm, Fr s₁.heap s₁.heap.objs.size h10 mm := ⟨_, F10⟩
  clear F10
  (try dsimp only); (try k_fold)
  have e0 : EqI ([a0, a1, a2, a3, a4, a5, a6, a7, a8].getD (Int.toNat 0) 0) (a0) := rfl
  have e1 : EqI ([a0, a1, a2, a3, a4, a5, a6, a7, a8].getD (Int.toNat 1) 0) (a1) := rfl
  have e2 : EqI ([a0, a1, a2, a3, a4, a5, a6, a7, a8].getD (Int.toNat 2) 0) (a2) := rfl
  have e3 : EqI ([a0, a1, a2, a3, a4, a5, a6, a7, a8].getD (Int.toNat 3) 0) (a3) := rfl
  have e4 : EqI ([a0, a1, a2, a3, a4, a5, a6, a7, a8].getD (Int.toNat 4) 0) (a4) := rfl
  have e8 : EqI ([a0, a1, a2, a3, a4, a5, a6, a7, a8].getD (Int.toNat 8) 0) (a8) := rfl
  obtain ⟨a, b, c, hab, hA, hB, hC⟩ := grow_of b0 b1 b2
  have gd : Guard := Guard.on
  k_steps
  unfold Halt
  rename News _ _ _ _ => N1
  obtain ⟨lg, gvs, elg, hgi, N2⟩ := head_ints N1
  subst elg
  clear N1
  rw [hA, hB, hC] at hgi
  have g0 : EqI ([(a : Int), (b : Int), (c : Int)].getD (Int.toNat 0) 0) ((a : Int)) := rfl
  have g1 : EqI ([(a : Int), (b : Int), (c : Int)].getD (Int.toNat 1) 0) ((b : Int)) := rfl
  clear hA hB hC
  k_dflt (refine g_itemE (by k_asm) (by repeat (first | exact List.Mem.head _ | refine List.Mem.tail _ ?_)) hgi (by decide) (lt3 (by decide)) (by decide) g0 ?_)
  intro t9
  k_steps
  unfold Halt
  rename IsRange _ _ _ _ _ _ _ _ => hr
  rename Fr _ _ _ _ => F1
  rename News _ _ _ _ => N1
  obtain ⟨lz, zvs, elz, hzi, N2⟩ := head_ints N1
  subst elz
  clear N1
  replace hzi := ints_to (x' := ((1 + a : Nat) : Int)) (y' := ((1 + a + b : Nat) : Int)) (z' := ((1 + a + b + c : Nat) : Int)) hzi (sz_eq1 a) (sz_eq2 a b) (sz_eq3 a b c)
  have z0 : EqI ([((1 + a : Nat) : Int), ((1 + a + b : Nat) : Int), ((1 + a + b + c : Nat) : Int)].getD (Int.toNat 0) 0) (((1 + a : Nat) : Int)) := rfl
  have z1 : EqI ([((1 + a : Nat) : Int), ((1 + a + b : Nat) : Int), ((1 + a + b + c : Nat) : Int)].getD (Int.toNat 1) 0) (((1 + a + b : Nat) : Int)) := rfl
  have z2 : EqI ([((1 + a : Nat) : Int), ((1 + a + b : Nat) : Int), ((1 + a + b + c : Nat) : Int)].getD (Int.toNat 2) 0) (((1 + a + b + c : Nat) : Int)) := rfl
  have htr := trip_at hab
  obtain ⟨hp6, hq6, hr6, hn3⟩ := six_of hab
  have hlen := trips_len _ htr
  dsimp only at hlen
  have hr := range_to (b' := ((1 + a + (1 + a + b) + (1 + a + b + c) : Nat) : Int)) hr (rng_eq a b c)
  obtain ⟨k1, k2, k3⟩ := rng_ok hlen
  refine ⟨_, _, _, _, _, _, 1 + a + (1 + a + b) + (1 + a + b + c), _, fun _ => true, fun i y => ∃ t, y = .int (a3 - 5 + (a4 - 2) * (i : Int)) t, rfl, by exact rfl, F1, N2, hr, k1, k2, k3, ?_, ?_⟩
  · clear F1 N2 hr
    intro i t I C oI oC D ys m2 h tk dr E' hi9 hC hx2 F N off ne
    have hi14 := i14_of hi9 hlen
    refine wpAny_tests_nil ?_
    k_steps
    all_goals (unfold Halt)
    all_goals (rename Fr _ _ _ _ => F4)
    all_goals (rename News _ _ _ _ => N4)
    exact ⟨rfl, ⟨_, by rw [Int.zero_add]⟩, _, _, _, _, rfl, F4, N4, fun p hp => hp⟩
  · clear F1 N2 hr
    intro lr rvs h tk dr F N lD hcv
    have hrow : IntsAre rvs (rowE (a3 - 5) (a4 - 2) (1 + a + (1 + a + b) + (1 + a + b + c))) := cv_intf (cv_alln hcv)
    clear hcv k1 k2 k3
    (try k_lt lD)
    (try dsimp only); (try k_fold)
    k_steps
    unfold Halt
    rename IsRange _ _ _ _ _ _ _ _ => hr
    rename Fr _ _ _ _ => F1
    rename News _ _ _ _ => N1
    refine ⟨_, _, _, _, _, _, 3, _, fun _ => true, typ (1 + a) (1 + a + b) (1 + a + b + c), rfl, by exact rfl, F1, N1, hr, by decide, by decide, by decide, ?_, ?_⟩
    · clear F1 N1 hr
      have e5 : EqI ([a0, a1, a2, a3, a4, a5, a6, a7, a8].getD (Int.toNat (5 + 0)) 0) (a5) := rfl
      have e6 : EqI ([a0, a1, a2, a3, a4, a5, a6, a7, a8].getD (Int.toNat (5 + 1)) 0) (a6) := rfl
      have e7 : EqI ([a0, a1, a2, a3, a4, a5, a6, a7, a8].getD (Int.toNat (5 + 2)) 0) (a7) := rfl
      intro i t I C oI oC D ys m2 h tk dr E' hi9 hC hx2 F N off ne
      have h3 := three_of hi9
      refine wpAny_tests_nil ?_
      (try dsimp only)
      rcases h3 with rfl | rfl | rfl
      · replace hx2 : m2 _ = some (.int 0 t) := hx2
        k_steps
        unfold Halt
        rw [show Txt.item (Str.ofString "fsk") 0 = Str.ofString "f" from by kernel_rfl!]
        refine Ctr.use (c_typedf ((1 + a : Nat) : Int) a5 _ _ _ _ (ty_pre hp6 b5)) (by k_asm) (by k_asm) (by k_asm) (by k_asm) (by k_asm) (by first | exact rfl | assumption) (by first | ktr_room | omega) (by first | ktr_units | omega) ?_
        intro x9 t9 h9 tk9 hx9 F9 N9
        (try dsimp only); (try k_fold)
        k_steps
        unfold Halt
        rename Fr _ _ _ _ => F4
        rename News _ _ _ _ => N4
        exact ⟨rfl, ⟨x9, t9, rfl, hx9.1, hx9.2⟩, _, _, _, _, rfl, F4, N4, fun p hp => hp⟩
      · replace hx2 : m2 _ = some (.int 1 t) := hx2
        k_steps
        unfold Halt
        rw [show Txt.item (Str.ofString "fsk") 1 = Str.ofString "s" from by kernel_rfl!]
        refine Ctr.use (c_typeds ((1 + a + b : Nat) : Int) a6 _ _ _ _ (ty_pre hq6 b6)) (by k_asm) (by k_asm) (by k_asm) (by k_asm) (by k_asm) (by first | exact rfl | assumption) (by first | ktr_room | omega) (by first | ktr_units | omega) ?_
        intro x9 t9 h9 tk9 hx9 F9 N9
        (try dsimp only); (try k_fold)
        k_steps
        unfold Halt
        rename Fr _ _ _ _ => F4
        rename News _ _ _ _ => N4
        exact ⟨rfl, ⟨x9, t9, rfl, hx9.1, hx9.2⟩, _, _, _, _, rfl, F4, N4, fun p hp => hp⟩
      · replace hx2 : m2 _ = some (.int 2 t) := hx2
        k_steps
        unfold Halt
        rw [show Txt.item (Str.ofString "fsk") 2 = Str.ofString "k" from by kernel_rfl!]
        refine Ctr.use (c_typedk ((1 + a + b + c : Nat) : Int) a7 _ _ _ _ (ty_pre hr6 b7)) (by k_asm) (by k_asm) (by k_asm) (by k_asm) (by k_asm) (by first | exact rfl | assumption) (by first | ktr_room | omega) (by first | ktr_units | omega) ?_
        intro x9 t9 h9 tk9 hx9 F9 N9
        (try dsimp only); (try k_fold)
        k_steps
        unfold Halt
        rename Fr _ _ _ _ => F4
        rename News _ _ _ _ => N4
        exact ⟨rfl, ⟨x9, t9, rfl, hx9.1, hx9.2⟩, _, _, _, _, rfl, F4, N4, fun p hp => hp⟩
    · clear F1 N1 hr
      intro D ys h tk dr F N lD hcv
      obtain ⟨xs, hxs, s1, s2, s3, s4⟩ := cv_text hlen (cv_alln hcv)
      clear hcv
      (try k_lt lD)
      (try dsimp only); (try k_fold)
      k_steps
      unfold Halt
      refine join_listC (ys := xs) (isList_of (N _ (.head _)).1) hxs (by decide) s1 ?_
      intro t9 k9
      (try dsimp only); (try k_fold)
      k_steps
      unfold Halt
      refine Ctr.use (c_prep _ _ _ s3 s4) (by k_asm) (by k_asm) (by k_asm) (by k_asm) (by k_asm) (by first | exact rfl | assumption) (by first | ktr_room | omega) (by first | ktr_units | omega) ?_
      intro t10 h10 tk10 F10 N10
      rw [s2]
      obtain ⟨sz1, sz2⟩ := sz_txt htr
      obtain ⟨m1, m2⟩ := mul_in hp6
      obtain ⟨m3, m4⟩ := mul_in hq6
      obtain ⟨m5, m6⟩ := mul_in hr6
      clear s1 s2 s3 s4 hxs
      (try dsimp only); (try k_fold)
      k_steps
      unfold Halt
      refine ne_strF (txt_ok _ htr) ?_
      (try dsimp only); (try k_fold)
      k_steps
      unfold Halt
      rename News _ _ _ _ => N1
      refine Ctr.use (c_ends _ _ _ a8 lr rvs _ _ _ _ _ hrow (rowE_len _ _ _) htr ⟨b8.1, Int.le_of_lt b8.2⟩) (by k_asm) (by k_asm) (by k_asm) (news_cons N1 (by repeat (first | exact List.Mem.head _ | refine List.Mem.tail _ ?_))) (by k_asm) (by first | exact rfl | assumption) (by first | ktr_room | omega) (by first | ktr_units | omega) ?_
      intro De oe h12 tk12 dr12 F12 N12 l12 lo12 tab12
      rw [go_due hab.1 hab.2.1 hab.2.2] at tab12
      change TabOf _ _ _ (endsT (a3 - 5) (a4 - 2) a b c) at tab12
      (try k_lt l12)
      (try dsimp only); (try k_fold)
      k_steps
      unfold Halt
      rename IsRange _ _ _ _ _ _ _ _ => hr
      rename Fr _ _ _ _ => F1
      rename News _ _ _ _ => N1
      refine ⟨_, _, _, _, _, _, 3, _, fun _ => true, dueR (a3 - 5) (a4 - 2) a b c, rfl, by exact rfl, F1, N1, hr, by decide, by decide, by decide, ?_, ?_⟩
      · clear F1 N1 hr
        intro i t I C oI oC D ys m2 h tk dr E' hi9 hC hx2 F N off ne
        have hnum := num_of b3 b4 hi9
        have hi63 := i63_of hi9
        have hi0 : 0 ≤ (i : Int) := Int.natCast_nonneg i
        have hrw : EqI _ _ := rowE_at (a3 - 5) (a4 - 2) (n := 1 + a + (1 + a + b) + (1 + a + b + c)) (i := i) (Nat.lt_of_lt_of_le hi9 hn3)
        have hrl : (i : Int) < ((rowE (a3 - 5) (a4 - 2) (1 + a + (1 + a + b) + (1 + a + b + c))).length : Int) := by rw [rowE_len]; exact Int.ofNat_lt.mpr (Nat.lt_of_lt_of_le hi9 hn3)
        rw [Int.zero_add] at hx2
        refine wpAny_tests_nil ?_
        (try dsimp only)
        k_steps
        unfold Halt
        rename News _ _ _ _ => N1
        refine Ctr.use (c_due _ a8 i a b c lg gvs _ _ _ _ _ hgi (Nat.le_of_lt_succ hi9) hab ⟨b8.1, Int.le_of_lt b8.2⟩ hnum) (by k_asm) (by k_asm) (by k_asm) (news_cons N1 (by repeat (first | exact List.Mem.head _ | refine List.Mem.tail _ ?_))) (by k_asm) (by first | exact rfl | assumption) (by first | ktr_room | omega) (by first | ktr_units | omega) ?_
        intro t9 h9 tk9 dr9 F9 N9
        have N9 := news_tail N9
        (try dsimp only); (try k_fold)
        k_steps
        unfold Halt
        rename Fr _ _ _ _ => F4
        rename News _ _ _ _ => N4
        exact ⟨rfl, ⟨t9, rfl⟩, _, _, _, _, rfl, F4, N4, fun p hp => hp⟩
      · clear F1 N1 hr
        intro Du dys h tk dr F N lD hcv
        have hdu := cv_due (cv_alln hcv)
        clear hcv
        (try k_lt lD)
        (try dsimp only); (try k_fold)
        clear gd
        have g2 : Guard2 := trivial
        k_steps
        unfold Halt
        rename Fr _ _ _ _ => F1
        rename News _ _ _ _ => N1
        refine ListComp_S (pz := fun _ => true) (d := lk (a3 - 5) (a4 - 2) a b c) F1 N1 (by with_unfolding_all rfl) (by with_unfolding_all rfl) (by decide) (by with_unfolding_all rfl) (by decide) (by with_unfolding_all rfl) ?_ (fun _ => rfl)
        k_steps
        unfold Halt
        refine ⟨_, _, rfl, by decide +kernel, F1, N1, ?_, ?_, ?_⟩
        · intro C a9 t s₂ m₂ E' ha hNs hm hk F N hIn
          show wpAny _ _ (pure true) _ _ _
          exact wpAny_pure ⟨rfl, _, _, rfl, fun _ _ e => e⟩
        · clear F1 N1
          intro C a9 t s₂ m₂ E' ha hp hNs hm hk F N hIn
          k_steps
          unfold Halt
          refine getMethod_strTab_get (TabOf.tabAt tab12 N (by repeat (first | exact List.Mem.head _ | refine List.Mem.tail _ ?_)) lo12) ?_
          k_steps
          unfold Halt
          refine call_get1_strTab (TabOf.tabAt tab12 N (by repeat (first | exact List.Mem.head _ | refine List.Mem.tail _ ?_)) lo12) ?_
          intro v9 hv9
          k_steps
          unfold Halt
          exact ⟨lk_carried hv9, _, _, rfl, fun _ _ e => e⟩
        · clear F1 N1
          intro D8 ys8 h8 tk8 F8 N8 hD8 hL8 hP8 hC8
          rw [lk_all] at hC8
          have hi8 := IntsAre.ofCarried hC8
          (try dsimp only); (try k_fold)
          k_steps
          unfold Halt
          refine ke_eq_ints hL8 (isList_of (N8 _ (by repeat (first | exact List.Mem.head _ | refine List.Mem.tail _ ?_))).1) hi8 hdu (by first | ktr_units | omega) ?_
          rw [decide_eq_true rfl]
          (try dsimp only); (try k_fold)
          k_steps
          unfold Halt
          refine no_none (isList_of (N8 _ (by repeat (first | exact List.Mem.head _ | refine List.Mem.tail _ ?_))).1) hdu (by first | ktr_units | omega) ?_
          (try dsimp only); (try k_fold)
          k_steps
end Mine
end
noncomputable section
open PySem PySem.W PySem.Calls PyProof.Rows
set_option linter.unusedVariables false
set_option maxRecDepth 100000
namespace Mine
theorem ws : PySem.Challenge.rw_sn0064_01.wellSaid = true := by rw [PySem.W.Fast.te9446332074065402090]; kernel_rfl
end Mine
set_option maxHeartbeats 8000000 in
theorem Mine.head (hc : Mine.CallL) : PySem.Challenge.rw_sn0064_01.Holds := by
  w_on
  refine holds_law Mine.ws fun said => ?_
  refine holds_open (q := Mine.qv) (loose := Mine.looseL) (Xt := Mine.XtL) (XP := XL Mine.qv []) (Yf := Mine.YfL) (Ya := Mine.YaL) (YP := InK Mine.Kd) (d := Mine.lawD) (kwd := []) (N := 20000) Mine.left (InK.of Mine.asK) InK.keeps (fun s e => xl_of s (Bool.and_eq_true_iff.mp e).1) XL.keeps ?h1 ?h2 ?h3 (fun s e => recFacts_of (Bool.and_eq_true_iff.mp e).2) ?h4 (by assumption) ?h5 ⟨rfl, rfl, rfl, rfl, rfl, by decide +kernel⟩ ?hw hc
  case h1 => kernel_rfl!
  case h2 => kernel_rfl!
  case h3 => kernel_rfl!
  case h4 => rfl
  case h5 => decide +kernel
  case hw => w_witness2
end
theorem PySem.Challenge.cw_sn0064_01_holds : PySem.Challenge.rw_sn0064_01.Holds := by
  exact Mine.head Mine.callL
