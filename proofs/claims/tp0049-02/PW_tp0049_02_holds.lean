import PyProof.Rows.All
import Wide.All
import OpenK.AllK
import Wide.FinOn
import Lean
import PySem.Challenge.RW_tp0049_02
open PySem PySem.W PyProof.Rows
set_option Elab.async false
set_option maxRecDepth 100000
set_option linter.unusedVariables false
set_option linter.all false
namespace T49
section
section does
variable {pr : Program} {w : World} {n₀ : Nat} {ann : Option Value} {c : Code} {q : Pos}

theorem segGo_add {tb : String → Option Builtin} {b : Nat} : ∀ {m n : Nat} {s s₁ : Shared} {t t₁ : Thread} {r : Option (Shared × Thread)},
    segGo tb pr w n₀ ann b m s t = some (s₁, t₁) → segGo tb pr w n₀ ann b n s₁ t₁ = r → segGo tb pr w n₀ ann b (m + n) s t = r
  | 0, n, s, s₁, t, t₁, r, h, k => by
    obtain ⟨rfl, rfl⟩ : s = s₁ ∧ t = t₁ := by simpa [segGo] using h
    rw [Nat.zero_add]; exact k
  | m + 1, n, s, s₁, t, t₁, r, h, k => by
    rw [show m + 1 + n = m + n + 1 by omega]
    unfold segGo at h ⊢
    cases he : endAt b t with
    | some f => rw [he] at h; cases h
    | none =>
      rw [he] at h
      cases hk : stepOk n₀ ann t with
      | false => rw [hk] at h; cases h
      | true =>
        rw [hk] at h
        cases hs : step (denote tb) pr w s t with
        | halt o s₂ => rw [hs] at h; cases h
        | go s₂ t₂ => rw [hs] at h; exact segGo_add h k

noncomputable def Does (pr : Program) (w : World) (n₀ : Nat) (ann : Option Value) (c : Code) (q : Pos) {α : Type} (n : Nat) (x : Sem α) (s : Shared) (p : Pos) (a : α) (s' : Shared) (p' : Pos) : Prop :=
  ∀ (K : α → Sem Fin) (H : Value → Sem Fin) (gd : Bool → Bool) (lv : List Value → List Value),
    segGo treeTable pr w n₀ ann 1 n s ⟨x.wrap K H gd lv, c, p, [topFrame q]⟩ = some (s', ⟨K a, c, p', [topFrame q]⟩)


end does
section does
variable {pr : Program} {w : World} {n₀ : Nat} {ann : Option Value} {c : Code} {q : Pos} {α β : Type}

theorem D_pure {a : α} {s : Shared} {p : Pos} : Does pr w n₀ ann c q 0 (pure a) s p a s p := fun _ _ _ _ => rfl
theorem D_bind {m n : Nat} {x : Sem α} {f : α → Sem β} {s s₁ s₂ : Shared} {p p₁ p₂ : Pos} {a : α} {b : β} (h : Does pr w n₀ ann c q m x s p a s₁ p₁) (k : Does pr w n₀ ann c q n (f a) s₁ p₁ b s₂ p₂) :
    Does pr w n₀ ann c q (m + n) (x >>= f) s p b s₂ p₂ := fun K H gd lv => by
  rw [Sem.bind_eq_wrap', Sem.wrap_wrap]
  exact segGo_add (h _ _ _ _) (k K H gd lv)
theorem D_keep {n : Nat} {x : Sem α} {vs : List Value} {s s₁ : Shared} {p p₁ : Pos} {a : α} (h : Does pr w n₀ ann c q n x s p a s₁ p₁) : Does pr w n₀ ann c q n (x.keep vs) s p a s₁ p₁ := fun K H gd lv => by
  rw [Sem.keep_eq_wrap, Sem.wrap_wrap]
  exact h _ _ _ _
theorem D_holding {n : Nat} {x : Sem α} {vs : List Value} {s s₁ : Shared} {p p₁ : Pos} {a : α} (h : Does pr w n₀ ann c q n x s p a s₁ p₁) : Does pr w n₀ ann c q n (holding vs x) s p a s₁ p₁ := by
  unfold holding
  split
  · exact h
  · exact D_keep h
theorem D_onRaise {n : Nat} {x : Sem α} {g : Value → Sem Unit} {s s₁ : Shared} {p p₁ : Pos} {a : α} (h : Does pr w n₀ ann c q n x s p a s₁ p₁) : Does pr w n₀ ann c q n (x.onRaise g) s p a s₁ p₁ := fun K H gd lv => by
  rw [Sem.onRaise_eq_wrap, Sem.wrap_wrap]
  exact h _ _ _ _
theorem D_tryCatch {n : Nat} {x : Sem α} {g : Value → Sem α} {s s₁ : Shared} {p p₁ : Pos} {a : α} (h : Does pr w n₀ ann c q n x s p a s₁ p₁) : Does pr w n₀ ann c q n (tryCatch x g) s p a s₁ p₁ := fun K H gd lv => by
  show segGo _ _ _ _ _ _ _ _ ⟨((Sem.tryCatch x g).wrap K H gd lv), _, _, _⟩ = _
  rw [Sem.tryCatch_eq_wrap, Sem.wrap_wrap]
  exact h _ _ _ _
theorem D_rule {tag : String} {s : Shared} {p : Pos} : Does pr w n₀ ann c q 1 (rule tag) s p () s p := fun _ _ _ _ => by obtain ⟨h, g, d, t, o⟩ := s; rfl
theorem D_point {s : Shared} {p : Pos} : Does pr w n₀ ann c q 1 point s p () s p := fun _ _ _ _ => by obtain ⟨h, g, d, t, o⟩ := s; rfl
theorem D_at {p₁ : Pos} {s : Shared} {p : Pos} : Does pr w n₀ ann c q 1 (standAt p₁) s p () s p₁ := fun _ _ _ _ => by obtain ⟨h, g, d, t, o⟩ := s; rfl
theorem D_fresh {s : Shared} {p : Pos} : Does pr w n₀ ann c q 1 fresh s p s.toks { s with toks := s.toks + 1 } p := fun _ _ _ _ => by obtain ⟨h, g, d, t, o⟩ := s; rfl
theorem D_ask {s : Shared} {p : Pos} : Does pr w n₀ ann c q 1 ask s p ⟨pr, w.params⟩ s p := fun _ _ _ _ => by obtain ⟨h, g, d, t, o⟩ := s; rfl
theorem D_loadPart {a : Addr} {part : Option Value} {o : Obj} {s : Shared} {p : Pos} (ho : s.heap.get? a = some o) : Does pr w n₀ ann c q 1 (loadPart a part) s p o s p := fun K H gd lv => by
  obtain ⟨h, g, d, t, os⟩ := s
  show (match step (denote treeTable) pr w ⟨h, g, d, t, os⟩ ⟨.load a part (fun x => K x), c, p, [topFrame q]⟩ with | .go s' t' => segGo treeTable pr w n₀ ann 1 0 s' t' | .halt _ _ => none) = _
  simp only [step, ho]
  rfl
theorem D_load {a : Addr} {o : Obj} {s : Shared} {p : Pos} (ho : s.heap.get? a = some o) : Does pr w n₀ ann c q 1 (load a) s p o s p := D_loadPart ho
theorem D_alloc {o : Obj} {s : Shared} {p : Pos} : Does pr w n₀ ann c q 1 (alloc o) s p s.heap.objs.size { s with heap := s.heap.push o } p := fun _ _ _ _ => by obtain ⟨h, g, d, t, os⟩ := s; rfl
theorem D_updatePart {a : Addr} {part : Option Value} {f : Obj → Obj} {o : Obj} {s : Shared} {p : Pos} (ho : s.heap.get? a = some o) (hn : Nat.ble n₀ a = true) :
    Does pr w n₀ ann c q 1 (updatePart a part f) s p () { s with heap := s.heap.update a f } p := fun K H gd lv => by
  obtain ⟨h, g, d, t, os⟩ := s
  have e : stepOk n₀ ann ⟨.update a part f (fun x => K x), c, p, [topFrame q]⟩ = true := by
    show (true && (Nat.ble n₀ a || a == mainNs || a == cStatics || ann == some (.ref a))) = true
    rw [hn]; rfl
  show (match stepOk n₀ ann ⟨.update a part f (fun x => K x), c, p, [topFrame q]⟩ with
    | false => none
    | true => match step (denote treeTable) pr w ⟨h, g, d, t, os⟩ ⟨.update a part f (fun x => K x), c, p, [topFrame q]⟩ with | .go s' t' => segGo treeTable pr w n₀ ann 1 0 s' t' | .halt _ _ => none) = _
  rw [e]
  have ho' : (h.get? a).isSome = true := by rw [ho]; rfl
  simp only [step, ho', if_true]
  rfl
theorem D_cast {m n : Nat} {x : Sem α} {s s' : Shared} {p p' : Pos} {a : α} (h : Does pr w n₀ ann c q m x s p a s' p') (e : m = n) : Does pr w n₀ ann c q n x s p a s' p' := e ▸ h
theorem D_mkInt {i : Int} {s : Shared} {p : Pos} : Does pr w n₀ ann c q 1 (mkInt i) s p (.int i s.toks) { s with toks := s.toks + 1 } p := D_bind (f := fun t => pure (Value.int i t)) D_fresh D_pure
theorem D_mkText {x : Str} {s : Shared} {p : Pos} : Does pr w n₀ ann c q 1 (mkText x) s p (.str x s.toks) { s with toks := s.toks + 1 } p := D_bind (f := fun t => pure (Value.str x t)) D_fresh D_pure
theorem D_forIn_nil {γ : Type} {f : α → γ → Sem (ForInStep γ)} {b : γ} {s : Shared} {p : Pos} : Does pr w n₀ ann c q 0 (forIn ([] : List α) b f) s p b s p := by
  rw [List.forIn_nil]; exact D_pure
theorem D_forIn_cons {γ : Type} {f : α → γ → Sem (ForInStep γ)} {a : α} {l : List α} {b b₁ b₂ : γ} {s s₁ s₂ : Shared} {p p₁ p₂ : Pos} {m n : Nat} (h : Does pr w n₀ ann c q m (f a b) s p (.yield b₁) s₁ p₁) (k : Does pr w n₀ ann c q n (forIn l b₁ f) s₁ p₁ b₂ s₂ p₂) :
    Does pr w n₀ ann c q (m + n) (forIn (a :: l) b f) s p b₂ s₂ p₂ := by
  rw [List.forIn_cons]; exact D_bind h k

theorem hash_tree (k : Int) (t : Tok) : specialOf (.int k t) "__hash__" = pure (some (.builtin "int.__hash__")) := by kernel_rfl
theorem hash_room (k : Int) (t : Tok) : cRoomFor "hash" [.int k t] = pure () := by kernel_rfl
theorem hash_bind (k : Int) (t : Tok) : bindSpecial (.builtin "int.__hash__") (.int k t) = pure (.builtin "int.__hash__", [.int k t]) := by kernel_rfl
theorem D_hash_call {k : Int} {t : Tok} {bd : List Stmt} {env : Env} {s : Shared} {p : Pos} :
    Does pr w n₀ ann (.body bd env) q 4 (runValue (.call (.builtin "int.__hash__") ⟨[.int k t], []⟩)) s p (.int (rawHash k) s.toks) { s with toks := s.toks + 1 } p := fun K H gd lv => by
  obtain ⟨h, g, d, t, o⟩ := s
  kernel_rfl

theorem D_eq {n : Nat} {x y : Sem α} {s s' : Shared} {p p' : Pos} {a : α} (e : x = y) (h : Does pr w n₀ ann c q n y s p a s' p') : Does pr w n₀ ann c q n x s p a s' p' := e ▸ h
theorem D_bindSpecial {k : Int} {t : Tok} {s : Shared} {p : Pos} : Does pr w n₀ ann c q 1 (bindSpecialIfBound? (.int k t) "__hash__") s p (some (.builtin "int.__hash__", [.int k t])) s p := by
  unfold bindSpecialIfBound?
  refine D_cast (m := 0 + (1 + 0)) ?_ rfl
  refine D_bind (D_eq (hash_tree k t) D_pure) ?_
  dsimp only
  refine D_bind D_ask ?_
  dsimp only
  have hb : Does pr w n₀ ann c q 0 (do return some (← bindSpecial (.builtin "int.__hash__") (.int k t)) : Sem (Option (Value × List Value))) s p (some (.builtin "int.__hash__", [.int k t])) s p := by
    refine D_cast (m := 0 + 0) (D_bind (D_eq (hash_bind k t) D_pure) D_pure) rfl
  split
  · exact hb
  · exact D_tryCatch hb
theorem D_callSpecial {k : Int} {t : Tok} {bd : List Stmt} {env : Env} {rf : Sem Value} {s : Shared} {p : Pos} :
    Does pr w n₀ ann (.body bd env) q 5 (callSpecialIfBoundUnlessNone? (.int k t) "__hash__" rf) s p (some (.int (rawHash k) s.toks)) { s with toks := s.toks + 1 } p := by
  unfold callSpecialIfBoundUnlessNone?
  refine D_holding ?_
  refine D_cast (m := 1 + 4) ?_ rfl
  refine D_bind D_bindSpecial ?_
  dsimp only
  rw [if_neg (fun h => Value.noConfusion (eq_of_beq h))]
  exact D_cast (m := 4 + 0) (D_bind D_hash_call D_pure) rfl
theorem D_pyHash {k : Int} {t : Tok} {bd : List Stmt} {env : Env} {s : Shared} {p : Pos} :
    Does pr w n₀ ann (.body bd env) q 5 (pyHash (.int k t)) s p (hashInt k) { s with toks := s.toks + 1 } p := by
  have hr := rawHash_range k
  unfold pyHash
  refine D_cast (m := 0 + (0 + (0 + (5 + 0)))) ?_ rfl
  refine D_bind (D_eq (hash_room k t) D_pure) ?_
  refine D_bind (D_eq (hash_tree k t) D_pure) ?_
  show Does pr w n₀ ann _ q _ (if (some (Value.builtin "int.__hash__") == some Value.none) = true then _ else _) _ _ _ _ _
  rw [if_neg (by rw [beq_builtin_none]; exact Bool.false_ne_true)]
  refine D_bind (D_eq (hash_tree k t) D_pure) ?_
  show Does pr w n₀ ann _ q _ (callSpecialIfBoundUnlessNone? (.int k t) "__hash__" _ >>= _) _ _ _ _ _
  refine D_bind D_callSpecial ?_
  show Does pr w n₀ ann _ q _ (if (decide (-(2 : Int) ^ 63 ≤ rawHash k) && decide (rawHash k < 2 ^ 63)) = true then _ else _) _ _ _ _ _
  rw [if_pos (by rw [decide_eq_true hr.1, decide_eq_true hr.2]; rfl)]
  exact D_pure
theorem hashInt_nat {k : Nat} (h : k < 2 ^ 31) : hashInt (k : Int) = k := by
  have : rawHash (k : Int) = k := by
    unfold rawHash
    have h1 : (((k : Int).natAbs : Nat) : Int) % ((2 ^ 61 - 1 : Nat) : Int) = k := by
      rw [Int.natAbs_natCast]; exact Int.emod_eq_of_lt (by omega) (by omega)
    dsimp only
    have h2 : ¬ ((k : Int) < 0) := by omega
    simp only [h1, h2, if_false]
    rw [if_neg (by simp only [beq_iff_eq]; omega)]
  unfold hashInt
  rw [this, if_neg (by simp only [beq_iff_eq]; omega)]

variable {life : Life} {gens : Array GenState} {drawn : Drawn} {os : OsState}
noncomputable def stL (life : Life) (gens : Array GenState) (drawn : Drawn) (os : OsState) (l : List Obj) (t : Nat) : Shared := ⟨⟨l.toArray, life⟩, gens, drawn, t, os⟩
noncomputable def dObj (es : List DictEntry) (n : Nat) : Obj := ⟨.type "dict", none, .dict es.toArray n, #[]⟩
theorem get_at (A : List Obj) (es : List DictEntry) (n : Nat) (R : List Obj) (t : Nat) : (stL life gens drawn os (A ++ dObj es n :: R) t).heap.get? A.length = some (dObj es n) := by
  unfold stL Heap.get?
  simp [dObj]
theorem modify_at {γ : Type} (f : γ → γ) (x : γ) (R : List γ) : ∀ A : List γ, (A ++ x :: R).modify A.length f = A ++ f x :: R
  | [] => rfl
  | a :: A => by simp [modify_at f x R A]
theorem upd_at (A : List Obj) (es : List DictEntry) (n : Nat) (R : List Obj) (t : Nat) (e : DictEntry) :
    { stL life gens drawn os (A ++ dObj es n :: R) t with heap := (stL life gens drawn os (A ++ dObj es n :: R) t).heap.update A.length (Obj.mapDictKeys (·.push e)) } = stL life gens drawn os (A ++ dObj (es ++ [e]) (n + 1) :: R) t := by
  unfold stL Heap.update
  simp only [List.modify_toArray, modify_at]
  simp [dObj, Obj.mapDictKeys]
theorem push_at (l : List Obj) (t : Nat) (o : Obj) : { stL life gens drawn os l t with heap := (stL life gens drawn os l t).heap.push o } = stL life gens drawn os (l ++ [o]) t := by
  unfold stL Heap.push
  simp
theorem size_at (l : List Obj) (t : Nat) : (stL life gens drawn os l t).heap.objs.size = l.length := by
  unfold stL
  simp

noncomputable abbrev noHash (es : List DictEntry) (h : Int) : Prop := ∀ e ∈ es, e.hash ≠ h
theorem D_dictFind {A R : List Obj} {es : List DictEntry} {n t : Nat} {k : Int} {tk : Tok} {h : Int} {p : Pos} (hn : noHash es h) :
    Does pr w n₀ ann c q 1 (dictFind A.length (.int k tk) h) (stL life gens drawn os (A ++ dObj es n :: R) t) p none (stL life gens drawn os (A ++ dObj es n :: R) t) p := by
  have hp : placesWithHash es.toArray.size (fun i => es.toArray[i]?.map (·.hash)) h = [] := by
    unfold placesWithHash
    rw [List.filter_eq_nil_iff]
    intro i hi
    rw [List.mem_range] at hi
    simp only [List.size_toArray] at hi
    simp only [List.getElem?_toArray, List.getElem?_eq_getElem hi, Option.map_some, beq_iff_eq, Option.some.injEq]
    exact hn _ (List.getElem_mem hi)
  unfold dictFind
  refine D_holding ?_
  refine D_cast (m := (1 + 0) + 0) ?_ rfl
  refine D_bind (a := es.toArray) (D_bind (D_loadPart (get_at A es n R t)) D_pure) ?_
  dsimp only
  have hall : ((Value.int k tk :: (placesWithHash es.toArray.size (fun i => es.toArray[i]?.map (·.hash)) h).filterMap fun i => es.toArray[i]?.map (·.key)).all carriedByValue) = true := by
    rw [hp]; rfl
  rw [if_pos hall, hp]
  unfold dictWalkPlain
  refine D_cast (m := 0 + 0) (D_bind (D_forIn_nil) D_pure) rfl
theorem D_updateKeys {A R : List Obj} {es : List DictEntry} {n t : Nat} {e : DictEntry} {part : Option Value} {p : Pos} (hA : Nat.ble n₀ A.length = true) (hs : es.length < 5000) :
    Does pr w n₀ ann c q 3 (updateDictKeys A.length (·.push e) part) (stL life gens drawn os (A ++ dObj es n :: R) t) p () (stL life gens drawn os (A ++ dObj (es ++ [e]) (n + 1) :: R) t) p := by
  unfold updateDictKeys
  refine D_cast (m := 1 + (1 + 1)) ?_ rfl
  refine D_bind (D_loadPart (get_at A es n R t)) ?_
  show Does pr w n₀ ann c q _ (updatePart A.length part (Obj.mapDictKeys fun x => x.push e) >>= fun _ => lookBehind A.length part) _ _ _ _ _
  refine D_bind (D_updatePart (get_at A es n R t) hA) ?_
  rw [upd_at]
  unfold lookBehind
  refine D_cast (m := 1 + 0) ?_ rfl
  refine D_bind (D_loadPart (get_at A (es ++ [e]) (n + 1) R t)) ?_
  have : (dObj (es ++ [e]) (n + 1)).data.pastItsLine = none := by
    show (if (es ++ [e]).toArray.size > sizeLine + 1 then some _ else none) = none
    rw [if_neg]
    rw [sizeLine_eq]
    simp only [List.size_toArray, List.length_append, List.length_cons, List.length_nil]
    omega
  rw [this]
  exact D_pure
theorem D_dictSet {A R : List Obj} {es : List DictEntry} {n t : Nat} {k : Nat} {tk : Tok} {v : Value} {bd : List Stmt} {env : Env} {p : Pos} (hA : Nat.ble n₀ A.length = true) (hs : es.length < 5000) (hk : k < 2 ^ 31) (hn : noHash es k) :
    Does pr w n₀ ann (.body bd env) q 10 (dictSet A.length (.int k tk) v) (stL life gens drawn os (A ++ dObj es n :: R) t) p () (stL life gens drawn os (A ++ dObj (es ++ [⟨k, .int k tk, v⟩]) (n + 1) :: R) (t + 1)) p := by
  unfold dictSet
  refine D_holding ?_
  refine D_cast (m := 5 + 5) ?_ rfl
  refine D_bind D_pyHash ?_
  rw [hashInt_nat hk]
  show Does pr w n₀ ann _ q 5 (dictSetHashed A.length (.int k tk) k v) (stL life gens drawn os (A ++ dObj es n :: R) (t + 1)) p () _ p
  unfold dictSetHashed
  refine D_holding ?_
  refine D_cast (m := 1 + (1 + 3)) ?_ rfl
  refine D_bind (D_dictFind hn) ?_
  dsimp only
  refine D_bind D_rule ?_
  exact D_updateKeys hA hs
theorem D_dictPut {A R : List Obj} {es : List DictEntry} {n t : Nat} {k : Nat} {tk : Tok} {v : Value} {p : Pos} (hA : Nat.ble n₀ A.length = true) (hs : es.length < 5000) (hn : noHash es k) :
    Does pr w n₀ ann c q 4 (dictPut A.length k (.int k tk) v) (stL life gens drawn os (A ++ dObj es n :: R) t) p () (stL life gens drawn os (A ++ dObj (es ++ [⟨k, .int k tk, v⟩]) (n + 1) :: R) t) p := by
  unfold dictPut
  refine D_cast (m := 1 + 3) ?_ rfl
  refine D_bind (D_dictFind hn) ?_
  dsimp only
  exact D_updateKeys hA hs
end does
end
section
section does
variable {pr : Program} {w : World} {n₀ : Nat} {ann : Option Value} {q : Pos} {bd : List Stmt} {env : Env} {life : Life} {gens : Array GenState} {drawn : Drawn} {os : OsState}

noncomputable def ent (t : Nat) (x : Nat × List Nat) : DictEntry := ⟨(x.1 : Int), .int (x.1 : Int) t, .str ⟨x.2.toArray⟩ (t + 1)⟩
noncomputable def ents : Nat → List (Nat × List Nat) → List DictEntry
  | _, [] => []
  | t, x :: r => ent t x :: ents (t + 3) r
noncomputable def ents2 : Nat → List (Nat × List Nat) → List DictEntry
  | _, [] => []
  | t, x :: r => ent t x :: ents2 (t + 2) r
noncomputable def pairOf (pos : Pos) (x : Nat × List Nat) : Sem Value × Sem Value := (mkInt (x.1 : Int), do let v ← mkText ⟨x.2.toArray⟩; standAt pos; pure v)

/-- keys rise above lo -/
noncomputable def asc : Int → List (Nat × List Nat) → Prop
  | _, [] => True
  | lo, x :: r => lo < x.1 ∧ x.1 < 2 ^ 31 ∧ asc x.1 r
noncomputable abbrev below (es : List DictEntry) (lo : Int) : Prop := ∀ e ∈ es, e.hash ≤ lo
theorem below_noHash {es : List DictEntry} {lo h : Int} (b : below es lo) (hl : lo < h) : noHash es h := fun e he q => by have := b e he; omega
theorem below_snoc {es : List DictEntry} {lo : Int} {e : DictEntry} (b : below es lo) (hl : lo < e.hash) : below (es ++ [e]) e.hash := fun x hx => by
  rcases List.mem_append.mp hx with hx | hx
  · have := b x hx; omega
  · rw [List.mem_singleton.mp hx]; exact Int.le_refl _

theorem D_loop {pos : Pos} {A : List Obj} {f : Sem Value × Sem Value → PUnit → Sem (ForInStep PUnit)}
    (hf : ∀ (x : Nat × List Nat) (es : List DictEntry) (n t : Nat), es.length < 5000 → x.1 < 2 ^ 31 → noHash es x.1 →
      Does pr w n₀ ann (.body bd env) q 13 (f (pairOf pos x) PUnit.unit) (stL life gens drawn os (A ++ [dObj es n]) t) pos (.yield PUnit.unit) (stL life gens drawn os (A ++ [dObj (es ++ [ent t x]) (n + 1)]) (t + 3)) pos) :
    ∀ (l : List (Nat × List Nat)) {lo : Int} {es : List DictEntry} {n t : Nat}, asc lo l → below es lo → es.length + l.length < 5000 →
      Does pr w n₀ ann (.body bd env) q (13 * l.length) (forIn (l.map (pairOf pos)) PUnit.unit f) (stL life gens drawn os (A ++ [dObj es n]) t) pos PUnit.unit (stL life gens drawn os (A ++ [dObj (es ++ ents t l) (n + l.length)]) (t + 3 * l.length)) pos
  | [], _, es, n, t, _, _, _ => by
    simp only [ents, List.append_nil, List.length_nil, Nat.mul_zero, Nat.add_zero, List.map_nil]
    exact D_forIn_nil
  | x :: l, lo, es, n, t, ha, hb, hs => by
    simp only [List.length_cons] at hs
    have k := D_loop hf l (es := es ++ [ent t x]) (n := n + 1) (t := t + 3) ha.2.2 (below_snoc (e := ent t x) hb ha.1) (by simp only [List.length_append, List.length_cons, List.length_nil]; omega)
    have h := hf x es n t (by omega) ha.2.1 (below_noHash hb ha.1)
    have r := D_forIn_cons h k
    rw [List.map_cons]
    simp only [List.append_assoc, List.cons_append, List.nil_append] at r
    refine D_cast ?_ (show 13 + 13 * l.length = 13 * (x :: l).length by rw [List.length_cons]; omega)
    rw [show n + (x :: l).length = n + 1 + l.length by rw [List.length_cons]; omega, show t + 3 * (x :: l).length = t + 3 + 3 * l.length by rw [List.length_cons]; omega]
    exact r

theorem D_pairVal {x : List Nat} {pos : Pos} {l : List Obj} {t : Nat} {c : Code} {p : Pos} : Does pr w n₀ ann c q 2 (do let v ← mkText ⟨x.toArray⟩; standAt pos; pure v) (stL life gens drawn os l t) p (.str ⟨x.toArray⟩ t) (stL life gens drawn os l (t + 1)) pos :=
  D_cast (m := 1 + (1 + 0)) (D_bind D_mkText (D_bind D_at D_pure)) rfl

theorem D_subDict {pos : Pos} {A : List Obj} {l : List (Nat × List Nat)} {t : Nat} (hA : Nat.ble n₀ A.length = true) (ha : asc (-1) l) (h15 : 15 < l.length) (hs : l.length < 5000) :
    Does pr w n₀ ann (.body bd env) q (2 + 13 * l.length) (subDict (l.map (pairOf pos))) (stL life gens drawn os A t) pos A.length (stL life gens drawn os (A ++ [dObj (ents t l) l.length]) (t + 3 * l.length)) pos := by
  unfold subDict
  refine D_cast (m := 1 + (1 + 13 * l.length + 0)) ?_ (by omega)
  refine D_bind (a := A.length) (s₁ := stL life gens drawn os (A ++ [dObj [] 0]) t) (p₁ := pos) ?_ ?_
  · have := D_alloc (pr := pr) (w := w) (n₀ := n₀) (ann := ann) (c := .body bd env) (q := q) (o := { cls := .type "dict", data := .dict #[] }) (s := stL life gens drawn os A t) (p := pos)
    rw [size_at, push_at] at this
    exact this
  · refine D_bind (a := ()) (p₁ := pos) (s₁ := stL life gens drawn os (A ++ [dObj (ents t l) l.length]) (t + 3 * l.length)) ?_ D_pure
    refine D_holding ?_
    rw [if_neg (by rw [List.length_map]; omega)]
    refine D_bind D_rule ?_
    have k := D_loop (pr := pr) (w := w) (n₀ := n₀) (ann := ann) (q := q) (bd := bd) (env := env) (life := life) (gens := gens) (drawn := drawn) (os := os) (pos := pos) (A := A)
      (f := fun x _ => do let kv ← x.1; let vv ← holding [kv] x.2; holding [kv, vv] (dictSet A.length kv vv); pure (ForInStep.yield PUnit.unit))
      (fun x es n t he hx hn => by
        dsimp only [pairOf]
        refine D_cast (m := 1 + (2 + (10 + 0))) ?_ rfl
        refine D_bind D_mkInt ?_
        refine D_bind (D_holding D_pairVal) ?_
        refine D_bind (D_holding (D_dictSet hA he hx hn)) ?_
        exact D_pure) l (lo := -1) (es := []) (n := 0) (t := t) ha (fun e he => (nomatch he)) (by simpa using hs)
    rw [Nat.zero_add, List.nil_append] at k
    exact D_cast (D_bind k D_pure) (Nat.add_zero _)

/-- entries with int keys that rise above lo -/
noncomputable def ascE : Int → List DictEntry → Prop
  | _, [] => True
  | lo, e :: r => lo < e.hash ∧ (∃ (k : Nat) (tk : Tok) (v : Value), e = ⟨(k : Int), .int (k : Int) tk, v⟩) ∧ ascE e.hash r
theorem ascE_ents : ∀ (l : List (Nat × List Nat)) {lo : Int} {t : Nat}, asc lo l → ascE lo (ents t l)
  | [], _, _, _ => trivial
  | x :: l, _, t, h => ⟨h.1, ⟨x.1, t, _, rfl⟩, ascE_ents l h.2.2⟩
theorem ascE_ents2 : ∀ (l : List (Nat × List Nat)) {lo : Int} {t : Nat}, asc lo l → ascE lo (ents2 t l)
  | [], _, _, _ => trivial
  | x :: l, _, t, h => ⟨h.1, ⟨x.1, t, _, rfl⟩, ascE_ents2 l h.2.2⟩
theorem ents_length : ∀ (l : List (Nat × List Nat)) (t : Nat), (ents t l).length = l.length
  | [], _ => rfl
  | x :: l, t => by rw [ents, List.length_cons, List.length_cons, ents_length l]
theorem ents2_length : ∀ (l : List (Nat × List Nat)) (t : Nat), (ents2 t l).length = l.length
  | [], _ => rfl
  | x :: l, t => by rw [ents2, List.length_cons, List.length_cons, ents2_length l]

theorem get_sub (A R : List Obj) (es : List DictEntry) (n : Nat) (sub : List DictEntry) (k : Nat) (t : Nat) : (stL life gens drawn os (A ++ dObj es n :: (R ++ [dObj sub k])) t).heap.get? (A.length + 1 + R.length) = some (dObj sub k) := by
  have := get_at (life := life) (gens := gens) (drawn := drawn) (os := os) (A ++ dObj es n :: R) sub k [] t
  simp only [List.append_assoc, List.cons_append, List.length_append, List.length_cons] at this
  rw [show A.length + 1 + R.length = A.length + (R.length + 1) by omega]
  exact this

theorem D_mergeLoop {A R : List Obj} {sub : List DictEntry} {k t : Nat} {pos : Pos} {f : Nat → PUnit → Sem (ForInStep PUnit)}
    (hf : ∀ (i : Nat) (e : DictEntry) (es : List DictEntry) (n : Nat), sub[i]? = some e → (∃ (k : Nat) (tk : Tok) (v : Value), e = ⟨(k : Int), .int (k : Int) tk, v⟩) → es.length < 5000 → noHash es e.hash →
      Does pr w n₀ ann (.body bd env) q 6 (f i PUnit.unit) (stL life gens drawn os (A ++ dObj es n :: (R ++ [dObj sub k])) t) pos (.yield PUnit.unit) (stL life gens drawn os (A ++ dObj (es ++ [e]) (n + 1) :: (R ++ [dObj sub k])) t) pos) :
    ∀ (post pre : List DictEntry) {lo : Int} {es : List DictEntry} {n : Nat}, sub = pre ++ post → ascE lo post → below es lo → es.length + post.length < 5000 →
      Does pr w n₀ ann (.body bd env) q (6 * post.length) (forIn (List.range' pre.length post.length) PUnit.unit f) (stL life gens drawn os (A ++ dObj es n :: (R ++ [dObj sub k])) t) pos PUnit.unit (stL life gens drawn os (A ++ dObj (es ++ post) (n + post.length) :: (R ++ [dObj sub k])) t) pos
  | [], pre, _, es, n, _, _, _, _ => by
    simp only [List.append_nil, List.length_nil, Nat.mul_zero, Nat.add_zero, List.range'_zero]
    exact D_forIn_nil
  | e :: post, pre, lo, es, n, hs, ha, hb, hl => by
    simp only [List.length_cons] at hl
    have h := hf pre.length e es n (by rw [hs]; simp) ha.2.1 (by omega) (below_noHash hb ha.1)
    have r := D_mergeLoop hf post (pre ++ [e]) (es := es ++ [e]) (n := n + 1) (by rw [hs]; simp) ha.2.2 (below_snoc hb ha.1) (by simp only [List.length_append, List.length_cons, List.length_nil]; omega)
    rw [List.length_append, List.length_cons, List.length_nil, Nat.zero_add] at r
    have z := D_forIn_cons h r
    simp only [List.append_assoc, List.cons_append, List.nil_append] at z
    rw [List.length_cons, List.range'_succ, show n + (post.length + 1) = n + 1 + post.length by omega]
    exact D_cast z (by omega)

theorem isDict : isSubtype (.type "dict") (.type "dict") = pure true := by kernel_rfl
theorem iterDict : typeLookup (.type "dict") "__iter__" = pure (some (.builtin "dict.__iter__")) := by kernel_rfl
theorem D_merge {A R : List Obj} {es sub : List DictEntry} {n k t : Nat} {lo : Int} {pos : Pos} (hA : Nat.ble n₀ A.length = true) (hS : 1 < A.length) (hne : es ≠ []) (ha : ascE lo sub) (hb : below es lo) (hl : es.length + sub.length < 5000) :
    Does pr w n₀ ann (.body bd env) q (5 + 6 * sub.length) (mergeMapping A.length (.ref (A.length + 1 + R.length)) false) (stL life gens drawn os (A ++ dObj es n :: (R ++ [dObj sub k])) t) pos ()
      (stL life gens drawn os (A ++ dObj (es ++ sub) (n + sub.length) :: (R ++ [dObj sub k])) t) pos := by
  unfold mergeMapping
  have hne' : (A.length + 1 + R.length == sysModules) = false := by
    rw [beq_eq_false_iff_ne]
    show ¬ (@Eq Nat (A.length + 1 + R.length) 1)
    omega
  refine D_cast (m := 1 + (1 + (0 + (1 + (1 + (1 + (6 * sub.length + 0))))))) ?_ (by omega)
  refine D_bind (a := true) (s₁ := stL life gens drawn os (A ++ dObj es n :: (R ++ [dObj sub k])) t) (p₁ := pos) ?_ ?_
  · unfold isInstance
    refine D_cast (m := 1 + 0) ?_ rfl
    refine D_bind (a := .type "dict") (s₁ := stL life gens drawn os (A ++ dObj es n :: (R ++ [dObj sub k])) t) (p₁ := pos) ?_ ?_
    · exact D_cast (m := 1 + 0) (D_bind (f := fun o : Obj => pure o.cls) (D_loadPart (get_sub A R es n sub k t)) D_pure) rfl
    · exact D_eq isDict D_pure
  dsimp only
  rw [if_pos rfl]
  refine D_bind (a := some (.builtin "dict.__iter__")) (s₁ := stL life gens drawn os (A ++ dObj es n :: (R ++ [dObj sub k])) t) (p₁ := pos) ?_ ?_
  · unfold specialOf
    refine D_cast (m := 1 + 0) ?_ rfl
    refine D_bind (a := .type "dict") (s₁ := stL life gens drawn os (A ++ dObj es n :: (R ++ [dObj sub k])) t) (p₁ := pos) ?_ ?_
    · exact D_cast (m := 1 + 0) (D_bind (f := fun o : Obj => pure o.cls) (D_loadPart (get_sub A R es n sub k t)) D_pure) rfl
    · exact D_eq iterDict D_pure
  · have : ((some (Value.builtin "dict.__iter__")) == some (Value.builtin "dict.__iter__")) = true := beq_self_eq_true _
    rw [this]
    refine D_bind D_pure ?_
    dsimp only
    rw [hne']
    rw [if_neg Bool.false_ne_true]
    refine D_bind (a := es.toArray) (s₁ := stL life gens drawn os (A ++ dObj es n :: (R ++ [dObj sub k])) t) (p₁ := pos) (D_cast (m := 1 + 0) (D_bind (D_loadPart (get_at A es n _ t)) D_pure) rfl) ?_
    rw [if_neg (by simpa using hne)]
    refine D_bind (a := sub.toArray) (s₁ := stL life gens drawn os (A ++ dObj es n :: (R ++ [dObj sub k])) t) (p₁ := pos) (D_cast (m := 1 + 0) (D_bind (D_loadPart (get_sub A R es n sub k t)) D_pure) rfl) ?_
    refine D_bind (a := k) (s₁ := stL life gens drawn os (A ++ dObj es n :: (R ++ [dObj sub k])) t) (p₁ := pos) (D_cast (m := 1 + 0) (D_bind (D_loadPart (get_sub A R es n sub k t)) D_pure) rfl) ?_
    refine D_bind (a := PUnit.unit) ?_ D_pure
    rw [List.size_toArray, List.range_eq_range']
    refine D_mergeLoop (fun i e es n hi he hs hn => ?_) sub [] (lo := lo) rfl ha hb hl
    obtain ⟨k', tk, v, rfl⟩ := he
    refine D_cast (m := 1 + (4 + (1 + 0))) ?_ rfl
    refine D_bind (a := sub.toArray) (D_cast (m := 1 + 0) (D_bind (D_loadPart (get_sub A R es n sub k t)) D_pure) rfl) ?_
    rw [List.getElem?_toArray, hi]
    dsimp only
    rw [if_neg Bool.false_ne_true]
    refine D_bind (D_holding (D_dictPut hA hs hn)) ?_
    refine D_bind (a := k) (D_cast (m := 1 + 0) (D_bind (D_loadPart (get_sub A R _ _ sub k t)) D_pure) rfl) ?_
    rw [if_neg (by simp)]
    exact D_pure
end does
end
section
section does
variable {pr : Program} {w : World} {n₀ : Nat} {ann : Option Value} {q : Pos} {bd : List Stmt} {env : Env} {life : Life} {gens : Array GenState} {drawn : Drawn} {os : OsState} {pos : Pos}

noncomputable def vals : Nat → List (Nat × List Nat) → List (Value × Value)
  | _, [] => []
  | t, x :: r => (.int (x.1 : Int) t, .str ⟨x.2.toArray⟩ (t + 1)) :: vals (t + 2) r
theorem vals_length : ∀ (l : List (Nat × List Nat)) (t : Nat), (vals t l).length = l.length
  | [], _ => rfl
  | x :: l, t => by rw [vals, List.length_cons, List.length_cons, vals_length l]

theorem D_evalPairs {A : List Obj} : ∀ (l : List (Nat × List Nat)) {t : Nat}, Does pr w n₀ ann (.body bd env) q (3 * l.length) (evalPairs (l.map (pairOf pos))) (stL life gens drawn os A t) pos (vals t l) (stL life gens drawn os A (t + 2 * l.length)) pos
  | [], t => by
    simp only [List.map_nil, List.length_nil, Nat.mul_zero, Nat.add_zero, vals]
    unfold evalPairs
    exact D_pure
  | x :: l, t => by
    rw [List.map_cons, pairOf, evalPairs]
    refine D_cast (m := 1 + (2 + (3 * l.length + 0))) ?_ (by rw [List.length_cons]; omega)
    refine D_bind D_mkInt ?_
    refine D_bind (D_holding D_pairVal) ?_
    have k := D_evalPairs (A := A) l (t := t + 1 + 1)
    refine D_bind (D_holding k) ?_
    rw [show t + 2 * (x :: l).length = t + 1 + 1 + 2 * l.length by rw [List.length_cons]; omega]
    exact D_pure

theorem D_storeLoop {A : List Obj} {f : Value × Value → PUnit → Sem (ForInStep PUnit)}
    (hf : ∀ (k : Nat) (tk : Tok) (v : Value) (es : List DictEntry) (n t : Nat), es.length < 5000 → k < 2 ^ 31 → noHash es k →
      Does pr w n₀ ann (.body bd env) q 10 (f (.int (k : Int) tk, v) PUnit.unit) (stL life gens drawn os (A ++ [dObj es n]) t) pos (.yield PUnit.unit) (stL life gens drawn os (A ++ [dObj (es ++ [⟨(k : Int), .int (k : Int) tk, v⟩]) (n + 1)]) (t + 1)) pos) :
    ∀ (l : List (Nat × List Nat)) {lo : Int} {es : List DictEntry} {n t u : Nat}, asc lo l → below es lo → es.length + l.length < 5000 →
      Does pr w n₀ ann (.body bd env) q (10 * l.length) (forIn (vals u l) PUnit.unit f) (stL life gens drawn os (A ++ [dObj es n]) t) pos PUnit.unit (stL life gens drawn os (A ++ [dObj (es ++ ents2 u l) (n + l.length)]) (t + l.length)) pos
  | [], _, es, n, t, u, _, _, _ => by
    simp only [ents2, vals, List.append_nil, List.length_nil, Nat.mul_zero, Nat.add_zero]
    exact D_forIn_nil
  | x :: l, lo, es, n, t, u, ha, hb, hs => by
    simp only [List.length_cons] at hs
    have k := D_storeLoop hf l (es := es ++ [ent u x]) (n := n + 1) (t := t + 1) (u := u + 2) ha.2.2 (below_snoc (e := ent u x) hb ha.1) (by simp only [List.length_append, List.length_cons, List.length_nil]; omega)
    have h := hf x.1 u (.str ⟨x.2.toArray⟩ (u + 1)) es n t (by omega) ha.2.1 (below_noHash hb ha.1)
    have r := D_forIn_cons h k
    simp only [List.append_assoc, List.cons_append, List.nil_append] at r
    refine D_cast ?_ (show 10 + 10 * l.length = 10 * (x :: l).length by rw [List.length_cons]; omega)
    rw [show n + (x :: l).length = n + 1 + l.length by rw [List.length_cons]; omega, show t + (x :: l).length = t + 1 + l.length by rw [List.length_cons]; omega]
    exact r

theorem D_subShort {A : List Obj} {l : List (Nat × List Nat)} {t : Nat} (hA : Nat.ble n₀ A.length = true) (ha : asc (-1) l) (h15 : l.length ≤ 15) :
    Does pr w n₀ ann (.body bd env) q (1 + 13 * l.length) (subDict (l.map (pairOf pos))) (stL life gens drawn os A t) pos A.length (stL life gens drawn os (A ++ [dObj (ents2 t l) l.length]) (t + 3 * l.length)) pos := by
  unfold subDict
  refine D_cast (m := 1 + (3 * l.length + 10 * l.length + 0)) ?_ (by omega)
  refine D_bind (a := A.length) (s₁ := stL life gens drawn os (A ++ [dObj [] 0]) t) (p₁ := pos) ?_ ?_
  · have := D_alloc (pr := pr) (w := w) (n₀ := n₀) (ann := ann) (c := .body bd env) (q := q) (o := { cls := .type "dict", data := .dict #[] }) (s := stL life gens drawn os A t) (p := pos)
    rw [size_at, push_at] at this
    exact this
  · refine D_bind (a := ()) (p₁ := pos) (s₁ := stL life gens drawn os (A ++ [dObj (ents2 t l) l.length]) (t + 3 * l.length)) ?_ D_pure
    refine D_holding ?_
    rw [if_pos (by rw [List.length_map]; omega)]
    refine D_bind (D_evalPairs l) ?_
    refine D_holding ?_
    have k := D_storeLoop (pr := pr) (w := w) (n₀ := n₀) (ann := ann) (q := q) (bd := bd) (env := env) (life := life) (gens := gens) (drawn := drawn) (os := os) (pos := pos) (A := A)
      (f := fun x _ => do dictSet A.length x.1 x.2; pure (ForInStep.yield PUnit.unit))
      (fun k tk v es n t he hx hn => by
        refine D_cast (m := 10 + 0) ?_ rfl
        refine D_bind (D_dictSet hA he hx hn) ?_
        exact D_pure) l (lo := -1) (es := []) (n := 0) (t := t + 2 * l.length) (u := t) ha (fun e he => (nomatch he)) (by simp only [List.length_nil]; omega)
    rw [Nat.zero_add, List.nil_append, show t + 2 * l.length + l.length = t + 3 * l.length by omega] at k
    exact D_cast (D_bind k D_pure) (Nat.add_zero _)

noncomputable abbrev DispS := Option Addr × List (Sem Value × Sem Value)
noncomputable def conv (pos : Pos) (x : Nat × List Nat) : Option (Sem Value) × Sem Value := (some (pairOf pos x).1, (pairOf pos x).2)
structure Disp (pr : Program) (w : World) (n₀ : Nat) (ann : Option Value) (c : Code) (q : Pos) (pos : Pos) (f : Option (Sem Value) × Sem Value → DispS → Sem (ForInStep DispS)) : Prop where
  more : ∀ (x : Nat × List Nat) (main : Option Addr) (run : List (Sem Value × Sem Value)) (s : Shared) (p : Pos), run.length + 1 < 17 → Does pr w n₀ ann c q 0 (f (conv pos x) (main, run)) s p (.yield (main, run ++ [pairOf pos x])) s p
  first : ∀ (x : Nat × List Nat) (run : List (Sem Value × Sem Value)) (s : Shared) (p : Pos) (n : Nat) (d : Addr) (s' : Shared) (p' : Pos), run.length + 1 = 17 → Does pr w n₀ ann c q n (subDict (run ++ [pairOf pos x])) s p d s' p' →
    Does pr w n₀ ann c q n (f (conv pos x) (none, run)) s p (.yield (some d, [])) s' p'
  next : ∀ (x : Nat × List Nat) (d : Addr) (run : List (Sem Value × Sem Value)) (s : Shared) (p : Pos) (n m : Nat) (sub : Addr) (s₁ : Shared) (p₁ : Pos) (s' : Shared) (p' : Pos), run.length + 1 = 17 → Does pr w n₀ ann c q n (subDict (run ++ [pairOf pos x])) s p sub s₁ p₁ →
    Does pr w n₀ ann c q m (mergeMapping d (.ref sub) false) s₁ p₁ () s' p' → Does pr w n₀ ann c q (n + m) (f (conv pos x) (some d, run)) s p (.yield (some d, [])) s' p'

section
variable {c : Code} {f : Option (Sem Value) × Sem Value → DispS → Sem (ForInStep DispS)} (F : Disp pr w n₀ ann c q pos f)
include F
theorem D_gather {rest : List (Option (Sem Value) × Sem Value)} {main : Option Addr} {s s' : Shared} {p p' : Pos} {b : DispS} {n : Nat} :
    ∀ (l : List (Nat × List Nat)) (run : List (Sem Value × Sem Value)), run.length + l.length < 17 → Does pr w n₀ ann c q n (forIn rest (main, run ++ l.map (pairOf pos)) f) s p b s' p' → Does pr w n₀ ann c q n (forIn (l.map (conv pos) ++ rest) (main, run) f) s p b s' p'
  | [], run, _, h => by simpa using h
  | x :: l, run, hl, h => by
    simp only [List.length_cons] at hl
    rw [List.map_cons, List.cons_append]
    refine D_cast (m := 0 + n) ?_ (Nat.zero_add n)
    refine D_forIn_cons (F.more x main run s p (by omega)) ?_
    exact D_gather l (run ++ [pairOf pos x]) (by simp only [List.length_append, List.length_cons, List.length_nil]; omega) (by simpa using h)
theorem D_gather_all {main : Option Addr} {s : Shared} {p : Pos} (l : List (Nat × List Nat)) (hl : l.length < 17) : Does pr w n₀ ann c q 0 (forIn (l.map (conv pos)) (main, []) f) s p (main, l.map (pairOf pos)) s p := by
  have := D_gather F (rest := []) (main := main) (s := s) (p := p) (b := (main, l.map (pairOf pos))) (n := 0) (s' := s) (p' := p) l [] (by simpa using hl) (by rw [List.nil_append]; exact D_forIn_nil)
  simpa using this
theorem D_first {rest : List (Option (Sem Value) × Sem Value)} {l : List (Nat × List Nat)} {s s₁ s' : Shared} {p p₁ p' : Pos} {b : DispS} {n m : Nat} {d : Addr} (hl : l.length = 17) (h : Does pr w n₀ ann c q n (subDict (l.map (pairOf pos))) s p d s₁ p₁)
    (k : Does pr w n₀ ann c q m (forIn rest (some d, []) f) s₁ p₁ b s' p') : Does pr w n₀ ann c q (n + m) (forIn (l.map (conv pos) ++ rest) (none, []) f) s p b s' p' := by
  have hne : l ≠ [] := by intro e; rw [e] at hl; cases hl
  have e : l = l.dropLast ++ [l.getLast hne] := (List.dropLast_concat_getLast hne).symm
  have hd : l.dropLast.length = 16 := by rw [List.length_dropLast, hl]
  rw [e, List.map_append, List.append_assoc]
  refine D_gather F _ _ (by rw [List.length_nil, hd]; decide) ?_
  rw [List.map_cons, List.map_nil, List.cons_append, List.nil_append, List.nil_append]
  refine D_forIn_cons (F.first _ _ s p n d s₁ p₁ (by rw [List.length_map, hd]) ?_) k
  rw [e, List.map_append] at h
  exact h
theorem D_next {rest : List (Option (Sem Value) × Sem Value)} {l : List (Nat × List Nat)} {s s₁ s₂ s' : Shared} {p p₁ p₂ p' : Pos} {b : DispS} {n n' m : Nat} {d sub : Addr} (hl : l.length = 17) (h : Does pr w n₀ ann c q n (subDict (l.map (pairOf pos))) s p sub s₁ p₁)
    (h' : Does pr w n₀ ann c q n' (mergeMapping d (.ref sub) false) s₁ p₁ () s₂ p₂) (k : Does pr w n₀ ann c q m (forIn rest (some d, []) f) s₂ p₂ b s' p') : Does pr w n₀ ann c q (n + n' + m) (forIn (l.map (conv pos) ++ rest) (some d, []) f) s p b s' p' := by
  have hne : l ≠ [] := by intro e; rw [e] at hl; cases hl
  have e : l = l.dropLast ++ [l.getLast hne] := (List.dropLast_concat_getLast hne).symm
  have hd : l.dropLast.length = 16 := by rw [List.length_dropLast, hl]
  rw [e, List.map_append, List.append_assoc]
  refine D_gather F _ _ (by rw [List.length_nil, hd]; decide) ?_
  rw [List.map_cons, List.map_nil, List.cons_append, List.nil_append, List.nil_append]
  refine D_forIn_cons (F.next _ d _ s p n n' sub s₁ p₁ s₂ p₂ (by rw [List.length_map, hd]) ?_ h') k
  rw [e, List.map_append] at h
  exact h
end

/-- the sub dicts of the middle chunks -/
noncomputable def subsOf : Nat → List (List (Nat × List Nat)) → List Obj
  | _, [] => []
  | t, ch :: r => dObj (ents t ch) ch.length :: subsOf (t + 51) r
theorem ents_append : ∀ (a b : List (Nat × List Nat)) (t : Nat), ents t (a ++ b) = ents t a ++ ents (t + 3 * a.length) b
  | [], b, t => rfl
  | x :: a, b, t => by
    rw [List.cons_append, ents, ents, ents_append a b (t + 3), List.cons_append, List.length_cons, show t + 3 + 3 * a.length = t + 3 * (a.length + 1) by omega]
theorem asc_left : ∀ {a b : List (Nat × List Nat)} {lo : Int}, asc lo (a ++ b) → asc lo a
  | [], _, _, _ => trivial
  | x :: a, b, lo, h => ⟨h.1, h.2.1, asc_left h.2.2⟩
theorem asc_mono : ∀ {a : List (Nat × List Nat)} {lo lo' : Int}, asc lo a → lo' ≤ lo → asc lo' a
  | [], _, _, _, _ => trivial
  | x :: a, _, _, h, hl => ⟨Int.lt_of_le_of_lt hl h.1, h.2⟩
/-- the greatest key so far -/
noncomputable def top : Int → List (Nat × List Nat) → Int
  | lo, [] => lo
  | _, x :: r => top x.1 r
theorem asc_right : ∀ {a b : List (Nat × List Nat)} {lo : Int}, asc lo (a ++ b) → asc (top lo a) b
  | [], _, _, h => h
  | x :: a, b, lo, h => asc_right (a := a) h.2.2
theorem le_top : ∀ {a : List (Nat × List Nat)} {lo : Int}, asc lo a → lo ≤ top lo a
  | [], _, _ => Int.le_refl _
  | x :: a, lo, h => Int.le_trans (Int.le_of_lt h.1) (le_top h.2.2)
theorem below_top : ∀ {a : List (Nat × List Nat)} {lo : Int} {t : Nat}, asc lo a → below (ents t a) (top lo a)
  | [], _, _, _ => fun e he => (nomatch he)
  | x :: a, lo, t, h => fun e he => by
    rcases List.mem_cons.mp he with rfl | he
    · exact le_top h.2.2
    · exact below_top (a := a) h.2.2 e he
theorem below_app {es es' : List DictEntry} {lo lo' : Int} (h : below es lo) (h' : below es' lo') (hl : lo ≤ lo') : below (es ++ es') lo' := fun e he => by
  rcases List.mem_append.mp he with he | he
  · exact Int.le_trans (h e he) hl
  · exact h' e he

theorem D_chunks {f : Option (Sem Value) × Sem Value → DispS → Sem (ForInStep DispS)} (F : Disp pr w n₀ ann (.body bd env) q pos f) {A : List Obj} (hA : Nat.ble n₀ A.length = true) (hS : 1 < A.length) {rest : List (Option (Sem Value) × Sem Value)} {s' : Shared} {p' : Pos} {b : DispS} {m : Nat} :
    ∀ (cs : List (List (Nat × List Nat))) {R : List Obj} {es : List DictEntry} {n t : Nat} {lo : Int}, (∀ ch ∈ cs, ch.length = 17) → asc lo cs.flatten → -1 ≤ lo → below es lo → es ≠ [] → es.length + cs.flatten.length < 5000 →
      Does pr w n₀ ann (.body bd env) q m (forIn rest (some A.length, []) f) (stL life gens drawn os (A ++ dObj (es ++ ents t cs.flatten) (n + cs.flatten.length) :: (R ++ subsOf t cs)) (t + 51 * cs.length)) pos b s' p' →
      Does pr w n₀ ann (.body bd env) q (330 * cs.length + m) (forIn (cs.flatten.map (conv pos) ++ rest) (some A.length, []) f) (stL life gens drawn os (A ++ dObj es n :: R) t) pos b s' p'
  | [], R, es, n, t, lo, _, _, _, _, _, _, k => by
    simpa [ents, subsOf] using k
  | ch :: cs, R, es, n, t, lo, hc, ha, h1, hb, hne, hl, k => by
    have hch : ch.length = 17 := hc ch (List.mem_cons_self ..)
    rw [List.flatten_cons] at ha hl k ⊢
    rw [List.length_append, hch] at hl
    have ha1 := asc_left ha
    have ha2 := asc_right ha
    rw [List.map_append, List.append_assoc]
    have hsub := D_subDict (pr := pr) (w := w) (n₀ := n₀) (ann := ann) (q := q) (bd := bd) (env := env) (life := life) (gens := gens) (drawn := drawn) (os := os) (pos := pos) (A := A ++ dObj es n :: R) (l := ch) (t := t)
      (Nat.ble_eq_true_of_le (by have := Nat.le_of_ble_eq_true hA; simp only [List.length_append, List.length_cons]; omega)) (asc_mono ha1 h1) (by omega) (by omega)
    simp only [List.append_assoc, List.cons_append, List.length_append, List.length_cons] at hsub
    rw [show A.length + (R.length + 1) = A.length + 1 + R.length by omega] at hsub
    have hm := D_merge (pr := pr) (w := w) (n₀ := n₀) (ann := ann) (q := q) (bd := bd) (env := env) (life := life) (gens := gens) (drawn := drawn) (os := os) (A := A) (R := R) (es := es) (sub := ents t ch) (n := n) (k := ch.length) (t := t + 3 * ch.length) (pos := pos) hA hS hne (ascE_ents ch ha1) hb (by rw [ents_length]; omega)
    have hr := D_chunks F hA hS cs (R := R ++ [dObj (ents t ch) ch.length]) (es := es ++ ents t ch) (n := n + (ents t ch).length) (t := t + 3 * ch.length) (lo := top lo ch) (fun x hx => hc x (List.mem_cons_of_mem _ hx)) ha2
      (Int.le_trans h1 (le_top ha1)) (below_app hb (below_top ha1) (le_top ha1)) (by intro e; exact hne (List.append_eq_nil_iff.mp e).1) (by rw [List.length_append, ents_length]; omega)
      (by
        rw [ents_append, List.length_append] at k
        simp only [List.append_assoc, List.cons_append, List.nil_append, ents_length] at k ⊢
        rw [subsOf] at k
        rw [hch] at k ⊢
        rw [show t + 51 * (ch :: cs).length = t + 3 * 17 + 51 * cs.length by rw [List.length_cons]; omega, show n + (17 + cs.flatten.length) = n + 17 + cs.flatten.length by omega] at k
        exact k)
    have z := D_next F hch hsub hm hr
    refine D_cast z ?_
    rw [ents_length, hch, List.length_cons]
    omega

theorem D_display {A : List Obj} (hA : Nat.ble n₀ A.length = true) (hS : 1 < A.length) {c0 last : List (Nat × List Nat)} {cs : List (List (Nat × List Nat))} {t : Nat} (h0 : c0.length = 17) (hc : ∀ ch ∈ cs, ch.length = 17) (hl0 : last ≠ []) (hl : last.length ≤ 15)
    (ha : asc (-1) (c0 ++ (cs.flatten ++ last))) (hs : c0.length + cs.flatten.length + last.length < 5000) :
    Does pr w n₀ ann (.body bd env) q (223 + (330 * cs.length + (6 + 19 * last.length))) (dictDisplay ((c0 ++ (cs.flatten ++ last)).map (conv pos))) (stL life gens drawn os A t) pos (.ref A.length)
      (stL life gens drawn os (A ++ dObj (ents t (c0 ++ cs.flatten) ++ ents2 (t + 51 + 51 * cs.length) last) (17 + cs.flatten.length + last.length) :: (subsOf (t + 51) cs ++ [dObj (ents2 (t + 51 + 51 * cs.length) last) last.length])) (t + 51 + 51 * cs.length + 3 * last.length)) pos := by
  have ha0 := asc_left ha
  have ha12 := asc_right ha
  have ha1 := asc_left ha12
  have ha2 := asc_right ha12
  unfold dictDisplay
  dsimp only
  refine D_cast (m := (223 + (330 * cs.length + 0)) + ((6 + 19 * last.length) + 0)) ?_ (by omega)
  refine D_bind (a := (some A.length, last.map (pairOf pos))) (s₁ := stL life gens drawn os (A ++ dObj (ents t (c0 ++ cs.flatten)) (17 + cs.flatten.length) :: subsOf (t + 51) cs) (t + 51 + 51 * cs.length)) (p₁ := pos) ?_ ?_
  · have key : ∀ f, Disp pr w n₀ ann (.body bd env) q pos f → Does pr w n₀ ann (.body bd env) q (223 + (330 * cs.length + 0)) (forIn ((c0 ++ (cs.flatten ++ last)).map (conv pos)) ((none, []) : DispS) f) (stL life gens drawn os A t) pos (some A.length, last.map (pairOf pos))
        (stL life gens drawn os (A ++ dObj (ents t (c0 ++ cs.flatten)) (17 + cs.flatten.length) :: subsOf (t + 51) cs) (t + 51 + 51 * cs.length)) pos := fun f F => by
      rw [List.map_append, List.map_append]
      have hsub := D_subDict (pr := pr) (w := w) (n₀ := n₀) (ann := ann) (q := q) (bd := bd) (env := env) (life := life) (gens := gens) (drawn := drawn) (os := os) (pos := pos) (A := A) (l := c0) (t := t) hA ha0 (by omega) (by omega)
      rw [h0] at hsub
      refine D_first F h0 hsub ?_
      have hr := D_chunks F (life := life) (gens := gens) (drawn := drawn) (os := os) hA hS (rest := last.map (conv pos)) (b := (some A.length, last.map (pairOf pos))) (m := 0) (p' := pos) (s' := stL life gens drawn os (A ++ dObj (ents t c0 ++ ents (t + 51) cs.flatten) (17 + cs.flatten.length) :: ([] ++ subsOf (t + 51) cs)) (t + 51 + 51 * cs.length))
        cs (R := []) (es := ents t c0) (n := 17) (t := t + 51) (lo := top (-1) c0) hc ha1 (le_top ha0) (below_top ha0) (by intro e; have := congrArg List.length e; rw [ents_length, h0] at this; cases this) (by rw [ents_length]; omega)
        (D_gather_all F last (by omega))
      rw [List.nil_append] at hr
      rw [ents_append, h0]
      exact hr
    refine key _ ⟨?_, ?_, ?_⟩
    · intro x main run s p hr
      dsimp only [conv]
      rw [if_neg (by simp only [List.length_append, List.length_cons, List.length_nil, beq_iff_eq]; omega)]
      exact D_pure
    · intro x run s p n d s' p' hr h
      dsimp only [conv]
      rw [if_pos (by simp only [List.length_append, List.length_cons, List.length_nil, beq_iff_eq]; omega), if_neg (by simp)]
      refine D_cast (m := (n + 0) + 0) ?_ rfl
      exact D_bind (D_bind h D_pure) D_pure
    · intro x d run s p n m sub s₁ p₁ s' p' hr h h'
      dsimp only [conv]
      rw [if_pos (by simp only [List.length_append, List.length_cons, List.length_nil, beq_iff_eq]; omega), if_neg (by simp)]
      refine D_cast (m := (n + (m + 0)) + 0) ?_ rfl
      exact D_bind (D_bind (D_holding h) (D_bind (D_onRaise (D_holding h')) D_pure)) D_pure
  · have hne : (last.map (pairOf pos)).isEmpty = false := by
      cases last with
      | nil => exact absurd rfl hl0
      | cons => rfl
    have hsub := D_subShort (pr := pr) (w := w) (n₀ := n₀) (ann := ann) (q := q) (bd := bd) (env := env) (life := life) (gens := gens) (drawn := drawn) (os := os) (pos := pos) (A := A ++ dObj (ents t (c0 ++ cs.flatten)) (17 + cs.flatten.length) :: subsOf (t + 51) cs) (l := last) (t := t + 51 + 51 * cs.length)
      (Nat.ble_eq_true_of_le (by have := Nat.le_of_ble_eq_true hA; simp only [List.length_append, List.length_cons]; omega)) (asc_mono ha2 (Int.le_trans (le_top ha0) (le_top ha1))) hl
    simp only [List.append_assoc, List.cons_append, List.length_append, List.length_cons] at hsub
    rw [show A.length + ((subsOf (t + 51) cs).length + 1) = A.length + 1 + (subsOf (t + 51) cs).length by omega] at hsub
    have hb : below (ents t (c0 ++ cs.flatten)) (top (top (-1) c0) cs.flatten) := by
      rw [ents_append]
      exact below_app (below_top ha0) (below_top ha1) (le_top ha1)
    have hm := D_merge (pr := pr) (w := w) (n₀ := n₀) (ann := ann) (q := q) (bd := bd) (env := env) (life := life) (gens := gens) (drawn := drawn) (os := os) (A := A) (R := subsOf (t + 51) cs) (es := ents t (c0 ++ cs.flatten)) (sub := ents2 (t + 51 + 51 * cs.length) last) (n := 17 + cs.flatten.length) (k := last.length) (t := t + 51 + 51 * cs.length + 3 * last.length) (pos := pos) hA hS
      (by intro e; have := congrArg List.length e; rw [ents_length, List.length_append, h0] at this; simp at this) (ascE_ents2 last ha2) hb (by rw [ents_length, ents2_length, List.length_append]; omega)
    rw [ents2_length] at hm
    refine D_bind (a := some A.length) (p₁ := pos) (s₁ := stL life gens drawn os (A ++ dObj (ents t (c0 ++ cs.flatten) ++ ents2 (t + 51 + 51 * cs.length) last) (17 + cs.flatten.length + last.length) :: (subsOf (t + 51) cs ++ [dObj (ents2 (t + 51 + 51 * cs.length) last) last.length])) (t + 51 + 51 * cs.length + 3 * last.length)) ?_ D_pure
    rw [if_neg (by rw [hne]; exact Bool.false_ne_true)]
    refine D_cast (m := (1 + 13 * last.length) + ((5 + 6 * last.length) + 0)) ?_ (by omega)
    exact D_bind (D_holding hsub) (D_bind (D_onRaise (D_holding hm)) D_pure)
end does
end
section
noncomputable section
noncomputable abbrev pw : Program := PySem.Challenge.pw_tp0049_02
noncomputable def b3raw : List (Nat × List Nat) := [(181, [956]), (223, [115, 115]), (304, [105, 775]), (329, [700, 110]), (383, [115]), (496, [106, 780]), (837, [953]), (890, [32, 953]), (912, [953, 776, 769]), (944, [965, 776, 769]), (962, [963]), (976, [946]), (977, [952]), (978, [965]), (979, [973]), (980, [971]), (981, [966]), (982, [960]), (1008, [954]), (1009, [961]), (1010, [963]), (1013, [949]), (1415, [1381, 1410]), (7830, [104, 817]), (7831, [116, 776]), (7832, [119, 778]), (7833, [121, 778]), (7834, [97, 702]), (7835, [7777]), (8016, [965, 787]), (8018, [965, 787, 768]), (8020, [965, 787, 769]), (8022, [965, 787, 834]), (8064, [7936, 953]), (8065, [7937, 953]), (8066, [7938, 953]), (8067, [7939, 953]), (8068, [7940, 953]), (8069, [7941, 953]), (8070, [7942, 953]), (8071, [7943, 953]), (8072, [7936, 953]), (8073, [7937, 953]), (8074, [7938, 953]), (8075, [7939, 953]), (8076, [7940, 953]), (8077, [7941, 953]), (8078, [7942, 953]), (8079, [7943, 953]), (8080, [7968, 953]), (8081, [7969, 953]), (8082, [7970, 953]), (8083, [7971, 953]), (8084, [7972, 953]), (8085, [7973, 953]), (8086, [7974, 953]), (8087, [7975, 953]), (8088, [7968, 953]), (8089, [7969, 953]), (8090, [7970, 953]), (8091, [7971, 953]), (8092, [7972, 953]), (8093, [7973, 953]), (8094, [7974, 953]), (8095, [7975, 953]), (8096, [8032, 953]), (8097, [8033, 953]), (8098, [8034, 953]), (8099, [8035, 953]), (8100, [8036, 953]), (8101, [8037, 953]), (8102, [8038, 953]), (8103, [8039, 953]), (8104, [8032, 953]), (8105, [8033, 953]), (8106, [8034, 953]), (8107, [8035, 953]), (8108, [8036, 953]), (8109, [8037, 953]), (8110, [8038, 953]), (8111, [8039, 953]), (8114, [8048, 953]), (8115, [945, 953]), (8116, [940, 953]), (8118, [945, 834]), (8119, [945, 834, 953]), (8124, [945, 953]), (8126, [953]), (8130, [8052, 953]), (8131, [951, 953]), (8132, [942, 953]), (8134, [951, 834]), (8135, [951, 834, 953]), (8140, [951, 953]), (8146, [953, 776, 768]), (8147, [953, 776, 769]), (8150, [953, 834]), (8151, [953, 776, 834]), (8162, [965, 776, 768]), (8163, [965, 776, 769]), (8164, [961, 787]), (8166, [965, 834]), (8167, [965, 776, 834]), (8178, [8060, 953]), (8179, [969, 953]), (8180, [974, 953]), (8182, [969, 834]), (8183, [969, 834, 953]), (8188, [969, 953]), (8360, [114, 115]), (8450, [99]), (8451, [176, 99]), (8455, [603]), (8457, [176, 102]), (8459, [104]), (8460, [104]), (8461, [104]), (8464, [105]), (8465, [105]), (8466, [108]), (8469, [110]), (8470, [110, 111]), (8473, [112]), (8474, [113]), (8475, [114]), (8476, [114]), (8477, [114]), (8480, [115, 109]), (8481, [116, 101, 108]), (8482, [116, 109]), (8484, [122]), (8488, [122]), (8492, [98]), (8493, [99]), (8496, [101]), (8497, [102]), (8499, [109]), (8510, [947]), (8511, [960]), (8517, [100]), (13169, [104, 112, 97]), (13171, [97, 117]), (13173, [111, 118]), (13184, [112, 97]), (13185, [110, 97]), (13186, [956, 97]), (13187, [109, 97]), (13188, [107, 97]), (13189, [107, 98]), (13190, [109, 98]), (13191, [103, 98]), (13194, [112, 102]), (13195, [110, 102]), (13196, [956, 102]), (13200, [104, 122]), (13201, [107, 104, 122]), (13202, [109, 104, 122]), (13203, [103, 104, 122]), (13204, [116, 104, 122]), (13225, [112, 97]), (13226, [107, 112, 97]), (13227, [109, 112, 97]), (13228, [103, 112, 97]), (13236, [112, 118]), (13237, [110, 118]), (13238, [956, 118]), (13239, [109, 118]), (13240, [107, 118]), (13241, [109, 118]), (13242, [112, 119]), (13243, [110, 119]), (13244, [956, 119]), (13245, [109, 119]), (13246, [107, 119]), (13247, [109, 119]), (13248, [107, 969]), (13249, [109, 969]), (13251, [98, 113]), (13254, [99, 8725, 107, 103]), (13255, [99, 111, 46]), (13256, [100, 98]), (13257, [103, 121]), (13259, [104, 112]), (13261, [107, 107]), (13262, [107, 109]), (13271, [112, 104]), (13273, [112, 112, 109]), (13274, [112, 114]), (13276, [115, 118]), (13277, [119, 98]), (64256, [102, 102]), (64257, [102, 105]), (64258, [102, 108]), (64259, [102, 102, 105]), (64260, [102, 102, 108]), (64261, [115, 116]), (64262, [115, 116]), (64275, [1396, 1398]), (64276, [1396, 1381]), (64277, [1396, 1387]), (64278, [1406, 1398]), (64279, [1396, 1389]), (119808, [97]), (119809, [98]), (119810, [99]), (119811, [100]), (119812, [101]), (119813, [102]), (119814, [103]), (119815, [104]), (119816, [105]), (119817, [106]), (119818, [107]), (119819, [108]), (119820, [109]), (119821, [110]), (119822, [111]), (119823, [112]), (119824, [113]), (119825, [114]), (119826, [115]), (119827, [116]), (119828, [117]), (119829, [118]), (119830, [119]), (119831, [120]), (119832, [121]), (119833, [122]), (119860, [97]), (119861, [98]), (119862, [99]), (119863, [100]), (119864, [101]), (119865, [102]), (119866, [103]), (119867, [104]), (119868, [105]), (119869, [106]), (119870, [107]), (119871, [108]), (119872, [109]), (119873, [110]), (119874, [111]), (119875, [112]), (119876, [113]), (119877, [114]), (119878, [115]), (119879, [116]), (119880, [117]), (119881, [118]), (119882, [119]), (119883, [120]), (119884, [121]), (119885, [122]), (119912, [97]), (119913, [98]), (119914, [99]), (119915, [100]), (119916, [101]), (119917, [102]), (119918, [103]), (119919, [104]), (119920, [105]), (119921, [106]), (119922, [107]), (119923, [108]), (119924, [109]), (119925, [110]), (119926, [111]), (119927, [112]), (119928, [113]), (119929, [114]), (119930, [115]), (119931, [116]), (119932, [117]), (119933, [118]), (119934, [119]), (119935, [120]), (119936, [121]), (119937, [122]), (119964, [97]), (119966, [99]), (119967, [100]), (119970, [103]), (119973, [106]), (119974, [107]), (119977, [110]), (119978, [111]), (119979, [112]), (119980, [113]), (119982, [115]), (119983, [116]), (119984, [117]), (119985, [118]), (119986, [119]), (119987, [120]), (119988, [121]), (119989, [122]), (120016, [97]), (120017, [98]), (120018, [99]), (120019, [100]), (120020, [101]), (120021, [102]), (120022, [103]), (120023, [104]), (120024, [105]), (120025, [106]), (120026, [107]), (120027, [108]), (120028, [109]), (120029, [110]), (120030, [111]), (120031, [112]), (120032, [113]), (120033, [114]), (120034, [115]), (120035, [116]), (120036, [117]), (120037, [118]), (120038, [119]), (120039, [120]), (120040, [121]), (120041, [122]), (120068, [97]), (120069, [98]), (120071, [100]), (120072, [101]), (120073, [102]), (120074, [103]), (120077, [106]), (120078, [107]), (120079, [108]), (120080, [109]), (120081, [110]), (120082, [111]), (120083, [112]), (120084, [113]), (120086, [115]), (120087, [116]), (120088, [117]), (120089, [118]), (120090, [119]), (120091, [120]), (120092, [121]), (120120, [97]), (120121, [98]), (120123, [100]), (120124, [101]), (120125, [102]), (120126, [103]), (120128, [105]), (120129, [106]), (120130, [107]), (120131, [108]), (120132, [109]), (120134, [111]), (120138, [115]), (120139, [116]), (120140, [117]), (120141, [118]), (120142, [119]), (120143, [120]), (120144, [121]), (120172, [97]), (120173, [98]), (120174, [99]), (120175, [100]), (120176, [101]), (120177, [102]), (120178, [103]), (120179, [104]), (120180, [105]), (120181, [106]), (120182, [107]), (120183, [108]), (120184, [109]), (120185, [110]), (120186, [111]), (120187, [112]), (120188, [113]), (120189, [114]), (120190, [115]), (120191, [116]), (120192, [117]), (120193, [118]), (120194, [119]), (120195, [120]), (120196, [121]), (120197, [122]), (120224, [97]), (120225, [98]), (120226, [99]), (120227, [100]), (120228, [101]), (120229, [102]), (120230, [103]), (120231, [104]), (120232, [105]), (120233, [106]), (120234, [107]), (120235, [108]), (120236, [109]), (120237, [110]), (120238, [111]), (120239, [112]), (120240, [113]), (120241, [114]), (120242, [115]), (120243, [116]), (120244, [117]), (120245, [118]), (120246, [119]), (120247, [120]), (120248, [121]), (120249, [122]), (120276, [97]), (120277, [98]), (120278, [99]), (120279, [100]), (120280, [101]), (120281, [102]), (120282, [103]), (120283, [104]), (120284, [105]), (120285, [106]), (120286, [107]), (120287, [108]), (120288, [109]), (120289, [110]), (120290, [111]), (120291, [112]), (120292, [113]), (120293, [114]), (120294, [115]), (120295, [116]), (120296, [117]), (120297, [118]), (120298, [119]), (120299, [120]), (120300, [121]), (120301, [122]), (120328, [97]), (120329, [98]), (120330, [99]), (120331, [100]), (120332, [101]), (120333, [102]), (120334, [103]), (120335, [104]), (120336, [105]), (120337, [106]), (120338, [107]), (120339, [108]), (120340, [109]), (120341, [110]), (120342, [111]), (120343, [112]), (120344, [113]), (120345, [114]), (120346, [115]), (120347, [116]), (120348, [117]), (120349, [118]), (120350, [119]), (120351, [120]), (120352, [121]), (120353, [122]), (120380, [97]), (120381, [98]), (120382, [99]), (120383, [100]), (120384, [101]), (120385, [102]), (120386, [103]), (120387, [104]), (120388, [105]), (120389, [106]), (120390, [107]), (120391, [108]), (120392, [109]), (120393, [110]), (120394, [111]), (120395, [112]), (120396, [113]), (120397, [114]), (120398, [115]), (120399, [116]), (120400, [117]), (120401, [118]), (120402, [119]), (120403, [120]), (120404, [121]), (120405, [122]), (120432, [97]), (120433, [98]), (120434, [99]), (120435, [100]), (120436, [101]), (120437, [102]), (120438, [103]), (120439, [104]), (120440, [105]), (120441, [106]), (120442, [107]), (120443, [108]), (120444, [109]), (120445, [110]), (120446, [111]), (120447, [112]), (120448, [113]), (120449, [114]), (120450, [115]), (120451, [116]), (120452, [117]), (120453, [118]), (120454, [119]), (120455, [120]), (120456, [121]), (120457, [122]), (120488, [945]), (120489, [946]), (120490, [947]), (120491, [948]), (120492, [949]), (120493, [950]), (120494, [951]), (120495, [952]), (120496, [953]), (120497, [954]), (120498, [955]), (120499, [956]), (120500, [957]), (120501, [958]), (120502, [959]), (120503, [960]), (120504, [961]), (120505, [952]), (120506, [963]), (120507, [964]), (120508, [965]), (120509, [966]), (120510, [967]), (120511, [968]), (120512, [969]), (120531, [963]), (120546, [945]), (120547, [946]), (120548, [947]), (120549, [948]), (120550, [949]), (120551, [950]), (120552, [951]), (120553, [952]), (120554, [953]), (120555, [954]), (120556, [955]), (120557, [956]), (120558, [957]), (120559, [958]), (120560, [959]), (120561, [960]), (120562, [961]), (120563, [952]), (120564, [963]), (120565, [964]), (120566, [965]), (120567, [966]), (120568, [967]), (120569, [968]), (120570, [969]), (120589, [963]), (120604, [945]), (120605, [946]), (120606, [947]), (120607, [948]), (120608, [949]), (120609, [950]), (120610, [951]), (120611, [952]), (120612, [953]), (120613, [954]), (120614, [955]), (120615, [956]), (120616, [957]), (120617, [958]), (120618, [959]), (120619, [960]), (120620, [961]), (120621, [952]), (120622, [963]), (120623, [964]), (120624, [965]), (120625, [966]), (120626, [967]), (120627, [968]), (120628, [969]), (120647, [963]), (120662, [945]), (120663, [946]), (120664, [947]), (120665, [948]), (120666, [949]), (120667, [950]), (120668, [951]), (120669, [952]), (120670, [953]), (120671, [954]), (120672, [955]), (120673, [956]), (120674, [957]), (120675, [958]), (120676, [959]), (120677, [960]), (120678, [961]), (120679, [952]), (120680, [963]), (120681, [964]), (120682, [965]), (120683, [966]), (120684, [967]), (120685, [968]), (120686, [969]), (120705, [963]), (120720, [945]), (120721, [946]), (120722, [947]), (120723, [948]), (120724, [949]), (120725, [950]), (120726, [951]), (120727, [952]), (120728, [953]), (120729, [954]), (120730, [955]), (120731, [956]), (120732, [957]), (120733, [958]), (120734, [959]), (120735, [960]), (120736, [961]), (120737, [952]), (120738, [963]), (120739, [964]), (120740, [965]), (120741, [966]), (120742, [967]), (120743, [968]), (120744, [969]), (120763, [963])]
noncomputable def tabEntries : List DictEntry := ents 323 (b3raw.take 646) ++ ents2 2261 (b3raw.drop 646)
noncomputable def o77 : Obj := dObj tabEntries 650
noncomputable def o77d (_ : Params) : Obj := o77
noncomputable def subObj (j : Nat) : Obj := dObj (ents (323 + 51 * j) ((b3raw.drop (17 * j)).take 17)) 17
noncomputable def subLast : Obj := dObj (ents2 2261 (b3raw.drop 646)) 4
noncomputable def setEs : Array (Int × Value) := #[(65024, (Value.int 65024 272)), (65025, (Value.int 65025 273)), (65026, (Value.int 65026 274)), (65027, (Value.int 65027 275)), (65028, (Value.int 65028 276)), (65029, (Value.int 65029 277)), (6150, (Value.int 6150 258)), (65030, (Value.int 65030 278)), (65031, (Value.int 65031 279)), (65032, (Value.int 65032 280)), (65033, (Value.int 65033 281)), (6155, (Value.int 6155 259)), (6156, (Value.int 6156 260)), (6157, (Value.int 6157 261)), (8203, (Value.int 8203 262)), (8204, (Value.int 8204 263)), (8205, (Value.int 8205 264)), (65034, (Value.int 65034 282)), (65035, (Value.int 65035 283)), (65036, (Value.int 65036 284)), (65037, (Value.int 65037 285)), (65038, (Value.int 65038 286)), (65039, (Value.int 65039 287)), (173, (Value.int 173 256)), (847, (Value.int 847 257)), (8288, (Value.int 8288 265)), (65279, (Value.int 65279 266))]
noncomputable def o66 (P : Params) : Obj := ⟨.type "set", none, .set setEs 29 ⟨127, #[0, 1, 2, 3, 4, 5, 6, 7, 8, 9, 10, 11, 12, 13, 14, 15, 16, 17, 18, 19, 20, 21, 22, 45, 79, 96, 127], #[], 0, !P.followText "set-order", 2, true⟩, #[]⟩
noncomputable def oS1 (_ : Params) : Obj := subObj 1
noncomputable def oS2 (_ : Params) : Obj := subObj 2
noncomputable def oS3 (_ : Params) : Obj := subObj 3
noncomputable def oS4 (_ : Params) : Obj := subObj 4
noncomputable def oS5 (_ : Params) : Obj := subObj 5
noncomputable def oS6 (_ : Params) : Obj := subObj 6
noncomputable def oS7 (_ : Params) : Obj := subObj 7
noncomputable def oS8 (_ : Params) : Obj := subObj 8
noncomputable def oS9 (_ : Params) : Obj := subObj 9
noncomputable def oS10 (_ : Params) : Obj := subObj 10
noncomputable def oS11 (_ : Params) : Obj := subObj 11
noncomputable def oS12 (_ : Params) : Obj := subObj 12
noncomputable def oS13 (_ : Params) : Obj := subObj 13
noncomputable def oS14 (_ : Params) : Obj := subObj 14
noncomputable def oS15 (_ : Params) : Obj := subObj 15
noncomputable def oS16 (_ : Params) : Obj := subObj 16
noncomputable def oS17 (_ : Params) : Obj := subObj 17
noncomputable def oS18 (_ : Params) : Obj := subObj 18
noncomputable def oS19 (_ : Params) : Obj := subObj 19
noncomputable def oS20 (_ : Params) : Obj := subObj 20
noncomputable def oS21 (_ : Params) : Obj := subObj 21
noncomputable def oS22 (_ : Params) : Obj := subObj 22
noncomputable def oS23 (_ : Params) : Obj := subObj 23
noncomputable def oS24 (_ : Params) : Obj := subObj 24
noncomputable def oS25 (_ : Params) : Obj := subObj 25
noncomputable def oS26 (_ : Params) : Obj := subObj 26
noncomputable def oS27 (_ : Params) : Obj := subObj 27
noncomputable def oS28 (_ : Params) : Obj := subObj 28
noncomputable def oS29 (_ : Params) : Obj := subObj 29
noncomputable def oS30 (_ : Params) : Obj := subObj 30
noncomputable def oS31 (_ : Params) : Obj := subObj 31
noncomputable def oS32 (_ : Params) : Obj := subObj 32
noncomputable def oS33 (_ : Params) : Obj := subObj 33
noncomputable def oS34 (_ : Params) : Obj := subObj 34
noncomputable def oS35 (_ : Params) : Obj := subObj 35
noncomputable def oS36 (_ : Params) : Obj := subObj 36
noncomputable def oS37 (_ : Params) : Obj := subObj 37
noncomputable def oS38 (_ : Params) : Obj := subLast
noncomputable def stAt : List Stmt → Nat → Stmt
  | [], _ => .Pass ⟨0, 0, 0, 0⟩
  | s :: _, 0 => s
  | _ :: r, n + 1 => stAt r n
noncomputable def recOf : Stmt → DefRec
  | .FunctionDef n ar bd _ _ _ sc _ _ po => ⟨n, ar, bd, sc, po⟩
  | _ => ⟨Str.ofString "", ⟨[], [], none, [], [], none, []⟩, [], { kind := .function, names := [], isGenerator := false, isCoroutine := false }, ⟨0, 0, 0, 0⟩⟩
noncomputable abbrev st1 : Stmt := by
  refine' (?F : (d : Stmt) → @Eq Stmt (stAt PySem.Challenge.pw_tp0049_02.main.body 1) d → Stmt) _ (by dsimp only [PySem.Challenge.pw_tp0049_02, stAt])
  exact fun d _ => d
noncomputable abbrev st2 : Stmt := by
  refine' (?F : (d : Stmt) → @Eq Stmt (stAt PySem.Challenge.pw_tp0049_02.main.body 2) d → Stmt) _ (by dsimp only [PySem.Challenge.pw_tp0049_02, stAt])
  exact fun d _ => d
noncomputable abbrev st3 : Stmt := by
  refine' (?F : (d : Stmt) → @Eq Stmt (stAt PySem.Challenge.pw_tp0049_02.main.body 3) d → Stmt) _ (by dsimp only [PySem.Challenge.pw_tp0049_02, stAt])
  exact fun d _ => d
noncomputable abbrev st4 : Stmt := by
  refine' (?F : (d : Stmt) → @Eq Stmt (stAt PySem.Challenge.pw_tp0049_02.main.body 4) d → Stmt) _ (by dsimp only [PySem.Challenge.pw_tp0049_02, stAt])
  exact fun d _ => d
noncomputable abbrev st7 : Stmt := by
  refine' (?F : (d : Stmt) → @Eq Stmt (stAt PySem.Challenge.pw_tp0049_02.main.body 7) d → Stmt) _ (by dsimp only [PySem.Challenge.pw_tp0049_02, stAt])
  exact fun d _ => d
noncomputable abbrev st9 : Stmt := by
  refine' (?F : (d : Stmt) → @Eq Stmt (stAt PySem.Challenge.pw_tp0049_02.main.body 9) d → Stmt) _ (by dsimp only [PySem.Challenge.pw_tp0049_02, stAt])
  exact fun d _ => d
noncomputable abbrev st11 : Stmt := by
  refine' (?F : (d : Stmt) → @Eq Stmt (stAt PySem.Challenge.pw_tp0049_02.main.body 11) d → Stmt) _ (by dsimp only [PySem.Challenge.pw_tp0049_02, stAt])
  exact fun d _ => d
noncomputable abbrev st12 : Stmt := by
  refine' (?F : (d : Stmt) → @Eq Stmt (stAt PySem.Challenge.pw_tp0049_02.main.body 12) d → Stmt) _ (by dsimp only [PySem.Challenge.pw_tp0049_02, stAt])
  exact fun d _ => d
noncomputable abbrev st13 : Stmt := by
  refine' (?F : (d : Stmt) → @Eq Stmt (stAt PySem.Challenge.pw_tp0049_02.main.body 13) d → Stmt) _ (by dsimp only [PySem.Challenge.pw_tp0049_02, stAt])
  exact fun d _ => d
noncomputable abbrev st14 : Stmt := by
  refine' (?F : (d : Stmt) → @Eq Stmt (stAt PySem.Challenge.pw_tp0049_02.main.body 14) d → Stmt) _ (by dsimp only [PySem.Challenge.pw_tp0049_02, stAt])
  exact fun d _ => d
noncomputable abbrev st15 : Stmt := by
  refine' (?F : (d : Stmt) → @Eq Stmt (stAt PySem.Challenge.pw_tp0049_02.main.body 15) d → Stmt) _ (by dsimp only [PySem.Challenge.pw_tp0049_02, stAt])
  exact fun d _ => d
noncomputable abbrev st17 : Stmt := by
  refine' (?F : (d : Stmt) → @Eq Stmt (stAt PySem.Challenge.pw_tp0049_02.main.body 17) d → Stmt) _ (by dsimp only [PySem.Challenge.pw_tp0049_02, stAt])
  exact fun d _ => d
noncomputable abbrev st18 : Stmt := by
  refine' (?F : (d : Stmt) → @Eq Stmt (stAt PySem.Challenge.pw_tp0049_02.main.body 18) d → Stmt) _ (by dsimp only [PySem.Challenge.pw_tp0049_02, stAt])
  exact fun d _ => d
noncomputable abbrev st19 : Stmt := by
  refine' (?F : (d : Stmt) → @Eq Stmt (stAt PySem.Challenge.pw_tp0049_02.main.body 19) d → Stmt) _ (by dsimp only [PySem.Challenge.pw_tp0049_02, stAt])
  exact fun d _ => d
noncomputable abbrev st20 : Stmt := by
  refine' (?F : (d : Stmt) → @Eq Stmt (stAt PySem.Challenge.pw_tp0049_02.main.body 20) d → Stmt) _ (by dsimp only [PySem.Challenge.pw_tp0049_02, stAt])
  exact fun d _ => d
noncomputable abbrev st21 : Stmt := by
  refine' (?F : (d : Stmt) → @Eq Stmt (stAt PySem.Challenge.pw_tp0049_02.main.body 21) d → Stmt) _ (by dsimp only [PySem.Challenge.pw_tp0049_02, stAt])
  exact fun d _ => d
noncomputable abbrev st22 : Stmt := by
  refine' (?F : (d : Stmt) → @Eq Stmt (stAt PySem.Challenge.pw_tp0049_02.main.body 22) d → Stmt) _ (by dsimp only [PySem.Challenge.pw_tp0049_02, stAt])
  exact fun d _ => d
noncomputable abbrev rec4 : DefRec := by
  refine' (?F : (d : DefRec) → @Eq DefRec (recOf st4) d → DefRec) _ (by dsimp only [st4, recOf])
  exact fun d _ => d
noncomputable abbrev rec7 : DefRec := by
  refine' (?F : (d : DefRec) → @Eq DefRec (recOf st7) d → DefRec) _ (by dsimp only [st7, recOf])
  exact fun d _ => d
noncomputable abbrev rec9 : DefRec := by
  refine' (?F : (d : DefRec) → @Eq DefRec (recOf st9) d → DefRec) _ (by dsimp only [st9, recOf])
  exact fun d _ => d
noncomputable abbrev rec14 : DefRec := by
  refine' (?F : (d : DefRec) → @Eq DefRec (recOf st14) d → DefRec) _ (by dsimp only [st14, recOf])
  exact fun d _ => d
noncomputable abbrev rec15 : DefRec := by
  refine' (?F : (d : DefRec) → @Eq DefRec (recOf st15) d → DefRec) _ (by dsimp only [st15, recOf])
  exact fun d _ => d
noncomputable abbrev rec17 : DefRec := by
  refine' (?F : (d : DefRec) → @Eq DefRec (recOf st17) d → DefRec) _ (by dsimp only [st17, recOf])
  exact fun d _ => d
noncomputable abbrev rec18 : DefRec := by
  refine' (?F : (d : DefRec) → @Eq DefRec (recOf st18) d → DefRec) _ (by dsimp only [st18, recOf])
  exact fun d _ => d
noncomputable abbrev rec19 : DefRec := by
  refine' (?F : (d : DefRec) → @Eq DefRec (recOf st19) d → DefRec) _ (by dsimp only [st19, recOf])
  exact fun d _ => d
noncomputable abbrev rec20 : DefRec := by
  refine' (?F : (d : DefRec) → @Eq DefRec (recOf st20) d → DefRec) _ (by dsimp only [st20, recOf])
  exact fun d _ => d
noncomputable abbrev rec21 : DefRec := by
  refine' (?F : (d : DefRec) → @Eq DefRec (recOf st21) d → DefRec) _ (by dsimp only [st21, recOf])
  exact fun d _ => d
noncomputable abbrev rec22 : DefRec := by
  refine' (?F : (d : DefRec) → @Eq DefRec (recOf st22) d → DefRec) _ (by dsimp only [st22, recOf])
  exact fun d _ => d
noncomputable abbrev kf58 : Obj := by
  refine' (?F : (d : Obj) → @Eq Obj ((Obj.mk (Value.type "function") none (Data.func (FuncData.mk (Str.ofString "parse229") (Str.ofString "parse229") rec4.params (FuncBody.stmts rec4.body) rec4.scope 3 [] Value.none Value.none Value.none (Value.str (Str.ofString "cpy313.ftplib") 187) none (Value.ref 57) Value.none 0)) #[])) d → Obj) _ (by dsimp only [rec4])
  exact fun d _ => d
noncomputable abbrev kf76 : Obj := by
  refine' (?F : (d : Obj) → @Eq Obj ((Obj.mk (Value.type "function") none (Data.func (FuncData.mk (Str.ofString "in_table_b1") (Str.ofString "in_table_b1") rec7.params (FuncBody.stmts rec7.body) rec7.scope 3 [] Value.none Value.none Value.none (Value.str (Str.ofString "cpy313.stringprep") 254) none (Value.ref 75) Value.none 0)) #[])) d → Obj) _ (by dsimp only [rec7])
  exact fun d _ => d
noncomputable abbrev kf122 : Obj := by
  refine' (?F : (d : Obj) → @Eq Obj ((Obj.mk (Value.type "function") none (Data.func (FuncData.mk (Str.ofString "map_table_b3") (Str.ofString "map_table_b3") rec9.params (FuncBody.stmts rec9.body) rec9.scope 3 [] Value.none Value.none Value.none (Value.str (Str.ofString "cpy313.stringprep") 254) none (Value.ref 121) Value.none 0)) #[])) d → Obj) _ (by dsimp only [rec9])
  exact fun d _ => d
noncomputable abbrev kf129 : Obj := by
  refine' (?F : (d : Obj) → @Eq Obj ((Obj.mk (Value.type "function") none (Data.func (FuncData.mk (Str.ofString "_substitution_cost") (Str.ofString "_substitution_cost") rec14.params (FuncBody.stmts rec14.body) rec14.scope 3 [] Value.none Value.none Value.none (Value.str (Str.ofString "cpy313.traceback") 2282) none (Value.ref 128) Value.none 0)) #[])) d → Obj) _ (by dsimp only [rec14])
  exact fun d _ => d
noncomputable abbrev kf136 : Obj := by
  refine' (?F : (d : Obj) → @Eq Obj ((Obj.mk (Value.type "function") none (Data.func (FuncData.mk (Str.ofString "_levenshtein_distance") (Str.ofString "_levenshtein_distance") rec15.params (FuncBody.stmts rec15.body) rec15.scope 3 [] Value.none Value.none Value.none (Value.str (Str.ofString "cpy313.traceback") 2282) none (Value.ref 135) Value.none 0)) #[])) d → Obj) _ (by dsimp only [rec15])
  exact fun d _ => d
noncomputable abbrev kf143 : Obj := by
  refine' (?F : (d : Obj) → @Eq Obj ((Obj.mk (Value.type "function") none (Data.func (FuncData.mk (Str.ofString "_law_hidden") (Str.ofString "_law_hidden") rec17.params (FuncBody.stmts rec17.body) rec17.scope 3 [] Value.none Value.none Value.none (Value.str (Str.ofString "law_tp0049_02") 2318) none (Value.ref 142) Value.none 0)) #[])) d → Obj) _ (by dsimp only [rec17])
  exact fun d _ => d
noncomputable abbrev kf150 : Obj := by
  refine' (?F : (d : Obj) → @Eq Obj ((Obj.mk (Value.type "function") none (Data.func (FuncData.mk (Str.ofString "_law_told") (Str.ofString "_law_told") rec18.params (FuncBody.stmts rec18.body) rec18.scope 3 [] Value.none Value.none Value.none (Value.str (Str.ofString "law_tp0049_02") 2318) none (Value.ref 149) Value.none 0)) #[])) d → Obj) _ (by dsimp only [rec18])
  exact fun d _ => d
noncomputable abbrev kf155 : Obj := by
  refine' (?F : (d : Obj) → @Eq Obj ((Obj.mk (Value.type "function") none (Data.func (FuncData.mk (Str.ofString "_law_due") (Str.ofString "_law_due") rec19.params (FuncBody.stmts rec19.body) rec19.scope 3 [] Value.none Value.none Value.none (Value.str (Str.ofString "law_tp0049_02") 2318) none (Value.ref 154) Value.none 0)) #[])) d → Obj) _ (by dsimp only [rec19])
  exact fun d _ => d
noncomputable abbrev kf162 : Obj := by
  refine' (?F : (d : Obj) → @Eq Obj ((Obj.mk (Value.type "function") none (Data.func (FuncData.mk (Str.ofString "_law_strewn") (Str.ofString "_law_strewn") rec20.params (FuncBody.stmts rec20.body) rec20.scope 3 [] Value.none Value.none Value.none (Value.str (Str.ofString "law_tp0049_02") 2318) none (Value.ref 161) Value.none 0)) #[])) d → Obj) _ (by dsimp only [rec20])
  exact fun d _ => d
noncomputable abbrev kf167 : Obj := by
  refine' (?F : (d : Obj) → @Eq Obj ((Obj.mk (Value.type "function") none (Data.func (FuncData.mk (Str.ofString "_law_prepared") (Str.ofString "_law_prepared") rec21.params (FuncBody.stmts rec21.body) rec21.scope 3 [] Value.none Value.none Value.none (Value.str (Str.ofString "law_tp0049_02") 2318) none (Value.ref 166) Value.none 0)) #[])) d → Obj) _ (by dsimp only [rec21])
  exact fun d _ => d
noncomputable abbrev kf172 : Obj := by
  refine' (?F : (d : Obj) → @Eq Obj ((Obj.mk (Value.type "function") none (Data.func (FuncData.mk (Str.ofString "law") (Str.ofString "law") rec22.params (FuncBody.stmts rec22.body) rec22.scope 3 [] Value.none Value.none Value.none (Value.str (Str.ofString "law_tp0049_02") 2318) none (Value.ref 171) Value.none 0)) #[])) d → Obj) _ (by dsimp only [rec22])
  exact fun d _ => d
noncomputable def K (P : Params) : Frag := by
  refine' (?F : (d : Frag) → @Eq Frag ((nat_lit 2, (Obj.mk Value.none none (Data.dict #[(DictEntry.mk (PyData.keyHash P (Str.ofString "type.__subclasses__.Exception.0")) (Value.str (Str.ofString "type.__subclasses__.Exception.0") 205) (Value.int 24 0)), (DictEntry.mk (PyData.keyHash P (Str.ofString "type.__subclasses__.Exception.n")) (Value.str (Str.ofString "type.__subclasses__.Exception.n") 206) (Value.int 1 0))] 2) #[])) ::
  (nat_lit 3, (Obj.mk (Value.type "dict") none (Data.dict #[(DictEntry.mk (PyData.keyHash P (Str.ofString "__name__")) (Value.str (Str.ofString "__name__") 165) (Value.str (Str.ofString "law_tp0049_02") 2318)), (DictEntry.mk (PyData.keyHash P (Str.ofString "__doc__")) (Value.str (Str.ofString "__doc__") 166) Value.none), (DictEntry.mk (PyData.keyHash P (Str.ofString "__package__")) (Value.str (Str.ofString "__package__") 167) Value.none), (DictEntry.mk (PyData.keyHash P (Str.ofString "__loader__")) (Value.str (Str.ofString "__loader__") 168) (Value.builtin "__main__.__loader__#opaque")), (DictEntry.mk (PyData.keyHash P (Str.ofString "__spec__")) (Value.str (Str.ofString "__spec__") 169) Value.none), (DictEntry.mk (PyData.keyHash P (Str.ofString "__annotations__")) (Value.str (Str.ofString "__annotations__") 170) (Value.ref 6)), (DictEntry.mk (PyData.keyHash P (Str.ofString "__builtins__")) (Value.str (Str.ofString "__builtins__") 171) (Value.ref 4)), (DictEntry.mk (PyData.keyHash P (Str.ofString "__file__")) (Value.str (Str.ofString "__file__") 173) (Value.str (Str.ofString "/claim/cut.py") 172)), (DictEntry.mk (PyData.keyHash P (Str.ofString "__cached__")) (Value.str (Str.ofString "__cached__") 174) Value.none), (DictEntry.mk (PyData.keyHash P (Str.ofString "Error")) (Value.str (Str.ofString "Error") 208) (Value.ref 24)), (DictEntry.mk (PyData.keyHash P (Str.ofString "error_reply")) (Value.str (Str.ofString "error_reply") 224) (Value.ref 37)), (DictEntry.mk (PyData.keyHash P (Str.ofString "error_proto")) (Value.str (Str.ofString "error_proto") 240) (Value.ref 49)), (DictEntry.mk (PyData.keyHash P (Str.ofString "parse229")) (Value.str (Str.ofString "parse229") 253) (Value.ref 58)), (DictEntry.mk (PyData.keyHash P (Str.ofString "b1_set")) (Value.str (Str.ofString "b1_set") 315) (Value.ref 66)), (DictEntry.mk (PyData.keyHash P (Str.ofString "in_table_b1")) (Value.str (Str.ofString "in_table_b1") 322) (Value.ref 76)), (DictEntry.mk (PyData.keyHash P (Str.ofString "b3_exceptions")) (Value.str (Str.ofString "b3_exceptions") 2273) (Value.ref 77)), (DictEntry.mk (PyData.keyHash P (Str.ofString "map_table_b3")) (Value.str (Str.ofString "map_table_b3") 2281) (Value.ref 122)), (DictEntry.mk (PyData.keyHash P (Str.ofString "_MAX_STRING_SIZE")) (Value.str (Str.ofString "_MAX_STRING_SIZE") 2285) (Value.int 40 2284)), (DictEntry.mk (PyData.keyHash P (Str.ofString "_MOVE_COST")) (Value.str (Str.ofString "_MOVE_COST") 2287) (Value.int 2 2286)), (DictEntry.mk (PyData.keyHash P (Str.ofString "_CASE_COST")) (Value.str (Str.ofString "_CASE_COST") 2289) (Value.int 1 2288)), (DictEntry.mk (PyData.keyHash P (Str.ofString "_substitution_cost")) (Value.str (Str.ofString "_substitution_cost") 2297) (Value.ref 129)), (DictEntry.mk (PyData.keyHash P (Str.ofString "_levenshtein_distance")) (Value.str (Str.ofString "_levenshtein_distance") 2317) (Value.ref 136)), (DictEntry.mk (PyData.keyHash P (Str.ofString "_law_hidden")) (Value.str (Str.ofString "_law_hidden") 2327) (Value.ref 143)), (DictEntry.mk (PyData.keyHash P (Str.ofString "_law_told")) (Value.str (Str.ofString "_law_told") 2335) (Value.ref 150)), (DictEntry.mk (PyData.keyHash P (Str.ofString "_law_due")) (Value.str (Str.ofString "_law_due") 2341) (Value.ref 155)), (DictEntry.mk (PyData.keyHash P (Str.ofString "_law_strewn")) (Value.str (Str.ofString "_law_strewn") 2352) (Value.ref 162)), (DictEntry.mk (PyData.keyHash P (Str.ofString "_law_prepared")) (Value.str (Str.ofString "_law_prepared") 2358) (Value.ref 167)), (DictEntry.mk (PyData.keyHash P (Str.ofString "law")) (Value.str (Str.ofString "law") 2364) (Value.ref 172))] 28) #[])) ::
  (nat_lit 6, (Obj.mk (Value.type "dict") none (Data.dict #[] 0) #[])) ::
  (nat_lit 15, (Obj.mk (Value.type "tuple") none (Data.seq #[(Value.type "Exception")] 0) #[])) ::
  (nat_lit 22, (Obj.mk (Value.type "tuple") none (Data.seq #[] 0) #[])) ::
  (nat_lit 23, (Obj.mk (Value.type "dict") none (Data.dict #[(DictEntry.mk (PyData.keyHash P (Str.ofString "__module__")) (Value.str (Str.ofString "__module__") 196) (Value.str (Str.ofString "cpy313.ftplib") 187)), (DictEntry.mk (PyData.keyHash P (Str.ofString "__firstlineno__")) (Value.str (Str.ofString "__firstlineno__") 200) (Value.int 2 199)), (DictEntry.mk (PyData.keyHash P (Str.ofString "__static_attributes__")) (Value.str (Str.ofString "__static_attributes__") 201) (Value.ref 22)), (DictEntry.mk (PyData.keyHash P (Str.ofString "__weakref__")) (Value.str (Str.ofString "__weakref__") 203) (Value.ref 25)), (DictEntry.mk (PyData.keyHash P (Str.ofString "__doc__")) (Value.str (Str.ofString "__doc__") 204) Value.none)] 3) #[])) ::
  (nat_lit 24, (Obj.mk (Value.type "type") none (Data.cls (ClassData.mk (Str.ofString "Error") [(Value.type "Exception")] [(Value.ref 24), (Value.type "Exception"), (Value.type "BaseException"), (Value.type "object")] 23 (Str.ofString "Error") true [] [(Value.ref 37), (Value.ref 49)] false none false)) #[(some (Value.ref 15)), none, (some (Value.str (Str.ofString "Error") 189)), (some (Value.str (Str.ofString "Error") 197)), (some (Value.builtin "Exception.__new__")), (some (Value.bool true))])) ::
  (nat_lit 25, (Obj.mk (Value.type "getset_descriptor") none (Data.fields #[(Value.str (Str.ofString "__weakref__") 202), (Value.ref 24), (Value.builtin "ExceptionGroup.__weakref__"), Value.none]) #[])) ::
  (nat_lit 28, (Obj.mk (Value.type "tuple") none (Data.seq #[(Value.ref 24)] 0) #[])) ::
  (nat_lit 35, (Obj.mk (Value.type "tuple") none (Data.seq #[] 0) #[])) ::
  (nat_lit 36, (Obj.mk (Value.type "dict") none (Data.dict #[(DictEntry.mk (PyData.keyHash P (Str.ofString "__module__")) (Value.str (Str.ofString "__module__") 216) (Value.str (Str.ofString "cpy313.ftplib") 187)), (DictEntry.mk (PyData.keyHash P (Str.ofString "__firstlineno__")) (Value.str (Str.ofString "__firstlineno__") 220) (Value.int 4 219)), (DictEntry.mk (PyData.keyHash P (Str.ofString "__static_attributes__")) (Value.str (Str.ofString "__static_attributes__") 221) (Value.ref 35)), (DictEntry.mk (PyData.keyHash P (Str.ofString "__doc__")) (Value.str (Str.ofString "__doc__") 222) Value.none)] 2) #[])) ::
  (nat_lit 37, (Obj.mk (Value.type "type") none (Data.cls (ClassData.mk (Str.ofString "error_reply") [(Value.ref 24)] [(Value.ref 37), (Value.ref 24), (Value.type "Exception"), (Value.type "BaseException"), (Value.type "object")] 36 (Str.ofString "error_reply") true [] [] false none false)) #[(some (Value.ref 28)), none, (some (Value.str (Str.ofString "error_reply") 209)), (some (Value.str (Str.ofString "error_reply") 217)), (some (Value.builtin "Exception.__new__")), (some (Value.bool true))])) ::
  (nat_lit 40, (Obj.mk (Value.type "tuple") none (Data.seq #[(Value.ref 24)] 0) #[])) ::
  (nat_lit 47, (Obj.mk (Value.type "tuple") none (Data.seq #[] 0) #[])) ::
  (nat_lit 48, (Obj.mk (Value.type "dict") none (Data.dict #[(DictEntry.mk (PyData.keyHash P (Str.ofString "__module__")) (Value.str (Str.ofString "__module__") 232) (Value.str (Str.ofString "cpy313.ftplib") 187)), (DictEntry.mk (PyData.keyHash P (Str.ofString "__firstlineno__")) (Value.str (Str.ofString "__firstlineno__") 236) (Value.int 6 235)), (DictEntry.mk (PyData.keyHash P (Str.ofString "__static_attributes__")) (Value.str (Str.ofString "__static_attributes__") 237) (Value.ref 47)), (DictEntry.mk (PyData.keyHash P (Str.ofString "__doc__")) (Value.str (Str.ofString "__doc__") 238) Value.none)] 2) #[])) ::
  (nat_lit 49, (Obj.mk (Value.type "type") none (Data.cls (ClassData.mk (Str.ofString "error_proto") [(Value.ref 24)] [(Value.ref 49), (Value.ref 24), (Value.type "Exception"), (Value.type "BaseException"), (Value.type "object")] 48 (Str.ofString "error_proto") true [] [] false none false)) #[(some (Value.ref 40)), none, (some (Value.str (Str.ofString "error_proto") 225)), (some (Value.str (Str.ofString "error_proto") 233)), (some (Value.builtin "Exception.__new__")), (some (Value.bool true))])) ::
  (nat_lit 52, (Obj.mk (Value.type "tuple") none (Data.seq #[] 0) #[])) ::
  (nat_lit 54, (Obj.mk (Value.type "tuple") none (Data.seq #[(Value.str (Str.ofString "resp") 244), (Value.str (Str.ofString "peer") 245), (Value.str (Str.ofString "left") 246), (Value.str (Str.ofString "right") 247), (Value.str (Str.ofString "parts") 248), (Value.str (Str.ofString "host") 249), (Value.str (Str.ofString "port") 250)] 0) #[])) ::
  (nat_lit 55, (Obj.mk (Value.type "tuple") none (Data.seq #[] 0) #[])) ::
  (nat_lit 57, (Obj.mk (Value.type "code") none (Data.fields #[(Value.str (Str.ofString "parse229") 241), (Value.str (Str.ofString "parse229") 242), (Value.str (Str.ofString "/claim/cut.py") 243), (Value.int 8 0), (Value.int 2 0), (Value.int 0 0), (Value.int 0 0), (Value.int 3 0), (Value.ref 52), (Value.bool true), (Value.int 181 0), (Value.ref 53), Value.none, (Value.ref 54), (Value.ref 55), (Value.ref 56), (Value.int 251 0), (Value.int 8 0), (Value.str (Str.ofString "/claim/cut.py") 252)]) #[])) ::
  (nat_lit 58, kf58) ::
  (nat_lit 66, o66 P) ::
  (nat_lit 70, (Obj.mk (Value.type "tuple") none (Data.seq #[] 0) #[])) ::
  (nat_lit 72, (Obj.mk (Value.type "tuple") none (Data.seq #[(Value.str (Str.ofString "code") 319)] 0) #[])) ::
  (nat_lit 73, (Obj.mk (Value.type "tuple") none (Data.seq #[] 0) #[])) ::
  (nat_lit 75, (Obj.mk (Value.type "code") none (Data.fields #[(Value.str (Str.ofString "in_table_b1") 316), (Value.str (Str.ofString "in_table_b1") 317), (Value.str (Str.ofString "/claim/cut.py") 318), (Value.int 27 0), (Value.int 1 0), (Value.int 0 0), (Value.int 0 0), (Value.int 3 0), (Value.ref 70), (Value.bool true), (Value.int 181 0), (Value.ref 71), Value.none, (Value.ref 72), (Value.ref 73), (Value.ref 74), (Value.int 320 0), (Value.int 27 0), (Value.str (Str.ofString "/claim/cut.py") 321)]) #[])) ::
  (nat_lit 76, kf76) ::
  (nat_lit 77, o77) ::
  (nat_lit 116, (Obj.mk (Value.type "tuple") none (Data.seq #[] 0) #[])) ::
  (nat_lit 118, (Obj.mk (Value.type "tuple") none (Data.seq #[(Value.str (Str.ofString "code") 2277), (Value.str (Str.ofString "r") 2278)] 0) #[])) ::
  (nat_lit 119, (Obj.mk (Value.type "tuple") none (Data.seq #[] 0) #[])) ::
  (nat_lit 121, (Obj.mk (Value.type "code") none (Data.fields #[(Value.str (Str.ofString "map_table_b3") 2274), (Value.str (Str.ofString "map_table_b3") 2275), (Value.str (Str.ofString "/claim/cut.py") 2276), (Value.int 30 0), (Value.int 1 0), (Value.int 0 0), (Value.int 0 0), (Value.int 3 0), (Value.ref 116), (Value.bool true), (Value.int 181 0), (Value.ref 117), Value.none, (Value.ref 118), (Value.ref 119), (Value.ref 120), (Value.int 2279 0), (Value.int 30 0), (Value.str (Str.ofString "/claim/cut.py") 2280)]) #[])) ::
  (nat_lit 122, kf122) ::
  (nat_lit 123, (Obj.mk (Value.type "tuple") none (Data.seq #[] 0) #[])) ::
  (nat_lit 125, (Obj.mk (Value.type "tuple") none (Data.seq #[(Value.str (Str.ofString "ch_a") 2293), (Value.str (Str.ofString "ch_b") 2294)] 0) #[])) ::
  (nat_lit 126, (Obj.mk (Value.type "tuple") none (Data.seq #[] 0) #[])) ::
  (nat_lit 128, (Obj.mk (Value.type "code") none (Data.fields #[(Value.str (Str.ofString "_substitution_cost") 2290), (Value.str (Str.ofString "_substitution_cost") 2291), (Value.str (Str.ofString "/claim/cut.py") 2292), (Value.int 39 0), (Value.int 2 0), (Value.int 0 0), (Value.int 0 0), (Value.int 3 0), (Value.ref 123), (Value.bool true), (Value.int 181 0), (Value.ref 124), Value.none, (Value.ref 125), (Value.ref 126), (Value.ref 127), (Value.int 2295 0), (Value.int 39 0), (Value.str (Str.ofString "/claim/cut.py") 2296)]) #[])) ::
  (nat_lit 129, kf129) ::
  (nat_lit 130, (Obj.mk (Value.type "tuple") none (Data.seq #[] 0) #[])) ::
  (nat_lit 132, (Obj.mk (Value.type "tuple") none (Data.seq #[(Value.str (Str.ofString "a") 2301), (Value.str (Str.ofString "b") 2302), (Value.str (Str.ofString "max_cost") 2303), (Value.str (Str.ofString "pre") 2304), (Value.str (Str.ofString "post") 2305), (Value.str (Str.ofString "row") 2306), (Value.str (Str.ofString "result") 2307), (Value.str (Str.ofString "bindex") 2308), (Value.str (Str.ofString "bchar") 2309), (Value.str (Str.ofString "distance") 2310), (Value.str (Str.ofString "minimum") 2311), (Value.str (Str.ofString "index") 2312), (Value.str (Str.ofString "substitute") 2313), (Value.str (Str.ofString "insert_delete") 2314)] 0) #[])) ::
  (nat_lit 133, (Obj.mk (Value.type "tuple") none (Data.seq #[] 0) #[])) ::
  (nat_lit 135, (Obj.mk (Value.type "code") none (Data.fields #[(Value.str (Str.ofString "_levenshtein_distance") 2298), (Value.str (Str.ofString "_levenshtein_distance") 2299), (Value.str (Str.ofString "/claim/cut.py") 2300), (Value.int 45 0), (Value.int 3 0), (Value.int 0 0), (Value.int 0 0), (Value.int 3 0), (Value.ref 130), (Value.bool true), (Value.int 181 0), (Value.ref 131), Value.none, (Value.ref 132), (Value.ref 133), (Value.ref 134), (Value.int 2315 0), (Value.int 45 0), (Value.str (Str.ofString "/claim/cut.py") 2316)]) #[])) ::
  (nat_lit 136, kf136) ::
  (nat_lit 137, (Obj.mk (Value.type "tuple") none (Data.seq #[] 0) #[])) ::
  (nat_lit 139, (Obj.mk (Value.type "tuple") none (Data.seq #[(Value.str (Str.ofString "n") 2323), (Value.str (Str.ofString "codes") 2324)] 0) #[])) ::
  (nat_lit 140, (Obj.mk (Value.type "tuple") none (Data.seq #[] 0) #[])) ::
  (nat_lit 142, (Obj.mk (Value.type "code") none (Data.fields #[(Value.str (Str.ofString "_law_hidden") 2320), (Value.str (Str.ofString "_law_hidden") 2321), (Value.str (Str.ofString "/claim/cut.py") 2322), (Value.int 84 0), (Value.int 1 0), (Value.int 0 0), (Value.int 0 0), (Value.int 3 0), (Value.ref 137), (Value.bool true), (Value.int 181 0), (Value.ref 138), Value.none, (Value.ref 139), (Value.ref 140), (Value.ref 141), (Value.int 2325 0), (Value.int 84 0), (Value.str (Str.ofString "/claim/cut.py") 2326)]) #[])) ::
  (nat_lit 143, kf143) ::
  (nat_lit 144, (Obj.mk (Value.type "tuple") none (Data.seq #[] 0) #[])) ::
  (nat_lit 146, (Obj.mk (Value.type "tuple") none (Data.seq #[(Value.str (Str.ofString "reply") 2331), (Value.str (Str.ofString "error") 2332)] 0) #[])) ::
  (nat_lit 147, (Obj.mk (Value.type "tuple") none (Data.seq #[] 0) #[])) ::
  (nat_lit 149, (Obj.mk (Value.type "code") none (Data.fields #[(Value.str (Str.ofString "_law_told") 2328), (Value.str (Str.ofString "_law_told") 2329), (Value.str (Str.ofString "/claim/cut.py") 2330), (Value.int 87 0), (Value.int 1 0), (Value.int 0 0), (Value.int 0 0), (Value.int 3 0), (Value.ref 144), (Value.bool true), (Value.int 181 0), (Value.ref 145), Value.none, (Value.ref 146), (Value.ref 147), (Value.ref 148), (Value.int 2333 0), (Value.int 87 0), (Value.str (Str.ofString "/claim/cut.py") 2334)]) #[])) ::
  (nat_lit 150, kf150) ::
  (nat_lit 151, (Obj.mk (Value.type "tuple") none (Data.seq #[] 0) #[])) ::
  (nat_lit 154, (Obj.mk (Value.type "code") none (Data.fields #[(Value.str (Str.ofString "_law_due") 2336), (Value.str (Str.ofString "_law_due") 2337), (Value.str (Str.ofString "/claim/cut.py") 2338), (Value.int 96 0), (Value.int 2 0), (Value.int 0 0), (Value.int 0 0), (Value.int 3 0), (Value.ref 151), (Value.bool true), (Value.int 181 0), (Value.ref 152), Value.none, Value.none, Value.none, (Value.ref 153), (Value.int 2339 0), (Value.int 96 0), (Value.str (Str.ofString "/claim/cut.py") 2340)]) #[])) ::
  (nat_lit 155, kf155) ::
  (nat_lit 156, (Obj.mk (Value.type "tuple") none (Data.seq #[] 0) #[])) ::
  (nat_lit 158, (Obj.mk (Value.type "tuple") none (Data.seq #[(Value.str (Str.ofString "reply") 2345), (Value.str (Str.ofString "gaps") 2346), (Value.str (Str.ofString "sign") 2347), (Value.str (Str.ofString "out") 2348), (Value.str (Str.ofString "g") 2349)] 0) #[])) ::
  (nat_lit 159, (Obj.mk (Value.type "tuple") none (Data.seq #[] 0) #[])) ::
  (nat_lit 161, (Obj.mk (Value.type "code") none (Data.fields #[(Value.str (Str.ofString "_law_strewn") 2342), (Value.str (Str.ofString "_law_strewn") 2343), (Value.str (Str.ofString "/claim/cut.py") 2344), (Value.int 106 0), (Value.int 3 0), (Value.int 0 0), (Value.int 0 0), (Value.int 3 0), (Value.ref 156), (Value.bool true), (Value.int 181 0), (Value.ref 157), Value.none, (Value.ref 158), (Value.ref 159), (Value.ref 160), (Value.int 2350 0), (Value.int 106 0), (Value.str (Str.ofString "/claim/cut.py") 2351)]) #[])) ::
  (nat_lit 162, kf162) ::
  (nat_lit 163, (Obj.mk (Value.type "tuple") none (Data.seq #[] 0) #[])) ::
  (nat_lit 166, (Obj.mk (Value.type "code") none (Data.fields #[(Value.str (Str.ofString "_law_prepared") 2353), (Value.str (Str.ofString "_law_prepared") 2354), (Value.str (Str.ofString "/claim/cut.py") 2355), (Value.int 111 0), (Value.int 1 0), (Value.int 0 0), (Value.int 0 0), (Value.int 3 0), (Value.ref 163), (Value.bool true), (Value.int 181 0), (Value.ref 164), Value.none, Value.none, Value.none, (Value.ref 165), (Value.int 2356 0), (Value.int 111 0), (Value.str (Str.ofString "/claim/cut.py") 2357)]) #[])) ::
  (nat_lit 167, kf167) ::
  (nat_lit 168, (Obj.mk (Value.type "tuple") none (Data.seq #[] 0) #[])) ::
  (nat_lit 171, (Obj.mk (Value.type "code") none (Data.fields #[(Value.str (Str.ofString "law") 2359), (Value.str (Str.ofString "law") 2360), (Value.str (Str.ofString "/claim/cut.py") 2361), (Value.int 113 0), (Value.int 1 0), (Value.int 0 0), (Value.int 0 0), (Value.int 3 0), (Value.ref 168), (Value.bool true), (Value.int 181 0), (Value.ref 169), Value.none, Value.none, Value.none, (Value.ref 170), (Value.int 2362 0), (Value.int 113 0), (Value.str (Str.ofString "/claim/cut.py") 2363)]) #[])) ::
  (nat_lit 172, kf172) :: []) d → Frag) _ (by delta kf58 kf76 kf122 kf129 kf136 kf143 kf150 kf155 kf162 kf167 kf172; exact rfl)
  exact fun d _ => d
noncomputable abbrev dLaw : DefRec := by
  refine' (?F : (d : DefRec) → @Eq DefRec (recOf st22) d → DefRec) _ (by dsimp only [st22, recOf])
  exact fun d _ => d
noncomputable def vw : Program := by
  refine' (?F : (d : Program) → @Eq Program ({ pw with main := { pw.main with body := [st1, st2, st3, st4, st7, st9, st11, st12, st13, st14, st15, st17, st18, st19, st20, st21, st22] } }) d → Program) _ (by delta st1 st2 st3 st4 st7 st9 st11 st12 st13 st14 st15 st17 st18 st19 st20 st21 st22; exact rfl)
  exact fun d _ => d
noncomputable def loose : List Str := [(Str.ofString "b1_set"), (Str.ofString "b3_exceptions")]
noncomputable def kAt (P : Params) (a : Nat) : Obj := ((K P).lookup a).getD default
noncomputable def o11 (P : Params) : Obj := (Obj.mk (Value.type "tuple") none (Data.seq #[] 0) #[])
noncomputable def o12v0 (P : Params) : Obj := (Obj.mk Value.none none (Data.fields #[]) #[])
noncomputable def o13 (P : Params) : Obj := (Obj.mk (Value.type "code") none (Data.fields #[(Value.str (Str.ofString "<module>") 182), (Value.str (Str.ofString "<module>") 183), (Value.str (Str.ofString "/claim/cut.py") 184), (Value.int 1 0), (Value.int 0 0), (Value.int 0 0), (Value.int 0 0), (Value.int 0 0), (Value.ref 11), (Value.bool false), (Value.int 181 0), (Value.ref 12), Value.none, Value.none, Value.none, Value.none, (Value.int 185 0), (Value.int 1 0), (Value.str (Str.ofString "/claim/cut.py") 186)]) #[])
noncomputable def o14 (P : Params) : Obj := (Obj.mk (Value.type "frame") none Data.plain #[(some (Value.ref 13)), (some (Value.ref 3)), (some (Value.ref 3)), none, (some (Value.str (Str.ofString "__main__") 164)), none, (some (Value.ref 0))])
noncomputable def T0 (P : Params) : BT := (.node (boot_o_0 P) (.node (boot_o_1 P) (.node (boot_o_3 P) (.node (boot_o_7 P) .nil .nil) (.node (o11 P) .nil .nil)) (.node (boot_o_5 P) (.node (boot_o_9 P) .nil .nil) (.node (o13 P) .nil .nil))) (.node (boot_o_2 P) (.node (boot_o_4 P) (.node (boot_o_8 P) .nil .nil) (.node (o12v0 P) .nil .nil)) (.node (boot_o_6 P) (.node (boot_o_10 P) .nil .nil) (.node (o14 P) .nil .nil))))
noncomputable def S0 (w : World) (os : OsState) : SharedT := ⟨T0 w.params, 15, (Life.mk [] [] [] 0 [] [] false #[] [] 0 false false false 0 [2000, 10, 10] false 0 true [] [] 0 false), #[], (Drawn.mk 0 0 0 0), 187, os⟩
noncomputable def pos0 : Pos := ⟨0, 0, 0, 0⟩
noncomputable def o2 (P : Params) : Obj := kAt P 2
noncomputable def o3v1 (P : Params) : Obj := (Obj.mk (Value.type "dict") none (Data.dict #[(DictEntry.mk (PyData.keyHash P (Str.ofString "__name__")) (Value.str (Str.ofString "__name__") 165) (Value.str (Str.ofString "cpy313.ftplib") 187)), (DictEntry.mk (PyData.keyHash P (Str.ofString "__doc__")) (Value.str (Str.ofString "__doc__") 166) Value.none), (DictEntry.mk (PyData.keyHash P (Str.ofString "__package__")) (Value.str (Str.ofString "__package__") 167) Value.none), (DictEntry.mk (PyData.keyHash P (Str.ofString "__loader__")) (Value.str (Str.ofString "__loader__") 168) (Value.builtin "__main__.__loader__#opaque")), (DictEntry.mk (PyData.keyHash P (Str.ofString "__spec__")) (Value.str (Str.ofString "__spec__") 169) Value.none), (DictEntry.mk (PyData.keyHash P (Str.ofString "__annotations__")) (Value.str (Str.ofString "__annotations__") 170) (Value.ref 6)), (DictEntry.mk (PyData.keyHash P (Str.ofString "__builtins__")) (Value.str (Str.ofString "__builtins__") 171) (Value.ref 4)), (DictEntry.mk (PyData.keyHash P (Str.ofString "__file__")) (Value.str (Str.ofString "__file__") 173) (Value.str (Str.ofString "/claim/cut.py") 172)), (DictEntry.mk (PyData.keyHash P (Str.ofString "__cached__")) (Value.str (Str.ofString "__cached__") 174) Value.none), (DictEntry.mk (PyData.keyHash P (Str.ofString "Error")) (Value.str (Str.ofString "Error") 208) (Value.ref 24))] 10) #[])
noncomputable def o12v1 (P : Params) : Obj := (Obj.mk Value.none none (Data.fields #[(Value.int 2 0), (Value.int 0 0), (Value.ref 20)]) #[])
noncomputable def o15 (P : Params) : Obj := kAt P 15
noncomputable def o16 (P : Params) : Obj := (Obj.mk (Value.type "builtin_function_or_method") none (Data.fields #[(Value.builtin "type.__prepare__"), (Value.type "type")]) #[])
noncomputable def o17 (P : Params) : Obj := (Obj.mk (Value.type "dict") none (Data.dict #[(DictEntry.mk (PyData.keyHash P (Str.ofString "__module__")) (Value.str (Str.ofString "__module__") 196) (Value.str (Str.ofString "cpy313.ftplib") 187)), (DictEntry.mk (PyData.keyHash P (Str.ofString "__qualname__")) (Value.str (Str.ofString "__qualname__") 198) (Value.str (Str.ofString "Error") 197)), (DictEntry.mk (PyData.keyHash P (Str.ofString "__firstlineno__")) (Value.str (Str.ofString "__firstlineno__") 200) (Value.int 2 199)), (DictEntry.mk (PyData.keyHash P (Str.ofString "__static_attributes__")) (Value.str (Str.ofString "__static_attributes__") 201) (Value.ref 22))] 4) #[])
noncomputable def o18 (P : Params) : Obj := (Obj.mk (Value.type "tuple") none (Data.seq #[] 0) #[])
noncomputable def o19 (P : Params) : Obj := (Obj.mk Value.none none (Data.fields #[]) #[])
noncomputable def o20 (P : Params) : Obj := (Obj.mk (Value.type "code") none (Data.fields #[(Value.str (Str.ofString "Error") 191), (Value.str (Str.ofString "Error") 192), (Value.str (Str.ofString "/claim/cut.py") 193), (Value.int 2 0), (Value.int 0 0), (Value.int 0 0), (Value.int 0 0), (Value.int 0 0), (Value.ref 18), (Value.bool false), (Value.int 181 0), (Value.ref 19), Value.none, Value.none, Value.none, Value.none, (Value.int 194 0), (Value.int 2 0), (Value.str (Str.ofString "/claim/cut.py") 195)]) #[])
noncomputable def o21 (P : Params) : Obj := (Obj.mk (Value.type "frame") none Data.plain #[(some (Value.ref 20)), (some (Value.ref 3)), (some (Value.ref 17)), none, (some (Value.str (Str.ofString "cpy313.ftplib") 187)), none, (some (Value.ref 0))])
noncomputable def o22 (P : Params) : Obj := kAt P 22
noncomputable def o23 (P : Params) : Obj := kAt P 23
noncomputable def o24v1 (P : Params) : Obj := (Obj.mk (Value.type "type") none (Data.cls (ClassData.mk (Str.ofString "Error") [(Value.type "Exception")] [(Value.ref 24), (Value.type "Exception"), (Value.type "BaseException"), (Value.type "object")] 23 (Str.ofString "Error") true [] [] false none false)) #[(some (Value.ref 15)), none, (some (Value.str (Str.ofString "Error") 189)), (some (Value.str (Str.ofString "Error") 197)), (some (Value.builtin "Exception.__new__")), (some (Value.bool true))])
noncomputable def o25 (P : Params) : Obj := kAt P 25
noncomputable def o26 (P : Params) : Obj := (Obj.mk (Value.type "super") none (Data.fields #[(Value.ref 24), (Value.ref 24), (Value.ref 24)]) #[])
noncomputable def o27 (P : Params) : Obj := (Obj.mk (Value.type "builtin_function_or_method") none (Data.fields #[(Value.builtin "object.__init_subclass__"), (Value.ref 24)]) #[])
noncomputable def T1 (P : Params) : BT := (.node (boot_o_0 P) (.node (boot_o_1 P) (.node (o3v1 P) (.node (boot_o_7 P) (.node (o15 P) .nil .nil) (.node (o23 P) .nil .nil)) (.node (o11 P) (.node (o19 P) .nil .nil) (.node (o27 P) .nil .nil))) (.node (boot_o_5 P) (.node (boot_o_9 P) (.node (o17 P) .nil .nil) (.node (o25 P) .nil .nil)) (.node (o13 P) (.node (o21 P) .nil .nil) .nil))) (.node (o2 P) (.node (boot_o_4 P) (.node (boot_o_8 P) (.node (o16 P) .nil .nil) (.node (o24v1 P) .nil .nil)) (.node (o12v1 P) (.node (o20 P) .nil .nil) .nil)) (.node (boot_o_6 P) (.node (boot_o_10 P) (.node (o18 P) .nil .nil) (.node (o26 P) .nil .nil)) (.node (o14 P) (.node (o22 P) .nil .nil) .nil))))
noncomputable def S1 (w : World) (os : OsState) : SharedT := ⟨T1 w.params, 28, (Life.mk [] [] [] 0 [] [] false #[] [] 0 false false false 0 [2000, 10, 10] false 0 true [] [] 0 false), #[], (Drawn.mk 0 0 0 0), 209, os⟩
noncomputable def pos1 : Pos := ⟨2, 0, 3, 8⟩
noncomputable def o3v2 (P : Params) : Obj := (Obj.mk (Value.type "dict") none (Data.dict #[(DictEntry.mk (PyData.keyHash P (Str.ofString "__name__")) (Value.str (Str.ofString "__name__") 165) (Value.str (Str.ofString "cpy313.ftplib") 187)), (DictEntry.mk (PyData.keyHash P (Str.ofString "__doc__")) (Value.str (Str.ofString "__doc__") 166) Value.none), (DictEntry.mk (PyData.keyHash P (Str.ofString "__package__")) (Value.str (Str.ofString "__package__") 167) Value.none), (DictEntry.mk (PyData.keyHash P (Str.ofString "__loader__")) (Value.str (Str.ofString "__loader__") 168) (Value.builtin "__main__.__loader__#opaque")), (DictEntry.mk (PyData.keyHash P (Str.ofString "__spec__")) (Value.str (Str.ofString "__spec__") 169) Value.none), (DictEntry.mk (PyData.keyHash P (Str.ofString "__annotations__")) (Value.str (Str.ofString "__annotations__") 170) (Value.ref 6)), (DictEntry.mk (PyData.keyHash P (Str.ofString "__builtins__")) (Value.str (Str.ofString "__builtins__") 171) (Value.ref 4)), (DictEntry.mk (PyData.keyHash P (Str.ofString "__file__")) (Value.str (Str.ofString "__file__") 173) (Value.str (Str.ofString "/claim/cut.py") 172)), (DictEntry.mk (PyData.keyHash P (Str.ofString "__cached__")) (Value.str (Str.ofString "__cached__") 174) Value.none), (DictEntry.mk (PyData.keyHash P (Str.ofString "Error")) (Value.str (Str.ofString "Error") 208) (Value.ref 24)), (DictEntry.mk (PyData.keyHash P (Str.ofString "error_reply")) (Value.str (Str.ofString "error_reply") 224) (Value.ref 37))] 11) #[])
noncomputable def o12v2 (P : Params) : Obj := (Obj.mk Value.none none (Data.fields #[(Value.int 2 0), (Value.int 0 0), (Value.ref 20), (Value.int 4 0), (Value.int 0 0), (Value.ref 33)]) #[])
noncomputable def o24v2 (P : Params) : Obj := (Obj.mk (Value.type "type") none (Data.cls (ClassData.mk (Str.ofString "Error") [(Value.type "Exception")] [(Value.ref 24), (Value.type "Exception"), (Value.type "BaseException"), (Value.type "object")] 23 (Str.ofString "Error") true [] [(Value.ref 37)] false none false)) #[(some (Value.ref 15)), none, (some (Value.str (Str.ofString "Error") 189)), (some (Value.str (Str.ofString "Error") 197)), (some (Value.builtin "Exception.__new__")), (some (Value.bool true))])
noncomputable def o28 (P : Params) : Obj := kAt P 28
noncomputable def o29 (P : Params) : Obj := (Obj.mk (Value.type "builtin_function_or_method") none (Data.fields #[(Value.builtin "type.__prepare__"), (Value.type "type")]) #[])
noncomputable def o30 (P : Params) : Obj := (Obj.mk (Value.type "dict") none (Data.dict #[(DictEntry.mk (PyData.keyHash P (Str.ofString "__module__")) (Value.str (Str.ofString "__module__") 216) (Value.str (Str.ofString "cpy313.ftplib") 187)), (DictEntry.mk (PyData.keyHash P (Str.ofString "__qualname__")) (Value.str (Str.ofString "__qualname__") 218) (Value.str (Str.ofString "error_reply") 217)), (DictEntry.mk (PyData.keyHash P (Str.ofString "__firstlineno__")) (Value.str (Str.ofString "__firstlineno__") 220) (Value.int 4 219)), (DictEntry.mk (PyData.keyHash P (Str.ofString "__static_attributes__")) (Value.str (Str.ofString "__static_attributes__") 221) (Value.ref 35))] 4) #[])
noncomputable def o31 (P : Params) : Obj := (Obj.mk (Value.type "tuple") none (Data.seq #[] 0) #[])
noncomputable def o32 (P : Params) : Obj := (Obj.mk Value.none none (Data.fields #[]) #[])
noncomputable def o33 (P : Params) : Obj := (Obj.mk (Value.type "code") none (Data.fields #[(Value.str (Str.ofString "error_reply") 211), (Value.str (Str.ofString "error_reply") 212), (Value.str (Str.ofString "/claim/cut.py") 213), (Value.int 4 0), (Value.int 0 0), (Value.int 0 0), (Value.int 0 0), (Value.int 0 0), (Value.ref 31), (Value.bool false), (Value.int 181 0), (Value.ref 32), Value.none, Value.none, Value.none, Value.none, (Value.int 214 0), (Value.int 4 0), (Value.str (Str.ofString "/claim/cut.py") 215)]) #[])
noncomputable def o34 (P : Params) : Obj := (Obj.mk (Value.type "frame") none Data.plain #[(some (Value.ref 33)), (some (Value.ref 3)), (some (Value.ref 30)), none, (some (Value.str (Str.ofString "cpy313.ftplib") 187)), none, (some (Value.ref 0))])
noncomputable def o35 (P : Params) : Obj := kAt P 35
noncomputable def o36 (P : Params) : Obj := kAt P 36
noncomputable def o37 (P : Params) : Obj := kAt P 37
noncomputable def o38 (P : Params) : Obj := (Obj.mk (Value.type "super") none (Data.fields #[(Value.ref 37), (Value.ref 37), (Value.ref 37)]) #[])
noncomputable def o39 (P : Params) : Obj := (Obj.mk (Value.type "builtin_function_or_method") none (Data.fields #[(Value.builtin "object.__init_subclass__"), (Value.ref 37)]) #[])
noncomputable def T2 (P : Params) : BT := (.node (boot_o_0 P) (.node (boot_o_1 P) (.node (o3v2 P) (.node (boot_o_7 P) (.node (o15 P) (.node (o31 P) .nil .nil) .nil) (.node (o23 P) (.node (o39 P) .nil .nil) .nil)) (.node (o11 P) (.node (o19 P) (.node (o35 P) .nil .nil) .nil) (.node (o27 P) .nil .nil))) (.node (boot_o_5 P) (.node (boot_o_9 P) (.node (o17 P) (.node (o33 P) .nil .nil) .nil) (.node (o25 P) .nil .nil)) (.node (o13 P) (.node (o21 P) (.node (o37 P) .nil .nil) .nil) (.node (o29 P) .nil .nil)))) (.node (o2 P) (.node (boot_o_4 P) (.node (boot_o_8 P) (.node (o16 P) (.node (o32 P) .nil .nil) .nil) (.node (o24v2 P) .nil .nil)) (.node (o12v2 P) (.node (o20 P) (.node (o36 P) .nil .nil) .nil) (.node (o28 P) .nil .nil))) (.node (boot_o_6 P) (.node (boot_o_10 P) (.node (o18 P) (.node (o34 P) .nil .nil) .nil) (.node (o26 P) .nil .nil)) (.node (o14 P) (.node (o22 P) (.node (o38 P) .nil .nil) .nil) (.node (o30 P) .nil .nil)))))
noncomputable def S2 (w : World) (os : OsState) : SharedT := ⟨T2 w.params, 40, (Life.mk [] [] [] 0 [] [] false #[] [] 0 false false false 0 [2000, 10, 10] false 0 true [] [] 0 false), #[], (Drawn.mk 0 0 0 0), 225, os⟩
noncomputable def pos2 : Pos := ⟨4, 0, 5, 8⟩
noncomputable def o3v3 (P : Params) : Obj := (Obj.mk (Value.type "dict") none (Data.dict #[(DictEntry.mk (PyData.keyHash P (Str.ofString "__name__")) (Value.str (Str.ofString "__name__") 165) (Value.str (Str.ofString "cpy313.stringprep") 254)), (DictEntry.mk (PyData.keyHash P (Str.ofString "__doc__")) (Value.str (Str.ofString "__doc__") 166) Value.none), (DictEntry.mk (PyData.keyHash P (Str.ofString "__package__")) (Value.str (Str.ofString "__package__") 167) Value.none), (DictEntry.mk (PyData.keyHash P (Str.ofString "__loader__")) (Value.str (Str.ofString "__loader__") 168) (Value.builtin "__main__.__loader__#opaque")), (DictEntry.mk (PyData.keyHash P (Str.ofString "__spec__")) (Value.str (Str.ofString "__spec__") 169) Value.none), (DictEntry.mk (PyData.keyHash P (Str.ofString "__annotations__")) (Value.str (Str.ofString "__annotations__") 170) (Value.ref 6)), (DictEntry.mk (PyData.keyHash P (Str.ofString "__builtins__")) (Value.str (Str.ofString "__builtins__") 171) (Value.ref 4)), (DictEntry.mk (PyData.keyHash P (Str.ofString "__file__")) (Value.str (Str.ofString "__file__") 173) (Value.str (Str.ofString "/claim/cut.py") 172)), (DictEntry.mk (PyData.keyHash P (Str.ofString "__cached__")) (Value.str (Str.ofString "__cached__") 174) Value.none), (DictEntry.mk (PyData.keyHash P (Str.ofString "Error")) (Value.str (Str.ofString "Error") 208) (Value.ref 24)), (DictEntry.mk (PyData.keyHash P (Str.ofString "error_reply")) (Value.str (Str.ofString "error_reply") 224) (Value.ref 37)), (DictEntry.mk (PyData.keyHash P (Str.ofString "error_proto")) (Value.str (Str.ofString "error_proto") 240) (Value.ref 49)), (DictEntry.mk (PyData.keyHash P (Str.ofString "parse229")) (Value.str (Str.ofString "parse229") 253) (Value.ref 58))] 13) #[])
noncomputable def o12v3 (P : Params) : Obj := (Obj.mk Value.none none (Data.fields #[(Value.int 2 0), (Value.int 0 0), (Value.ref 20), (Value.int 4 0), (Value.int 0 0), (Value.ref 33), (Value.int 6 0), (Value.int 0 0), (Value.ref 45), (Value.int 8 0), (Value.int 0 0), (Value.ref 57)]) #[])
noncomputable def o24 (P : Params) : Obj := kAt P 24
noncomputable def o40 (P : Params) : Obj := kAt P 40
noncomputable def o41 (P : Params) : Obj := (Obj.mk (Value.type "builtin_function_or_method") none (Data.fields #[(Value.builtin "type.__prepare__"), (Value.type "type")]) #[])
noncomputable def o42 (P : Params) : Obj := (Obj.mk (Value.type "dict") none (Data.dict #[(DictEntry.mk (PyData.keyHash P (Str.ofString "__module__")) (Value.str (Str.ofString "__module__") 232) (Value.str (Str.ofString "cpy313.ftplib") 187)), (DictEntry.mk (PyData.keyHash P (Str.ofString "__qualname__")) (Value.str (Str.ofString "__qualname__") 234) (Value.str (Str.ofString "error_proto") 233)), (DictEntry.mk (PyData.keyHash P (Str.ofString "__firstlineno__")) (Value.str (Str.ofString "__firstlineno__") 236) (Value.int 6 235)), (DictEntry.mk (PyData.keyHash P (Str.ofString "__static_attributes__")) (Value.str (Str.ofString "__static_attributes__") 237) (Value.ref 47))] 4) #[])
noncomputable def o43 (P : Params) : Obj := (Obj.mk (Value.type "tuple") none (Data.seq #[] 0) #[])
noncomputable def o44 (P : Params) : Obj := (Obj.mk Value.none none (Data.fields #[]) #[])
noncomputable def o45 (P : Params) : Obj := (Obj.mk (Value.type "code") none (Data.fields #[(Value.str (Str.ofString "error_proto") 227), (Value.str (Str.ofString "error_proto") 228), (Value.str (Str.ofString "/claim/cut.py") 229), (Value.int 6 0), (Value.int 0 0), (Value.int 0 0), (Value.int 0 0), (Value.int 0 0), (Value.ref 43), (Value.bool false), (Value.int 181 0), (Value.ref 44), Value.none, Value.none, Value.none, Value.none, (Value.int 230 0), (Value.int 6 0), (Value.str (Str.ofString "/claim/cut.py") 231)]) #[])
noncomputable def o46 (P : Params) : Obj := (Obj.mk (Value.type "frame") none Data.plain #[(some (Value.ref 45)), (some (Value.ref 3)), (some (Value.ref 42)), none, (some (Value.str (Str.ofString "cpy313.ftplib") 187)), none, (some (Value.ref 0))])
noncomputable def o47 (P : Params) : Obj := kAt P 47
noncomputable def o48 (P : Params) : Obj := kAt P 48
noncomputable def o49 (P : Params) : Obj := kAt P 49
noncomputable def o50 (P : Params) : Obj := (Obj.mk (Value.type "super") none (Data.fields #[(Value.ref 49), (Value.ref 49), (Value.ref 49)]) #[])
noncomputable def o51 (P : Params) : Obj := (Obj.mk (Value.type "builtin_function_or_method") none (Data.fields #[(Value.builtin "object.__init_subclass__"), (Value.ref 49)]) #[])
noncomputable def o52 (P : Params) : Obj := kAt P 52
noncomputable def o53 (P : Params) : Obj := (Obj.mk Value.none none (Data.fields #[]) #[])
noncomputable def o54 (P : Params) : Obj := kAt P 54
noncomputable def o55 (P : Params) : Obj := kAt P 55
noncomputable def o56 (P : Params) : Obj := by
  refine' (?F : (d : Obj) → @Eq Obj ((Obj.mk Value.none none (Data.func (FuncData.mk (Str.ofString "parse229") (Str.ofString "parse229") rec4.params (FuncBody.stmts rec4.body) rec4.scope 0 [] Value.none Value.none Value.none Value.none none Value.none Value.none 0)) #[])) d → Obj) _ (by dsimp only [rec4])
  exact fun d _ => d
noncomputable def o57 (P : Params) : Obj := kAt P 57
noncomputable def o58 (P : Params) : Obj := kAt P 58
noncomputable def T3 (P : Params) : BT := (.node (boot_o_0 P) (.node (boot_o_1 P) (.node (o3v3 P) (.node (boot_o_7 P) (.node (o15 P) (.node (o31 P) .nil .nil) (.node (o47 P) .nil .nil)) (.node (o23 P) (.node (o39 P) .nil .nil) (.node (o55 P) .nil .nil))) (.node (o11 P) (.node (o19 P) (.node (o35 P) .nil .nil) (.node (o51 P) .nil .nil)) (.node (o27 P) (.node (o43 P) .nil .nil) .nil))) (.node (boot_o_5 P) (.node (boot_o_9 P) (.node (o17 P) (.node (o33 P) .nil .nil) (.node (o49 P) .nil .nil)) (.node (o25 P) (.node (o41 P) .nil .nil) (.node (o57 P) .nil .nil))) (.node (o13 P) (.node (o21 P) (.node (o37 P) .nil .nil) (.node (o53 P) .nil .nil)) (.node (o29 P) (.node (o45 P) .nil .nil) .nil)))) (.node (o2 P) (.node (boot_o_4 P) (.node (boot_o_8 P) (.node (o16 P) (.node (o32 P) .nil .nil) (.node (o48 P) .nil .nil)) (.node (o24 P) (.node (o40 P) .nil .nil) (.node (o56 P) .nil .nil))) (.node (o12v3 P) (.node (o20 P) (.node (o36 P) .nil .nil) (.node (o52 P) .nil .nil)) (.node (o28 P) (.node (o44 P) .nil .nil) .nil))) (.node (boot_o_6 P) (.node (boot_o_10 P) (.node (o18 P) (.node (o34 P) .nil .nil) (.node (o50 P) .nil .nil)) (.node (o26 P) (.node (o42 P) .nil .nil) (.node (o58 P) .nil .nil))) (.node (o14 P) (.node (o22 P) (.node (o38 P) .nil .nil) (.node (o54 P) .nil .nil)) (.node (o30 P) (.node (o46 P) .nil .nil) .nil)))))
noncomputable def S3 (w : World) (os : OsState) : SharedT := ⟨T3 w.params, 59, (Life.mk [] [] [] 0 [] [] false #[] [] 0 false false false 0 [2000, 10, 10] false 0 true [] [] 0 false), #[], (Drawn.mk 0 0 0 0), 256, os⟩
noncomputable def pos3 : Pos := ⟨25, 0, 25, 8⟩
noncomputable def o3v4 (P : Params) : Obj := (Obj.mk (Value.type "dict") none (Data.dict #[(DictEntry.mk (PyData.keyHash P (Str.ofString "__name__")) (Value.str (Str.ofString "__name__") 165) (Value.str (Str.ofString "cpy313.stringprep") 254)), (DictEntry.mk (PyData.keyHash P (Str.ofString "__doc__")) (Value.str (Str.ofString "__doc__") 166) Value.none), (DictEntry.mk (PyData.keyHash P (Str.ofString "__package__")) (Value.str (Str.ofString "__package__") 167) Value.none), (DictEntry.mk (PyData.keyHash P (Str.ofString "__loader__")) (Value.str (Str.ofString "__loader__") 168) (Value.builtin "__main__.__loader__#opaque")), (DictEntry.mk (PyData.keyHash P (Str.ofString "__spec__")) (Value.str (Str.ofString "__spec__") 169) Value.none), (DictEntry.mk (PyData.keyHash P (Str.ofString "__annotations__")) (Value.str (Str.ofString "__annotations__") 170) (Value.ref 6)), (DictEntry.mk (PyData.keyHash P (Str.ofString "__builtins__")) (Value.str (Str.ofString "__builtins__") 171) (Value.ref 4)), (DictEntry.mk (PyData.keyHash P (Str.ofString "__file__")) (Value.str (Str.ofString "__file__") 173) (Value.str (Str.ofString "/claim/cut.py") 172)), (DictEntry.mk (PyData.keyHash P (Str.ofString "__cached__")) (Value.str (Str.ofString "__cached__") 174) Value.none), (DictEntry.mk (PyData.keyHash P (Str.ofString "Error")) (Value.str (Str.ofString "Error") 208) (Value.ref 24)), (DictEntry.mk (PyData.keyHash P (Str.ofString "error_reply")) (Value.str (Str.ofString "error_reply") 224) (Value.ref 37)), (DictEntry.mk (PyData.keyHash P (Str.ofString "error_proto")) (Value.str (Str.ofString "error_proto") 240) (Value.ref 49)), (DictEntry.mk (PyData.keyHash P (Str.ofString "parse229")) (Value.str (Str.ofString "parse229") 253) (Value.ref 58)), (DictEntry.mk (PyData.keyHash P (Str.ofString "b1_set")) (Value.str (Str.ofString "b1_set") 315) (Value.ref 66))] 14) #[])
noncomputable def o59 (P : Params) : Obj := (Obj.mk (Value.type "list") none (Data.seq #[(Value.int 173 256), (Value.int 847 257), (Value.int 6150 258), (Value.int 6155 259), (Value.int 6156 260), (Value.int 6157 261), (Value.int 8203 262), (Value.int 8204 263), (Value.int 8205 264), (Value.int 8288 265), (Value.int 65279 266)] 0) #[])
noncomputable def o60 (P : Params) : Obj := (Obj.mk (Value.type "range") none (Data.fields #[(Value.int 65024 267), (Value.int 65040 268), (Value.int 1 269)]) #[])
noncomputable def o61 (P : Params) : Obj := (Obj.mk (Value.type "list") none (Data.seq #[(Value.int 65024 272), (Value.int 65025 273), (Value.int 65026 274), (Value.int 65027 275), (Value.int 65028 276), (Value.int 65029 277), (Value.int 65030 278), (Value.int 65031 279), (Value.int 65032 280), (Value.int 65033 281), (Value.int 65034 282), (Value.int 65035 283), (Value.int 65036 284), (Value.int 65037 285), (Value.int 65038 286), (Value.int 65039 287)] 18) #[])
noncomputable def o62 (P : Params) : Obj := (Obj.mk (Value.type "range_iterator") none (Data.fields #[(Value.int 65040 0), (Value.int 0 0), (Value.int 1 0)]) #[])
noncomputable def o63 (P : Params) : Obj := (Obj.mk (Value.type "tuple") none (Data.seq #[] 0) #[])
noncomputable def o64 (P : Params) : Obj := (Obj.mk (Value.type "StopIteration") none (Data.fields #[(Value.ref 63), Value.none, Value.none, Value.none, (Value.bool false), Value.none]) #[])
noncomputable def o65 (P : Params) : Obj := (Obj.mk (Value.type "list") none (Data.seq #[(Value.int 173 256), (Value.int 847 257), (Value.int 6150 258), (Value.int 6155 259), (Value.int 6156 260), (Value.int 6157 261), (Value.int 8203 262), (Value.int 8204 263), (Value.int 8205 264), (Value.int 8288 265), (Value.int 65279 266), (Value.int 65024 272), (Value.int 65025 273), (Value.int 65026 274), (Value.int 65027 275), (Value.int 65028 276), (Value.int 65029 277), (Value.int 65030 278), (Value.int 65031 279), (Value.int 65032 280), (Value.int 65033 281), (Value.int 65034 282), (Value.int 65035 283), (Value.int 65036 284), (Value.int 65037 285), (Value.int 65038 286), (Value.int 65039 287)] 0) #[])
noncomputable def o67 (P : Params) : Obj := (Obj.mk (Value.type "list_iterator") none (Data.fields #[Value.none, (Value.int 27 0)]) #[])
noncomputable def o68 (P : Params) : Obj := (Obj.mk (Value.type "tuple") none (Data.seq #[] 0) #[])
noncomputable def o69 (P : Params) : Obj := (Obj.mk (Value.type "StopIteration") none (Data.fields #[(Value.ref 68), Value.none, Value.none, Value.none, (Value.bool false), Value.none]) #[])
noncomputable def T4 (P : Params) : BT := (.node (boot_o_0 P) (.node (boot_o_1 P) (.node (o3v4 P) (.node (boot_o_7 P) (.node (o15 P) (.node (o31 P) (.node (o63 P) .nil .nil) .nil) (.node (o47 P) .nil .nil)) (.node (o23 P) (.node (o39 P) .nil .nil) (.node (o55 P) .nil .nil))) (.node (o11 P) (.node (o19 P) (.node (o35 P) (.node (o67 P) .nil .nil) .nil) (.node (o51 P) .nil .nil)) (.node (o27 P) (.node (o43 P) .nil .nil) (.node (o59 P) .nil .nil)))) (.node (boot_o_5 P) (.node (boot_o_9 P) (.node (o17 P) (.node (o33 P) (.node (o65 P) .nil .nil) .nil) (.node (o49 P) .nil .nil)) (.node (o25 P) (.node (o41 P) .nil .nil) (.node (o57 P) .nil .nil))) (.node (o13 P) (.node (o21 P) (.node (o37 P) (.node (o69 P) .nil .nil) .nil) (.node (o53 P) .nil .nil)) (.node (o29 P) (.node (o45 P) .nil .nil) (.node (o61 P) .nil .nil))))) (.node (o2 P) (.node (boot_o_4 P) (.node (boot_o_8 P) (.node (o16 P) (.node (o32 P) (.node (o64 P) .nil .nil) .nil) (.node (o48 P) .nil .nil)) (.node (o24 P) (.node (o40 P) .nil .nil) (.node (o56 P) .nil .nil))) (.node (o12v3 P) (.node (o20 P) (.node (o36 P) (.node (o68 P) .nil .nil) .nil) (.node (o52 P) .nil .nil)) (.node (o28 P) (.node (o44 P) .nil .nil) (.node (o60 P) .nil .nil)))) (.node (boot_o_6 P) (.node (boot_o_10 P) (.node (o18 P) (.node (o34 P) (.node (o66 P) .nil .nil) .nil) (.node (o50 P) .nil .nil)) (.node (o26 P) (.node (o42 P) .nil .nil) (.node (o58 P) .nil .nil))) (.node (o14 P) (.node (o22 P) (.node (o38 P) .nil .nil) (.node (o54 P) .nil .nil)) (.node (o30 P) (.node (o46 P) .nil .nil) (.node (o62 P) .nil .nil))))))
noncomputable def S4 (w : World) (os : OsState) : SharedT := ⟨T4 w.params, 70, (Life.mk [] [] [] 0 [] [] false #[] [] 0 false false false 0 [2000, 10, 10] false 0 true [] [] 0 false), #[], (Drawn.mk 0 0 0 0), 316, os⟩
noncomputable def pos4 : Pos := ⟨26, 0, 26, 6⟩
noncomputable def o3v5 (P : Params) : Obj := (Obj.mk (Value.type "dict") none (Data.dict #[(DictEntry.mk (PyData.keyHash P (Str.ofString "__name__")) (Value.str (Str.ofString "__name__") 165) (Value.str (Str.ofString "cpy313.stringprep") 254)), (DictEntry.mk (PyData.keyHash P (Str.ofString "__doc__")) (Value.str (Str.ofString "__doc__") 166) Value.none), (DictEntry.mk (PyData.keyHash P (Str.ofString "__package__")) (Value.str (Str.ofString "__package__") 167) Value.none), (DictEntry.mk (PyData.keyHash P (Str.ofString "__loader__")) (Value.str (Str.ofString "__loader__") 168) (Value.builtin "__main__.__loader__#opaque")), (DictEntry.mk (PyData.keyHash P (Str.ofString "__spec__")) (Value.str (Str.ofString "__spec__") 169) Value.none), (DictEntry.mk (PyData.keyHash P (Str.ofString "__annotations__")) (Value.str (Str.ofString "__annotations__") 170) (Value.ref 6)), (DictEntry.mk (PyData.keyHash P (Str.ofString "__builtins__")) (Value.str (Str.ofString "__builtins__") 171) (Value.ref 4)), (DictEntry.mk (PyData.keyHash P (Str.ofString "__file__")) (Value.str (Str.ofString "__file__") 173) (Value.str (Str.ofString "/claim/cut.py") 172)), (DictEntry.mk (PyData.keyHash P (Str.ofString "__cached__")) (Value.str (Str.ofString "__cached__") 174) Value.none), (DictEntry.mk (PyData.keyHash P (Str.ofString "Error")) (Value.str (Str.ofString "Error") 208) (Value.ref 24)), (DictEntry.mk (PyData.keyHash P (Str.ofString "error_reply")) (Value.str (Str.ofString "error_reply") 224) (Value.ref 37)), (DictEntry.mk (PyData.keyHash P (Str.ofString "error_proto")) (Value.str (Str.ofString "error_proto") 240) (Value.ref 49)), (DictEntry.mk (PyData.keyHash P (Str.ofString "parse229")) (Value.str (Str.ofString "parse229") 253) (Value.ref 58)), (DictEntry.mk (PyData.keyHash P (Str.ofString "b1_set")) (Value.str (Str.ofString "b1_set") 315) (Value.ref 66)), (DictEntry.mk (PyData.keyHash P (Str.ofString "in_table_b1")) (Value.str (Str.ofString "in_table_b1") 322) (Value.ref 76))] 15) #[])
noncomputable def o12v5 (P : Params) : Obj := (Obj.mk Value.none none (Data.fields #[(Value.int 2 0), (Value.int 0 0), (Value.ref 20), (Value.int 4 0), (Value.int 0 0), (Value.ref 33), (Value.int 6 0), (Value.int 0 0), (Value.ref 45), (Value.int 8 0), (Value.int 0 0), (Value.ref 57), (Value.int 27 0), (Value.int 0 0), (Value.ref 75)]) #[])
noncomputable def o70 (P : Params) : Obj := kAt P 70
noncomputable def o71 (P : Params) : Obj := (Obj.mk Value.none none (Data.fields #[]) #[])
noncomputable def o72 (P : Params) : Obj := kAt P 72
noncomputable def o73 (P : Params) : Obj := kAt P 73
noncomputable def o74 (P : Params) : Obj := by
  refine' (?F : (d : Obj) → @Eq Obj ((Obj.mk Value.none none (Data.func (FuncData.mk (Str.ofString "in_table_b1") (Str.ofString "in_table_b1") rec7.params (FuncBody.stmts rec7.body) rec7.scope 0 [] Value.none Value.none Value.none Value.none none Value.none Value.none 0)) #[])) d → Obj) _ (by dsimp only [rec7])
  exact fun d _ => d
noncomputable def o75 (P : Params) : Obj := kAt P 75
noncomputable def o76 (P : Params) : Obj := kAt P 76
noncomputable def T5 (P : Params) : BT := (.node (boot_o_0 P) (.node (boot_o_1 P) (.node (o3v5 P) (.node (boot_o_7 P) (.node (o15 P) (.node (o31 P) (.node (o63 P) .nil .nil) .nil) (.node (o47 P) .nil .nil)) (.node (o23 P) (.node (o39 P) (.node (o71 P) .nil .nil) .nil) (.node (o55 P) .nil .nil))) (.node (o11 P) (.node (o19 P) (.node (o35 P) (.node (o67 P) .nil .nil) .nil) (.node (o51 P) .nil .nil)) (.node (o27 P) (.node (o43 P) (.node (o75 P) .nil .nil) .nil) (.node (o59 P) .nil .nil)))) (.node (boot_o_5 P) (.node (boot_o_9 P) (.node (o17 P) (.node (o33 P) (.node (o65 P) .nil .nil) .nil) (.node (o49 P) .nil .nil)) (.node (o25 P) (.node (o41 P) (.node (o73 P) .nil .nil) .nil) (.node (o57 P) .nil .nil))) (.node (o13 P) (.node (o21 P) (.node (o37 P) (.node (o69 P) .nil .nil) .nil) (.node (o53 P) .nil .nil)) (.node (o29 P) (.node (o45 P) .nil .nil) (.node (o61 P) .nil .nil))))) (.node (o2 P) (.node (boot_o_4 P) (.node (boot_o_8 P) (.node (o16 P) (.node (o32 P) (.node (o64 P) .nil .nil) .nil) (.node (o48 P) .nil .nil)) (.node (o24 P) (.node (o40 P) (.node (o72 P) .nil .nil) .nil) (.node (o56 P) .nil .nil))) (.node (o12v5 P) (.node (o20 P) (.node (o36 P) (.node (o68 P) .nil .nil) .nil) (.node (o52 P) .nil .nil)) (.node (o28 P) (.node (o44 P) (.node (o76 P) .nil .nil) .nil) (.node (o60 P) .nil .nil)))) (.node (boot_o_6 P) (.node (boot_o_10 P) (.node (o18 P) (.node (o34 P) (.node (o66 P) .nil .nil) .nil) (.node (o50 P) .nil .nil)) (.node (o26 P) (.node (o42 P) (.node (o74 P) .nil .nil) .nil) (.node (o58 P) .nil .nil))) (.node (o14 P) (.node (o22 P) (.node (o38 P) (.node (o70 P) .nil .nil) .nil) (.node (o54 P) .nil .nil)) (.node (o30 P) (.node (o46 P) .nil .nil) (.node (o62 P) .nil .nil))))))
noncomputable def S5 (w : World) (os : OsState) : SharedT := ⟨T5 w.params, 77, (Life.mk [] [] [] 0 [] [] false #[] [] 0 false false false 0 [2000, 10, 10] false 0 true [] [] 0 false), #[], (Drawn.mk 0 0 0 0), 323, os⟩
noncomputable def pos5 : Pos := ⟨27, 0, 28, 30⟩
noncomputable def o3v6 (P : Params) : Obj := (Obj.mk (Value.type "dict") none (Data.dict #[(DictEntry.mk (PyData.keyHash P (Str.ofString "__name__")) (Value.str (Str.ofString "__name__") 165) (Value.str (Str.ofString "cpy313.stringprep") 254)), (DictEntry.mk (PyData.keyHash P (Str.ofString "__doc__")) (Value.str (Str.ofString "__doc__") 166) Value.none), (DictEntry.mk (PyData.keyHash P (Str.ofString "__package__")) (Value.str (Str.ofString "__package__") 167) Value.none), (DictEntry.mk (PyData.keyHash P (Str.ofString "__loader__")) (Value.str (Str.ofString "__loader__") 168) (Value.builtin "__main__.__loader__#opaque")), (DictEntry.mk (PyData.keyHash P (Str.ofString "__spec__")) (Value.str (Str.ofString "__spec__") 169) Value.none), (DictEntry.mk (PyData.keyHash P (Str.ofString "__annotations__")) (Value.str (Str.ofString "__annotations__") 170) (Value.ref 6)), (DictEntry.mk (PyData.keyHash P (Str.ofString "__builtins__")) (Value.str (Str.ofString "__builtins__") 171) (Value.ref 4)), (DictEntry.mk (PyData.keyHash P (Str.ofString "__file__")) (Value.str (Str.ofString "__file__") 173) (Value.str (Str.ofString "/claim/cut.py") 172)), (DictEntry.mk (PyData.keyHash P (Str.ofString "__cached__")) (Value.str (Str.ofString "__cached__") 174) Value.none), (DictEntry.mk (PyData.keyHash P (Str.ofString "Error")) (Value.str (Str.ofString "Error") 208) (Value.ref 24)), (DictEntry.mk (PyData.keyHash P (Str.ofString "error_reply")) (Value.str (Str.ofString "error_reply") 224) (Value.ref 37)), (DictEntry.mk (PyData.keyHash P (Str.ofString "error_proto")) (Value.str (Str.ofString "error_proto") 240) (Value.ref 49)), (DictEntry.mk (PyData.keyHash P (Str.ofString "parse229")) (Value.str (Str.ofString "parse229") 253) (Value.ref 58)), (DictEntry.mk (PyData.keyHash P (Str.ofString "b1_set")) (Value.str (Str.ofString "b1_set") 315) (Value.ref 66)), (DictEntry.mk (PyData.keyHash P (Str.ofString "in_table_b1")) (Value.str (Str.ofString "in_table_b1") 322) (Value.ref 76)), (DictEntry.mk (PyData.keyHash P (Str.ofString "b3_exceptions")) (Value.str (Str.ofString "b3_exceptions") 2273) (Value.ref 77))] 16) #[])
noncomputable def T6 (P : Params) : BT := (.node (boot_o_0 P) (.node (boot_o_1 P) (.node (o3v6 P) (.node (boot_o_7 P) (.node (o15 P) (.node (o31 P) (.node (o63 P) .nil .nil) (.node (oS18 P) .nil .nil)) (.node (o47 P) (.node (oS2 P) .nil .nil) (.node (oS34 P) .nil .nil))) (.node (o23 P) (.node (o39 P) (.node (o71 P) .nil .nil) (.node (oS26 P) .nil .nil)) (.node (o55 P) (.node (oS10 P) .nil .nil) .nil))) (.node (o11 P) (.node (o19 P) (.node (o35 P) (.node (o67 P) .nil .nil) (.node (oS22 P) .nil .nil)) (.node (o51 P) (.node (oS6 P) .nil .nil) (.node (oS38 P) .nil .nil))) (.node (o27 P) (.node (o43 P) (.node (o75 P) .nil .nil) (.node (oS30 P) .nil .nil)) (.node (o59 P) (.node (oS14 P) .nil .nil) .nil)))) (.node (boot_o_5 P) (.node (boot_o_9 P) (.node (o17 P) (.node (o33 P) (.node (o65 P) .nil .nil) (.node (oS20 P) .nil .nil)) (.node (o49 P) (.node (oS4 P) .nil .nil) (.node (oS36 P) .nil .nil))) (.node (o25 P) (.node (o41 P) (.node (o73 P) .nil .nil) (.node (oS28 P) .nil .nil)) (.node (o57 P) (.node (oS12 P) .nil .nil) .nil))) (.node (o13 P) (.node (o21 P) (.node (o37 P) (.node (o69 P) .nil .nil) (.node (oS24 P) .nil .nil)) (.node (o53 P) (.node (oS8 P) .nil .nil) .nil)) (.node (o29 P) (.node (o45 P) (.node (o77d P) .nil .nil) (.node (oS32 P) .nil .nil)) (.node (o61 P) (.node (oS16 P) .nil .nil) .nil))))) (.node (o2 P) (.node (boot_o_4 P) (.node (boot_o_8 P) (.node (o16 P) (.node (o32 P) (.node (o64 P) .nil .nil) (.node (oS19 P) .nil .nil)) (.node (o48 P) (.node (oS3 P) .nil .nil) (.node (oS35 P) .nil .nil))) (.node (o24 P) (.node (o40 P) (.node (o72 P) .nil .nil) (.node (oS27 P) .nil .nil)) (.node (o56 P) (.node (oS11 P) .nil .nil) .nil))) (.node (o12v5 P) (.node (o20 P) (.node (o36 P) (.node (o68 P) .nil .nil) (.node (oS23 P) .nil .nil)) (.node (o52 P) (.node (oS7 P) .nil .nil) .nil)) (.node (o28 P) (.node (o44 P) (.node (o76 P) .nil .nil) (.node (oS31 P) .nil .nil)) (.node (o60 P) (.node (oS15 P) .nil .nil) .nil)))) (.node (boot_o_6 P) (.node (boot_o_10 P) (.node (o18 P) (.node (o34 P) (.node (o66 P) .nil .nil) (.node (oS21 P) .nil .nil)) (.node (o50 P) (.node (oS5 P) .nil .nil) (.node (oS37 P) .nil .nil))) (.node (o26 P) (.node (o42 P) (.node (o74 P) .nil .nil) (.node (oS29 P) .nil .nil)) (.node (o58 P) (.node (oS13 P) .nil .nil) .nil))) (.node (o14 P) (.node (o22 P) (.node (o38 P) (.node (o70 P) .nil .nil) (.node (oS25 P) .nil .nil)) (.node (o54 P) (.node (oS9 P) .nil .nil) .nil)) (.node (o30 P) (.node (o46 P) (.node (oS1 P) .nil .nil) (.node (oS33 P) .nil .nil)) (.node (o62 P) (.node (oS17 P) .nil .nil) .nil))))))
noncomputable def S6 (w : World) (os : OsState) : SharedT := ⟨T6 w.params, 116, (Life.mk [] [] [] 0 [] [] false #[] [] 0 false false false 0 [2000, 10, 10] false 0 true [] [] 0 false), #[], (Drawn.mk 0 0 0 0), 2274, os⟩
noncomputable def pos6 : Pos := ⟨29, 0, 29, 13⟩
noncomputable def o3 (P : Params) : Obj := kAt P 3
noncomputable def o12 (P : Params) : Obj := (Obj.mk Value.none none (Data.fields #[(Value.int 2 0), (Value.int 0 0), (Value.ref 20), (Value.int 4 0), (Value.int 0 0), (Value.ref 33), (Value.int 6 0), (Value.int 0 0), (Value.ref 45), (Value.int 8 0), (Value.int 0 0), (Value.ref 57), (Value.int 27 0), (Value.int 0 0), (Value.ref 75), (Value.int 30 0), (Value.int 0 0), (Value.ref 121), (Value.int 39 0), (Value.int 0 0), (Value.ref 128), (Value.int 45 0), (Value.int 0 0), (Value.ref 135), (Value.int 84 0), (Value.int 0 0), (Value.ref 142), (Value.int 87 0), (Value.int 0 0), (Value.ref 149), (Value.int 96 0), (Value.int 0 0), (Value.ref 154), (Value.int 106 0), (Value.int 0 0), (Value.ref 161), (Value.int 111 0), (Value.int 0 0), (Value.ref 166), (Value.int 113 0), (Value.int 0 0), (Value.ref 171)]) #[])
noncomputable def o116 (P : Params) : Obj := kAt P 116
noncomputable def o117 (P : Params) : Obj := (Obj.mk Value.none none (Data.fields #[]) #[])
noncomputable def o118 (P : Params) : Obj := kAt P 118
noncomputable def o119 (P : Params) : Obj := kAt P 119
noncomputable def o120 (P : Params) : Obj := by
  refine' (?F : (d : Obj) → @Eq Obj ((Obj.mk Value.none none (Data.func (FuncData.mk (Str.ofString "map_table_b3") (Str.ofString "map_table_b3") rec9.params (FuncBody.stmts rec9.body) rec9.scope 0 [] Value.none Value.none Value.none Value.none none Value.none Value.none 0)) #[])) d → Obj) _ (by dsimp only [rec9])
  exact fun d _ => d
noncomputable def o121 (P : Params) : Obj := kAt P 121
noncomputable def o122 (P : Params) : Obj := kAt P 122
noncomputable def o123 (P : Params) : Obj := kAt P 123
noncomputable def o124 (P : Params) : Obj := (Obj.mk Value.none none (Data.fields #[]) #[])
noncomputable def o125 (P : Params) : Obj := kAt P 125
noncomputable def o126 (P : Params) : Obj := kAt P 126
noncomputable def o127 (P : Params) : Obj := by
  refine' (?F : (d : Obj) → @Eq Obj ((Obj.mk Value.none none (Data.func (FuncData.mk (Str.ofString "_substitution_cost") (Str.ofString "_substitution_cost") rec14.params (FuncBody.stmts rec14.body) rec14.scope 0 [] Value.none Value.none Value.none Value.none none Value.none Value.none 0)) #[])) d → Obj) _ (by dsimp only [rec14])
  exact fun d _ => d
noncomputable def o128 (P : Params) : Obj := kAt P 128
noncomputable def o129 (P : Params) : Obj := kAt P 129
noncomputable def o130 (P : Params) : Obj := kAt P 130
noncomputable def o131 (P : Params) : Obj := (Obj.mk Value.none none (Data.fields #[]) #[])
noncomputable def o132 (P : Params) : Obj := kAt P 132
noncomputable def o133 (P : Params) : Obj := kAt P 133
noncomputable def o134 (P : Params) : Obj := by
  refine' (?F : (d : Obj) → @Eq Obj ((Obj.mk Value.none none (Data.func (FuncData.mk (Str.ofString "_levenshtein_distance") (Str.ofString "_levenshtein_distance") rec15.params (FuncBody.stmts rec15.body) rec15.scope 0 [] Value.none Value.none Value.none Value.none none Value.none Value.none 0)) #[])) d → Obj) _ (by dsimp only [rec15])
  exact fun d _ => d
noncomputable def o135 (P : Params) : Obj := kAt P 135
noncomputable def o136 (P : Params) : Obj := kAt P 136
noncomputable def o137 (P : Params) : Obj := kAt P 137
noncomputable def o138 (P : Params) : Obj := (Obj.mk Value.none none (Data.fields #[]) #[])
noncomputable def o139 (P : Params) : Obj := kAt P 139
noncomputable def o140 (P : Params) : Obj := kAt P 140
noncomputable def o141 (P : Params) : Obj := by
  refine' (?F : (d : Obj) → @Eq Obj ((Obj.mk Value.none none (Data.func (FuncData.mk (Str.ofString "_law_hidden") (Str.ofString "_law_hidden") rec17.params (FuncBody.stmts rec17.body) rec17.scope 0 [] Value.none Value.none Value.none Value.none none Value.none Value.none 0)) #[])) d → Obj) _ (by dsimp only [rec17])
  exact fun d _ => d
noncomputable def o142 (P : Params) : Obj := kAt P 142
noncomputable def o143 (P : Params) : Obj := kAt P 143
noncomputable def o144 (P : Params) : Obj := kAt P 144
noncomputable def o145 (P : Params) : Obj := (Obj.mk Value.none none (Data.fields #[]) #[])
noncomputable def o146 (P : Params) : Obj := kAt P 146
noncomputable def o147 (P : Params) : Obj := kAt P 147
noncomputable def o148 (P : Params) : Obj := by
  refine' (?F : (d : Obj) → @Eq Obj ((Obj.mk Value.none none (Data.func (FuncData.mk (Str.ofString "_law_told") (Str.ofString "_law_told") rec18.params (FuncBody.stmts rec18.body) rec18.scope 0 [] Value.none Value.none Value.none Value.none none Value.none Value.none 0)) #[])) d → Obj) _ (by dsimp only [rec18])
  exact fun d _ => d
noncomputable def o149 (P : Params) : Obj := kAt P 149
noncomputable def o150 (P : Params) : Obj := kAt P 150
noncomputable def o151 (P : Params) : Obj := kAt P 151
noncomputable def o152 (P : Params) : Obj := (Obj.mk Value.none none (Data.fields #[]) #[])
noncomputable def o153 (P : Params) : Obj := by
  refine' (?F : (d : Obj) → @Eq Obj ((Obj.mk Value.none none (Data.func (FuncData.mk (Str.ofString "_law_due") (Str.ofString "_law_due") rec19.params (FuncBody.stmts rec19.body) rec19.scope 0 [] Value.none Value.none Value.none Value.none none Value.none Value.none 0)) #[])) d → Obj) _ (by dsimp only [rec19])
  exact fun d _ => d
noncomputable def o154 (P : Params) : Obj := kAt P 154
noncomputable def o155 (P : Params) : Obj := kAt P 155
noncomputable def o156 (P : Params) : Obj := kAt P 156
noncomputable def o157 (P : Params) : Obj := (Obj.mk Value.none none (Data.fields #[]) #[])
noncomputable def o158 (P : Params) : Obj := kAt P 158
noncomputable def o159 (P : Params) : Obj := kAt P 159
noncomputable def o160 (P : Params) : Obj := by
  refine' (?F : (d : Obj) → @Eq Obj ((Obj.mk Value.none none (Data.func (FuncData.mk (Str.ofString "_law_strewn") (Str.ofString "_law_strewn") rec20.params (FuncBody.stmts rec20.body) rec20.scope 0 [] Value.none Value.none Value.none Value.none none Value.none Value.none 0)) #[])) d → Obj) _ (by dsimp only [rec20])
  exact fun d _ => d
noncomputable def o161 (P : Params) : Obj := kAt P 161
noncomputable def o162 (P : Params) : Obj := kAt P 162
noncomputable def o163 (P : Params) : Obj := kAt P 163
noncomputable def o164 (P : Params) : Obj := (Obj.mk Value.none none (Data.fields #[]) #[])
noncomputable def o165 (P : Params) : Obj := by
  refine' (?F : (d : Obj) → @Eq Obj ((Obj.mk Value.none none (Data.func (FuncData.mk (Str.ofString "_law_prepared") (Str.ofString "_law_prepared") rec21.params (FuncBody.stmts rec21.body) rec21.scope 0 [] Value.none Value.none Value.none Value.none none Value.none Value.none 0)) #[])) d → Obj) _ (by dsimp only [rec21])
  exact fun d _ => d
noncomputable def o166 (P : Params) : Obj := kAt P 166
noncomputable def o167 (P : Params) : Obj := kAt P 167
noncomputable def o168 (P : Params) : Obj := kAt P 168
noncomputable def o169 (P : Params) : Obj := (Obj.mk Value.none none (Data.fields #[]) #[])
noncomputable def o170 (P : Params) : Obj := by
  refine' (?F : (d : Obj) → @Eq Obj ((Obj.mk Value.none none (Data.func (FuncData.mk (Str.ofString "law") (Str.ofString "law") rec22.params (FuncBody.stmts rec22.body) rec22.scope 0 [] Value.none Value.none Value.none Value.none none Value.none Value.none 0)) #[])) d → Obj) _ (by dsimp only [rec22])
  exact fun d _ => d
noncomputable def o171 (P : Params) : Obj := kAt P 171
noncomputable def o172 (P : Params) : Obj := kAt P 172
noncomputable def T7 (P : Params) : BT := (.node (boot_o_0 P) (.node (boot_o_1 P) (.node (o3 P) (.node (boot_o_7 P) (.node (o15 P) (.node (o31 P) (.node (o63 P) (.node (o127 P) .nil .nil) .nil) (.node (oS18 P) (.node (o159 P) .nil .nil) .nil)) (.node (o47 P) (.node (oS2 P) (.node (o143 P) .nil .nil) .nil) (.node (oS34 P) .nil .nil))) (.node (o23 P) (.node (o39 P) (.node (o71 P) (.node (o135 P) .nil .nil) .nil) (.node (oS26 P) (.node (o167 P) .nil .nil) .nil)) (.node (o55 P) (.node (oS10 P) (.node (o151 P) .nil .nil) .nil) (.node (o119 P) .nil .nil)))) (.node (o11 P) (.node (o19 P) (.node (o35 P) (.node (o67 P) (.node (o131 P) .nil .nil) .nil) (.node (oS22 P) (.node (o163 P) .nil .nil) .nil)) (.node (o51 P) (.node (oS6 P) (.node (o147 P) .nil .nil) .nil) (.node (oS38 P) .nil .nil))) (.node (o27 P) (.node (o43 P) (.node (o75 P) (.node (o139 P) .nil .nil) .nil) (.node (oS30 P) (.node (o171 P) .nil .nil) .nil)) (.node (o59 P) (.node (oS14 P) (.node (o155 P) .nil .nil) .nil) (.node (o123 P) .nil .nil))))) (.node (boot_o_5 P) (.node (boot_o_9 P) (.node (o17 P) (.node (o33 P) (.node (o65 P) (.node (o129 P) .nil .nil) .nil) (.node (oS20 P) (.node (o161 P) .nil .nil) .nil)) (.node (o49 P) (.node (oS4 P) (.node (o145 P) .nil .nil) .nil) (.node (oS36 P) .nil .nil))) (.node (o25 P) (.node (o41 P) (.node (o73 P) (.node (o137 P) .nil .nil) .nil) (.node (oS28 P) (.node (o169 P) .nil .nil) .nil)) (.node (o57 P) (.node (oS12 P) (.node (o153 P) .nil .nil) .nil) (.node (o121 P) .nil .nil)))) (.node (o13 P) (.node (o21 P) (.node (o37 P) (.node (o69 P) (.node (o133 P) .nil .nil) .nil) (.node (oS24 P) (.node (o165 P) .nil .nil) .nil)) (.node (o53 P) (.node (oS8 P) (.node (o149 P) .nil .nil) .nil) (.node (o117 P) .nil .nil))) (.node (o29 P) (.node (o45 P) (.node (o77d P) (.node (o141 P) .nil .nil) .nil) (.node (oS32 P) .nil .nil)) (.node (o61 P) (.node (oS16 P) (.node (o157 P) .nil .nil) .nil) (.node (o125 P) .nil .nil)))))) (.node (o2 P) (.node (boot_o_4 P) (.node (boot_o_8 P) (.node (o16 P) (.node (o32 P) (.node (o64 P) (.node (o128 P) .nil .nil) .nil) (.node (oS19 P) (.node (o160 P) .nil .nil) .nil)) (.node (o48 P) (.node (oS3 P) (.node (o144 P) .nil .nil) .nil) (.node (oS35 P) .nil .nil))) (.node (o24 P) (.node (o40 P) (.node (o72 P) (.node (o136 P) .nil .nil) .nil) (.node (oS27 P) (.node (o168 P) .nil .nil) .nil)) (.node (o56 P) (.node (oS11 P) (.node (o152 P) .nil .nil) .nil) (.node (o120 P) .nil .nil)))) (.node (o12 P) (.node (o20 P) (.node (o36 P) (.node (o68 P) (.node (o132 P) .nil .nil) .nil) (.node (oS23 P) (.node (o164 P) .nil .nil) .nil)) (.node (o52 P) (.node (oS7 P) (.node (o148 P) .nil .nil) .nil) (.node (o116 P) .nil .nil))) (.node (o28 P) (.node (o44 P) (.node (o76 P) (.node (o140 P) .nil .nil) .nil) (.node (oS31 P) (.node (o172 P) .nil .nil) .nil)) (.node (o60 P) (.node (oS15 P) (.node (o156 P) .nil .nil) .nil) (.node (o124 P) .nil .nil))))) (.node (boot_o_6 P) (.node (boot_o_10 P) (.node (o18 P) (.node (o34 P) (.node (o66 P) (.node (o130 P) .nil .nil) .nil) (.node (oS21 P) (.node (o162 P) .nil .nil) .nil)) (.node (o50 P) (.node (oS5 P) (.node (o146 P) .nil .nil) .nil) (.node (oS37 P) .nil .nil))) (.node (o26 P) (.node (o42 P) (.node (o74 P) (.node (o138 P) .nil .nil) .nil) (.node (oS29 P) (.node (o170 P) .nil .nil) .nil)) (.node (o58 P) (.node (oS13 P) (.node (o154 P) .nil .nil) .nil) (.node (o122 P) .nil .nil)))) (.node (o14 P) (.node (o22 P) (.node (o38 P) (.node (o70 P) (.node (o134 P) .nil .nil) .nil) (.node (oS25 P) (.node (o166 P) .nil .nil) .nil)) (.node (o54 P) (.node (oS9 P) (.node (o150 P) .nil .nil) .nil) (.node (o118 P) .nil .nil))) (.node (o30 P) (.node (o46 P) (.node (oS1 P) (.node (o142 P) .nil .nil) .nil) (.node (oS33 P) .nil .nil)) (.node (o62 P) (.node (oS17 P) (.node (o158 P) .nil .nil) .nil) (.node (o126 P) .nil .nil)))))))
noncomputable def S7 (w : World) (os : OsState) : SharedT := ⟨T7 w.params, 173, (Life.mk [] [] [] 0 [] [] false #[] [] 0 false false false 0 [2000, 10, 10] false 0 true [] [] 0 false), #[], (Drawn.mk 0 0 0 0), 2365, os⟩
noncomputable def pos7 : Pos := ⟨113, 0, 148, 15⟩

noncomputable def env : Env := { scope := pw.main.scope, locals := mainNs, globals := mainNs, cells := [], code := .ref 13, frame := some 14 }
noncomputable def body : List Stmt := behindTheImports pw
noncomputable def cE : Code := .body body env
noncomputable def B : List Frame := [topFrame ⟨0, 0, 0, 0⟩]

set_option maxHeartbeats 0 in
theorem piece1s (w : World) (os : OsState) : PySem.W.Fast.tw10110043849684766642 PySem.W.Fast.tw14364793385576792824 pw w 11 (some (.ref 6)) 1 206 (S0 w os) ⟨(PySem.W.Fast.tw12563942051412417395 ((body.drop 0).take 2) env).wrap doneF deadEnd id id, cE, pos0, B⟩ = some (.next, S1 w os, cE, pos1) := by kernel_rfl
theorem piece1 (w : World) (os : OsState) : segRunT treeTable pw w 11 (some (.ref 6)) 1 206 (S0 w os) (piecesOf ((body.drop 0).take 2) env cE pos0 B) = some (.next, S1 w os, cE, pos1) := by
  rw [PySem.W.Fast.te10110043849684766642, PySem.W.Fast.te14364793385576792824]
  show _ = _
  have h := piece1s w os
  rw [← PySem.W.Fast.te12563942051412417395] at h
  exact h

set_option maxHeartbeats 0 in
theorem piece2s (w : World) (os : OsState) : PySem.W.Fast.tw10110043849684766642 PySem.W.Fast.tw14364793385576792824 pw w 11 (some (.ref 6)) 1 214 (S1 w os) ⟨(PySem.W.Fast.tw12563942051412417395 ((body.drop 2).take 1) env).wrap doneF deadEnd id id, cE, pos1, B⟩ = some (.next, S2 w os, cE, pos2) := by kernel_rfl
theorem piece2 (w : World) (os : OsState) : segRunT treeTable pw w 11 (some (.ref 6)) 1 214 (S1 w os) (piecesOf ((body.drop 2).take 1) env cE pos1 B) = some (.next, S2 w os, cE, pos2) := by
  rw [PySem.W.Fast.te10110043849684766642, PySem.W.Fast.te14364793385576792824]
  show _ = _
  have h := piece2s w os
  rw [← PySem.W.Fast.te12563942051412417395] at h
  exact h

set_option maxHeartbeats 0 in
theorem piece3s (w : World) (os : OsState) : PySem.W.Fast.tw10110043849684766642 PySem.W.Fast.tw14364793385576792824 pw w 11 (some (.ref 6)) 1 258 (S2 w os) ⟨(PySem.W.Fast.tw12563942051412417395 ((body.drop 3).take 3) env).wrap doneF deadEnd id id, cE, pos2, B⟩ = some (.next, S3 w os, cE, pos3) := by kernel_rfl
theorem piece3 (w : World) (os : OsState) : segRunT treeTable pw w 11 (some (.ref 6)) 1 258 (S2 w os) (piecesOf ((body.drop 3).take 3) env cE pos2 B) = some (.next, S3 w os, cE, pos3) := by
  rw [PySem.W.Fast.te10110043849684766642, PySem.W.Fast.te14364793385576792824]
  show _ = _
  have h := piece3s w os
  rw [← PySem.W.Fast.te12563942051412417395] at h
  exact h

set_option maxHeartbeats 0 in
theorem piece4s (w : World) (os : OsState) : PySem.W.Fast.tw10110043849684766642 PySem.W.Fast.tw14364793385576792824 pw w 11 (some (.ref 6)) 1 999 (S3 w os) ⟨(PySem.W.Fast.tw12563942051412417395 ((body.drop 6).take 1) env).wrap doneF deadEnd id id, cE, pos3, B⟩ = some (.next, S4 w os, cE, pos4) := by
  revert os w
  intro w
  refine byRow2 "special-get-raises" (P := fun w => ∀ os, PySem.W.Fast.tw10110043849684766642 PySem.W.Fast.tw14364793385576792824 pw w 11 (some (.ref 6)) 1 999 (S3 w os) ⟨(PySem.W.Fast.tw12563942051412417395 ((body.drop 6).take 1) env).wrap doneF deadEnd id id, cE, pos3, B⟩ = some (.next, S4 w os, cE, pos4)) ?_ ?_ w
  · intro w os; kernel_rfl
  · intro w os; kernel_rfl
theorem piece4 (w : World) (os : OsState) : segRunT treeTable pw w 11 (some (.ref 6)) 1 999 (S3 w os) (piecesOf ((body.drop 6).take 1) env cE pos3 B) = some (.next, S4 w os, cE, pos4) := by
  rw [PySem.W.Fast.te10110043849684766642, PySem.W.Fast.te14364793385576792824]
  show _ = _
  have h := piece4s w os
  rw [← PySem.W.Fast.te12563942051412417395] at h
  exact h

set_option maxHeartbeats 0 in
theorem piece5s (w : World) (os : OsState) : PySem.W.Fast.tw10110043849684766642 PySem.W.Fast.tw14364793385576792824 pw w 11 (some (.ref 6)) 1 30 (S4 w os) ⟨(PySem.W.Fast.tw12563942051412417395 ((body.drop 7).take 1) env).wrap doneF deadEnd id id, cE, pos4, B⟩ = some (.next, S5 w os, cE, pos5) := by kernel_rfl
theorem piece5 (w : World) (os : OsState) : segRunT treeTable pw w 11 (some (.ref 6)) 1 30 (S4 w os) (piecesOf ((body.drop 7).take 1) env cE pos4 B) = some (.next, S5 w os, cE, pos5) := by
  rw [PySem.W.Fast.te10110043849684766642, PySem.W.Fast.te14364793385576792824]
  show _ = _
  have h := piece5s w os
  rw [← PySem.W.Fast.te12563942051412417395] at h
  exact h

set_option maxHeartbeats 0 in
theorem piece7s (w : World) (os : OsState) : PySem.W.Fast.tw10110043849684766642 PySem.W.Fast.tw14364793385576792824 pw w 11 (some (.ref 6)) 1 319 (S6 w os) ⟨(PySem.W.Fast.tw12563942051412417395 ((body.drop 9).take 14) env).wrap doneF deadEnd id id, cE, pos6, B⟩ = some (.next, S7 w os, cE, pos7) := by kernel_rfl
theorem piece7 (w : World) (os : OsState) : segRunT treeTable pw w 11 (some (.ref 6)) 1 319 (S6 w os) (piecesOf ((body.drop 9).take 14) env cE pos6 B) = some (.next, S7 w os, cE, pos7) := by
  rw [PySem.W.Fast.te10110043849684766642, PySem.W.Fast.te14364793385576792824]
  show _ = _
  have h := piece7s w os
  rw [← PySem.W.Fast.te12563942051412417395] at h
  exact h
end
end
section
noncomputable section
noncomputable def kAs : List Addr := [2, 3, 6, 15, 22, 23, 24, 25, 28, 35, 36, 37, 40, 47, 48, 49, 52, 54, 55, 57, 58, 66, 70, 72, 73, 75, 76, 77, 116, 118, 119, 121, 122, 123, 125, 126, 128, 129, 130, 132, 133, 135, 136, 137, 139, 140, 142, 143, 144, 146, 147, 149, 150, 151, 154, 155, 156, 158, 159, 161, 162, 163, 166, 167, 168, 171, 172]
theorem kAs_eq : ∀ P, kAs = (K P).map (·.1) := fun P => by kernel_rfl
noncomputable abbrev H : Hook := kHook K kAs kAs_eq
noncomputable def H1 (P : Params) : Heap := absHeap (T7 P) 173 (S7 ⟨fun _ _ => 0, P⟩ default).life
noncomputable def rw49 : OpenLaw := PySem.Challenge.rw_tp0049_02

theorem look1 (w : World) (os : OsState) : (staticsOk (importedModules pw.main.body) (boot_heap w.params) (H1 w.params) && namesBound pw (H1 w.params) && gensDone ⟨H1 w.params, #[], ⟨0, 0, 0, 0⟩, 2365, os⟩ && laidKept (boot_heap w.params) (H1 w.params)) = true := by kernel_rfl
theorem look3 (w : World) (os : OsState) : H.obs ⟨H1 w.params, #[], ⟨0, 0, 0, 0⟩, 2365, os⟩ = H.val w := by kernel_rfl
theorem look2 (w : World) (os : OsState) : openSeen vw loose (importedModules pw.main.body) (fun s => xlAt vw [] s && recOk (RowW.records (OpenLaw.row rw49).toRowW) s) true ⟨H1 w.params, #[], ⟨0, 0, 0, 0⟩, 2365, os⟩ = openGood vw loose := by
  rw [PySem.W.Fast.te4187177175401517315]
  kernel_rfl
end
end
section
noncomputable section
theorem openEq : opening pw = plainProg pw.main.scope.names := by kernel_rfl
theorem fenceEq : ∀ s, fenceModules? pw s = some s := fun s => by kernel_rfl
theorem openH : ∀ w : World, (fencedOpening treeTable pw w 30000).map (fun s => (s.heap, s.gens, s.drawn, s.toks)) = some (boot_heap w.params, Array.mk [], boot_drawn, boot_toks) :=
  boot_open openEq (by decide) fenceEq
theorem sizeH : ∀ w : World, ((boot_heap w.params).isNs mainGlobals && (Array.mk [] : Array GenState).size == 0, (boot_heap w.params).objs.size, (boot_heap w.params).nsMap mainGlobals "__annotations__") = (true, 11, some (.ref 6)) := fun w => by kernel_rfl
theorem preHs (w : World) (os : OsState) : PySem.W.Fast.tw15667345088766844465 PySem.W.Fast.tw14364793385576792824 pw w 11 (some (.ref 6)) 12 ⟨boot_heap w.params, Array.mk [], boot_drawn, boot_toks, os⟩ (topStub pw) = some ((S0 w os).abs, ⟨PySem.W.Fast.tw11892475500146522536 PySem.W.Fast.tw14364793385576792824 cE, cE, ⟨0, 0, 0, 0⟩, B⟩) := by
  kernel_rfl
theorem preH (w : World) (os : OsState) : topGo treeTable pw w 11 (some (.ref 6)) 12 ⟨boot_heap w.params, Array.mk [], boot_drawn, boot_toks, os⟩ (topStub pw) = some ((S0 w os).abs, ⟨denote treeTable cE, cE, ⟨0, 0, 0, 0⟩, B⟩) := by
  rw [PySem.W.Fast.te15667345088766844465, PySem.W.Fast.te11892475500146522536, PySem.W.Fast.te14364793385576792824]
  exact preHs w os
theorem blockH (w : World) (os : OsState) : segRun treeTable pw w 11 (some (.ref 6)) 1 1 (S0 w os).abs (blockOf body env cE ⟨0, 0, 0, 0⟩ B) = some (.next, (S0 w os).abs, cE, pos0) := by
  kernel_rfl
theorem finH (w : World) (os : OsState) : topRun treeTable pw w 11 (some (.ref 6)) 2 (S7 w os).abs ⟨doneF .next, cE, pos7, B⟩ = some (S7 w os).abs := by
  kernel_rfl
theorem bodyEq : body = (body.drop 0).take 2 ++ ((body.drop 2).take 1 ++ ((body.drop 3).take 3 ++ ((body.drop 6).take 1 ++ ((body.drop 7).take 1 ++ ((body.drop 8).take 1 ++ ((body.drop 9).take 14 ++ [])))))) := by kernel_rfl
end
end
section
noncomputable section
noncomputable def ascB : Nat → List (Nat × List Nat) → Bool
  | _, [] => true
  | lo, x :: r => Nat.blt lo x.1 && Nat.blt x.1 2147483648 && ascB x.1 r
theorem asc_of : ∀ (l : List (Nat × List Nat)) {lo : Nat}, ascB lo l = true → asc lo l
  | [], _, _ => trivial
  | x :: r, lo, h => by
    simp only [ascB, Bool.and_eq_true, Nat.blt_eq] at h
    exact ⟨by omega, by omega, asc_of r h.2⟩
noncomputable def c0 : List (Nat × List Nat) := b3raw.take 17
noncomputable def mids : List (List (Nat × List Nat)) := (List.range 37).map fun j => (b3raw.drop (17 * (j + 1))).take 17
noncomputable def last4 : List (Nat × List Nat) := b3raw.drop 646
theorem b3split : b3raw = c0 ++ (mids.flatten ++ last4) := by kernel_rfl
theorem b3asc : asc (-1) b3raw := asc_mono (lo := (0 : Nat)) (asc_of _ (by kernel_rfl)) (by decide)
theorem mids17 : ∀ ch ∈ mids, ch.length = 17 := by
  have : mids.all (fun ch => Nat.beq ch.length 17) = true := by kernel_rfl
  intro ch h
  exact Nat.eq_of_beq_eq_true (List.all_eq_true.mp this ch h)
noncomputable def stmt8 : Stmt := body.getD 8 default
noncomputable def dictE : PySem.Expr := match stmt8 with | .Assign _ v _ => v | _ => .Constant .none 0 default
noncomputable def tg8 : List PySem.Expr := match stmt8 with | .Assign t _ _ => t | _ => []
noncomputable def posA : Pos := match stmt8 with | .Assign _ _ p => p | _ => default
noncomputable def keysD : List (Option PySem.Expr) := match dictE with | .Dict k _ _ => k | _ => []
noncomputable def valsD : List PySem.Expr := match dictE with | .Dict _ v _ => v | _ => []
noncomputable def posD : Pos := match dictE with | .Dict _ _ p => p | _ => default
theorem stmt8_eq : (body.drop 8).take 1 = [Stmt.Assign tg8 (.Dict keysD valsD posD) posA] := by kernel_rfl
theorem items_eq : (evalEachOpt keysD env).zip ((evalEach valsD env).map fun v => do let x ← v; standAt posD; pure x) = b3raw.map (conv posD) := by kernel_rfl
noncomputable def restA (env : Env) (tg : List PySem.Expr) (value : PySem.Expr) (v : Value) : Sem Flow := do
  let x ← swappedStores tg value env
  let f ← assignStores env v x ((assignEach tg env).map (·.2))
  match f with
  | .next => execs [] env
  | f => pure f
theorem exec_dict {env : Env} {tg : List PySem.Expr} {keys : List (Option PySem.Expr)} {vals : List PySem.Expr} {posD posA : Pos} {items : List (Option (Sem Value) × Sem Value)} (hs : swapsWithSole tg (.Dict keys vals posD) posA.line env = pure false)
    (hi : (evalEachOpt keys env).zip ((evalEach vals env).map fun v => do let x ← v; standAt posD; pure x) = items) :
    execs [Stmt.Assign tg (.Dict keys vals posD) posA] env = (do standAt posA; standAt posD; dictDisplay items) >>= restA env tg (.Dict keys vals posD) := by
  rw [arm_execs_cons, arm_exec_Assign, hs, arm_eval_Dict, hi]
  simp only [bind_assoc, pure_bind, Bool.false_eq_true, if_false]
  rfl
theorem swaps8 : swapsWithSole tg8 (.Dict keysD valsD posD) posA.line env = pure false := by kernel_rfl
theorem exec8 : execs [Stmt.Assign tg8 (.Dict keysD valsD posD) posA] env = (do standAt posA; standAt posD; dictDisplay (b3raw.map (conv posD))) >>= restA env tg8 (.Dict keysD valsD posD) := exec_dict swaps8 items_eq
noncomputable def T6' (P : Params) : BT := (T6 P).set 3 (fun _ => o3v5 P)
noncomputable def S6' (w : World) (os : OsState) : SharedT := { S6 w os with tree := T6' w.params, toks := 2273 }
noncomputable abbrev lf (w : World) (os : OsState) : Life := (S5 w os).life
theorem S5_eq (w : World) (os : OsState) : (S5 w os).abs = stL (lf w os) #[] ⟨0, 0, 0, 0⟩ os ((T5 w.params).list 77) 323 := by kernel_rfl
theorem list77 (w : World) : ((T5 w.params).list 77).length = 77 := by kernel_rfl
theorem S6'_eq (w : World) (os : OsState) : stL (lf w os) #[] ⟨0, 0, 0, 0⟩ os ((T5 w.params).list 77 ++ dObj (ents 323 (c0 ++ mids.flatten) ++ ents2 (323 + 51 + 51 * mids.length) last4) (17 + mids.flatten.length + last4.length) :: (subsOf (323 + 51) mids ++ [dObj (ents2 (323 + 51 + 51 * mids.length) last4) last4.length])) (323 + 51 + 51 * mids.length + 3 * last4.length) = (S6' w os).abs := by kernel_rfl
theorem tail8 (w : World) (os : OsState) : segRunT treeTable pw w 11 (some (.ref 6)) 1 8 (S6' w os) ⟨(restA env tg8 (.Dict keysD valsD posD) (.ref 77)).wrap doneF deadEnd id id, cE, posD, B⟩ = some (.next, S6 w os, cE, pos6) := by
  rw [PySem.W.Fast.te10110043849684766642, PySem.W.Fast.te14364793385576792824]
  kernel_rfl
theorem piece6 (w : World) (os : OsState) : segRun treeTable pw w 11 (some (.ref 6)) 1 (2 + (223 + (330 * mids.length + (6 + 19 * last4.length))) + 8) (S5 w os).abs (piecesOf ((body.drop 8).take 1) env cE pos5 B) = some (.next, (S6 w os).abs, cE, pos6) := by
  have ht := segRun_of (tail8 w os)
  have hd := D_display (pr := pw) (w := w) (n₀ := 11) (ann := some (.ref 6)) (q := ⟨0, 0, 0, 0⟩) (bd := body) (env := env) (life := lf w os) (gens := #[]) (drawn := ⟨0, 0, 0, 0⟩) (os := os) (pos := posD) (A := (T5 w.params).list 77) (by rw [list77]; rfl) (by rw [list77]; decide)
    (c0 := c0) (last := last4) (cs := mids) (t := 323) (by kernel_rfl) mids17 (by intro e; have := congrArg List.length e; revert this; decide +kernel) (by decide +kernel) (by rw [← b3split]; exact b3asc) (by decide +kernel)
  rw [← b3split, S6'_eq, list77] at hd
  have hx : Does pw w 11 (some (.ref 6)) (.body body env) ⟨0, 0, 0, 0⟩ (2 + (223 + (330 * mids.length + (6 + 19 * last4.length)))) (do standAt posA; standAt posD; dictDisplay (b3raw.map (conv posD))) (S5 w os).abs pos5 (.ref 77) (S6' w os).abs posD := by
    rw [S5_eq]
    refine D_cast (m := 1 + (1 + (223 + (330 * mids.length + (6 + 19 * last4.length))))) ?_ (by omega)
    exact D_bind D_at (D_bind D_at hd)
  have h := hx (fun v => (restA env tg8 (.Dict keysD valsD posD) v).wrap doneF deadEnd id id) deadEnd id id
  have e : piecesOf ((body.drop 8).take 1) env cE pos5 B = ⟨((do standAt posA; standAt posD; dictDisplay (b3raw.map (conv posD))) : Sem Value).wrap (fun v => (restA env tg8 (.Dict keysD valsD posD) v).wrap doneF deadEnd id id) deadEnd id id, cE, pos5, B⟩ := by
    rw [stmt8_eq]
    show Thread.mk ((execs [Stmt.Assign tg8 (.Dict keysD valsD posD) posA] env).wrap doneF deadEnd id id) _ _ _ = _
    rw [exec8, Sem.bind_eq_wrap', Sem.wrap_wrap]
    rfl
  rw [e]
  exact seg_go h ht
end
end
section
noncomputable section
theorem runH (w : World) (os : OsState) : topRun treeTable pw w 11 (some (.ref 6)) (12 + (1 + (206 + (214 + (258 + (999 + (30 + ((2 + (223 + (330 * mids.length + (6 + 19 * last4.length))) + 8) + (319 + 2))))))))) ⟨boot_heap w.params, Array.mk [], boot_drawn, boot_toks, os⟩ (topStub pw) = some (S7 w os).abs := by
  refine go_top (preH w os) ?_
  refine piece_block (q := ⟨0, 0, 0, 0⟩) (blockH w os) ?_
  rw [bodyEq]
  refine piece_app (q := ⟨0, 0, 0, 0⟩) (segRun_of (piece1 w os)) ?_
  refine piece_app (q := ⟨0, 0, 0, 0⟩) (segRun_of (piece2 w os)) ?_
  refine piece_app (q := ⟨0, 0, 0, 0⟩) (segRun_of (piece3 w os)) ?_
  refine piece_app (q := ⟨0, 0, 0, 0⟩) (segRun_of (piece4 w os)) ?_
  refine piece_app (q := ⟨0, 0, 0, 0⟩) (segRun_of (piece5 w os)) ?_
  refine piece_app (q := ⟨0, 0, 0, 0⟩) (piece6 w os) ?_
  refine piece_app (q := ⟨0, 0, 0, 0⟩) (segRun_of (piece7 w os)) ?_
  exact piece_nil (finH w os)
theorem S7_abs (w : World) (os : OsState) : (S7 w os).abs = ⟨H1 w.params, #[], ⟨0, 0, 0, 0⟩, 2365, os⟩ := rfl
noncomputable abbrev XtH : Shared → Bool := fun s => xlAt vw [] s && recOk (RowW.records (OpenLaw.row rw49).toRowW) s
theorem leftH : LeftO pw vw loose XtH H.obs H.val 30000 :=
  LeftO.of_pieces openH sizeH (fun w os => (runH w os).trans (congrArg some (S7_abs w os))) (by decide +kernel)
    (fun w => by
      funext os
      exact looks_pair (look1 w os) (looks_pair (look2 w os) (look3 w os)))
end
end
section
theorem hdefL : defOf vw (Str.ofString "law") = some (dLaw, []) := by kernel_rfl
theorem hpL : pw.theDef (Str.ofString "law") = some (dLaw.params, dLaw.body, dLaw.scope) := by kernel_rfl
theorem hkL : kwWritten? dLaw.params.kwonlyargs dLaw.params.kw_defaults = some [] := by kernel_rfl
theorem okL : (chainsOk vw && opensWell (OpenLaw.row PySem.Challenge.rw_tp0049_02).prog && (frees (OpenLaw.row PySem.Challenge.rw_tp0049_02).toRowW && (OpenLaw.row PySem.Challenge.rw_tp0049_02).within.isEmpty)) = true := by kernel_rfl
theorem bareL : pw.bare := ⟨rfl, rfl, rfl, rfl, rfl, by kernel_rfl⟩
end
theorem regKHJ02 : (∀ P, T49.K P = T49.K P) ∧ PySem.Challenge.rw_tp0049_02 = PySem.Challenge.rw_tp0049_02 := by
  k_fill
  exact ⟨fun _ => rfl, rfl⟩

local macro_rules | `(tactic| walk_at $s:str) => `(tactic| k_extra $s)
section
noncomputable def cost (a b : Str) : Int := if a = b then 0 else if Txt.lower a = Txt.lower b then 1 else 2
set_option maxHeartbeats 8000000 in
theorem C_cost {w : World} {loose : List Str} {mean : ExcName → Option Value} {mg mb : Str → Option Value} {dp un : Nat} {gd : Option (List Code)} {cn : Str} {cs : Scope} {ca : Addr} {ccd : Value} {cl : List (Str × Addr)} {outer : List Env} {A₀ : Around} {base h₀ : Heap} {L : Addr} {m : Str → Option Value} {s : Shared} {Q E : Value → Shared → Prop} {news : List (Addr × Obj)}
    (B : Below A₀ base outer h₀) (F : Fr h₀ L s.heap m) (X : (T49.K w.params).In h₀) (N : News h₀ L s.heap news) (T : Top T49.vw loose mean mg mb h₀) (hk : cs.kind = .function) (hd : dp + 5 < recursionLimit) (hu : un + 60 < cLine)
    {x y : Str} {tx ty : Tok} (hx : x.length ≤ 1000) (hy : y.length ≤ 1000)
    (hret : ∀ (t : Tok) (h' : Heap) (tk' : Nat), Fr h₀ L h' m → News h₀ L h' news → Q (.int (cost x y) t) { s with heap := h', toks := tk' }) :
    wpAny (model PySem.Challenge.rw_tp0049_02.row.prog w) (ktrTop dp un gd cn cs L ca ccd cl outer) (call (.ref 129) [.str x tx, .str y ty]) Q E s := by
  k_with_none
  (k_with "call builtin:str.lower" => ((k_here; (with_reducible show wpAny _ _ (call (Value.builtin "str.lower") [Value.str _ _]) _ _ _); (refine SCL.lower (by omega) ?_); intro _)))
  refine wpAny_call ?_
  k_dflt cell_enter
  k_steps
  · refine cb_retI hret ?_ (by k_asm) (by k_asm)
    simp_all [cost]
  · refine cb_retI hret ?_ (by k_asm) (by k_asm)
    simp_all [cost]
  · refine cb_retI hret ?_ (by k_asm) (by k_asm)
    simp_all [cost]
end
section
noncomputable def b1B (k : Int) : Bool := setEs.toList.any fun e => Value.isInt k e.2
theorem setOf66 {prog : Program} {w : World} {P : Params} {h : Heap} (X : h.get? 66 = some (o66 P)) : h.SetOf (intKind prog w) 66 b1B 27 := by
  refine ⟨o66 P, setEs, 29, _, X, ⟨rfl, rfl, rfl⟩, rfl, ?_, ?_, by decide +kernel, by cases P.followText "set-order" <;> rfl, rfl⟩
  · have hc : setEs.toList.all (fun e => match e.2 with | .int k _ => e.1 == hashInt k | _ => false) = true := by kernel_rfl
    intro e he
    have := List.all_eq_true.mp hc e he
    obtain ⟨h0, v⟩ := e
    cases v with
    | int k t => exact ⟨⟨k, by simp [intKind, Value.isInt], eq_of_beq this⟩, rfl⟩
    | _ => cases this
  · intro k
    unfold b1B
    rw [List.any_eq_true]
    rfl
theorem in_b1 {prog : Program} {w : World} {A : Around} {E : Value → Shared → Prop} {s : Shared} {P : Params} {k : Int} {tk : Tok} {Q : Value → Shared → Prop} (X : s.heap.get? 66 = some (o66 P)) (h : Q (.bool (b1B k)) { s with toks := s.toks + 1 }) :
    wpAny (model prog w) A (compareOp .In (.int k tk) (.ref 66)) Q E s :=
  wpAny_inSet_of (knd := intKind prog w) (k := k) (by simp [intKind, Value.isInt]) rfl (setOf66 X) h

noncomputable def b3of (x : Nat) : Option (List Nat) := (b3raw.find? fun p => p.1 == x).map (·.2)
theorem find_ents (x : Nat) : ∀ (l : List (Nat × List Nat)) (t : Nat), match l.find? (fun p => p.1 == x) with
    | some p => ∃ tok, (ents t l).find? (fun e => Value.isInt (x : Int) e.key) = some ⟨x, .int x tok, .str ⟨p.2.toArray⟩ (tok + 1)⟩
    | none => (ents t l).find? (fun e => Value.isInt (x : Int) e.key) = none
  | [], t => rfl
  | p :: l, t => by
    have hk : (Value.isInt (x : Int) (ent t p).key) = (p.1 == x) := by
      show ((p.1 : Int) == (x : Int)) = (p.1 == x)
      cases h : (p.1 == x) with
      | true => rw [beq_iff_eq] at h; subst h; exact beq_self_eq_true _
      | false => rw [beq_eq_false_iff_ne] at h ⊢; omega
    rw [ents, List.find?_cons, List.find?_cons, hk]
    cases h : (p.1 == x) with
    | true => rw [beq_iff_eq] at h; subst h; exact ⟨t, rfl⟩
    | false => exact find_ents x l (t + 3)
theorem find_ents2 (x : Nat) : ∀ (l : List (Nat × List Nat)) (t : Nat), match l.find? (fun p => p.1 == x) with
    | some p => ∃ tok, (ents2 t l).find? (fun e => Value.isInt (x : Int) e.key) = some ⟨x, .int x tok, .str ⟨p.2.toArray⟩ (tok + 1)⟩
    | none => (ents2 t l).find? (fun e => Value.isInt (x : Int) e.key) = none
  | [], t => rfl
  | p :: l, t => by
    have hk : (Value.isInt (x : Int) (ent t p).key) = (p.1 == x) := by
      show ((p.1 : Int) == (x : Int)) = (p.1 == x)
      cases h : (p.1 == x) with
      | true => rw [beq_iff_eq] at h; subst h; exact beq_self_eq_true _
      | false => rw [beq_eq_false_iff_ne] at h ⊢; omega
    rw [ents2, List.find?_cons, List.find?_cons, hk]
    cases h : (p.1 == x) with
    | true => rw [beq_iff_eq] at h; subst h; exact ⟨t, rfl⟩
    | false => exact find_ents2 x l (t + 2)
theorem find_tab (x : Nat) : match b3of x with
    | some v => ∃ tok, tabEntries.find? (fun e => Value.isInt (x : Int) e.key) = some ⟨x, .int x tok, .str ⟨v.toArray⟩ (tok + 1)⟩
    | none => tabEntries.find? (fun e => Value.isInt (x : Int) e.key) = none := by
  have h1 := find_ents x (b3raw.take 646) 323
  have h2 := find_ents2 x (b3raw.drop 646) 2261
  have e : b3raw.find? (fun p => p.1 == x) = ((b3raw.take 646).find? (fun p => p.1 == x)).or ((b3raw.drop 646).find? (fun p => p.1 == x)) := by
    rw [← List.find?_append, List.take_append_drop]
  unfold b3of tabEntries
  rw [e, List.find?_append]
  cases q1 : (b3raw.take 646).find? (fun p => p.1 == x) with
  | some p =>
    rw [q1] at h1
    obtain ⟨tok, h1⟩ := h1
    rw [h1]
    exact ⟨tok, rfl⟩
  | none =>
    rw [q1] at h1
    dsimp only at h1
    rw [h1]
    cases q2 : (b3raw.drop 646).find? (fun p => p.1 == x) with
    | some p =>
      rw [q2] at h2
      obtain ⟨tok, h2⟩ := h2
      exact ⟨tok, by rw [h2]; rfl⟩
    | none =>
      rw [q2] at h2
      dsimp only at h2
      show Option.or none _ = none
      rw [h2]; rfl
theorem mapOf77 {prog : Program} {w : World} {h : Heap} (X : h.get? 77 = some o77) : h.MapOf (intKind prog w) 77 (fun k => findBy Value.isInt tabEntries.toArray k) := by
  refine ⟨o77, tabEntries.toArray, 650, X, ⟨rfl, rfl, rfl⟩, rfl, ?_, fun _ => rfl⟩
  have hc : tabEntries.all (fun e => match e.key with | .int k _ => e.hash == hashInt k | _ => false) = true := by kernel_rfl
  intro e he
  have := List.all_eq_true.mp hc e (by simpa using he)
  obtain ⟨h0, v, u⟩ := e
  cases v with
  | int k t => exact ⟨k, by simp [intKind, Value.isInt], eq_of_beq this⟩
  | _ => cases this
theorem get_b3 {prog : Program} {w : World} {A : Around} {E : Value → Shared → Prop} {s : Shared} {x : Nat} {tk : Tok} {Q : Value → Shared → Prop} (X : s.heap.get? 77 = some o77)
    (h1 : ∀ v tok, b3of x = some v → Q (.str ⟨v.toArray⟩ tok) { s with toks := s.toks + 1 }) (h2 : b3of x = none → Q .none { s with toks := s.toks + 1 }) :
    wpAny (model prog w) A (call (.builtin "dict.get") [.ref 77, .int (x : Int) tk]) Q E s := by
  have hd := mapOf77 (prog := prog) (w := w) X
  refine call_meetsIn PySem.F.slot_dict_get (s := s) (by exact ⟨o77, X, rfl⟩) PySem.F.entry_dict_get (PySem.F.args_dict_get_2 _ _) (meets_dict_get (intKind prog w) 77 (k := (x : Int)) (by simp [intKind, Value.isInt]) (by decide)) ⟨_, hd, ?_⟩
  have hf := find_tab x
  unfold findBy
  cases q : b3of x with
  | some v =>
    rw [q] at hf
    obtain ⟨tok, hf⟩ := hf
    rw [List.find?_toArray, hf]
    exact h1 v _ q
  | none =>
    rw [q] at hf
    dsimp only at hf
    rw [List.find?_toArray, hf]
    exact h2 q
theorem meth_b3 {prog : Program} {w : World} {A : Around} {E : Value → Shared → Prop} {s : Shared} {pl : Sem Bool} {Q : Value × List Value → Shared → Prop} (X : s.heap.get? 77 = some o77) (h : Q (.builtin "dict.get", [.ref 77]) s) :
    wpAny (model prog w) A (getMethod (.ref 77) "get" pl) Q E s :=
  getMethod_builtin (show s.TypeIs (.ref 77) "dict" from ⟨o77, X, rfl⟩) PySem.F.plainAttrs_dict PySem.F.slot_dict_get PySem.F.type_dict_get (mapOf77 (prog := prog) (w := w) X).noDict h
noncomputable def b3 (x : Nat) : Str := match b3of x with | some v => ⟨v.toArray⟩ | none => Txt.lower ⟨#[x]⟩
theorem look66 {P : Params} : (T49.K P).lookup 66 = some (o66 P) := by kernel_rfl
theorem look77 {P : Params} : (T49.K P).lookup 77 = some o77 := by kernel_rfl
end
section
set_option maxHeartbeats 8000000 in
theorem C_b1 {w : World} {loose : List Str} {mean : ExcName → Option Value} {mg mb : Str → Option Value} {dp un : Nat} {gd : Option (List Code)} {cn : Str} {cs : Scope} {ca : Addr} {ccd : Value} {cl : List (Str × Addr)} {outer : List Env} {A₀ : Around} {base h₀ : Heap} {L : Addr} {m : Str → Option Value} {s : Shared} {Q E : Value → Shared → Prop} {news : List (Addr × Obj)}
    (B : Below A₀ base outer h₀) (F : Fr h₀ L s.heap m) (X : (T49.K w.params).In h₀) (N : News h₀ L s.heap news) (T : Top T49.vw loose mean mg mb h₀) (hk : cs.kind = .function) (hd : dp + 5 < recursionLimit) (hu : un + 60 < cLine)
    {x : Nat} {tx : Tok} 
    (hret : ∀ (t : Tok) (h' : Heap) (tk' : Nat), Fr h₀ L h' m → News h₀ L h' news → Q (.bool (b1B x)) { s with heap := h', toks := tk' }) :
    wpAny (model PySem.Challenge.rw_tp0049_02.row.prog w) (ktrTop dp un gd cn cs L ca ccd cl outer) (call (.ref 76) [.str ⟨#[x]⟩ tx]) Q E s := by
  k_with_none
  (k_with "compareOp In" => ((k_here; (with_reducible show wpAny _ _ (compareOp CmpOp.In (Value.int _ _) (Value.ref 66)) _ _ _); refine in_b1 ((show (T49.K _).In _ from by k_in) 66 _ look66) ?_)))
  (k_with "getMethod ref" => ((k_here; (with_reducible show wpAny _ _ (getMethod (Value.ref 77) _ _) _ _ _); refine meth_b3 ((show (T49.K _).In _ from by k_in) 77 _ look77) ?_)))
  (k_with "call builtin:dict.get" => ((k_here; (with_reducible show wpAny _ _ (call (Value.builtin "dict.get") [Value.ref 77, Value.int _ _]) _ _ _); refine get_b3 ((show (T49.K _).In _ from by k_in) 77 _ look77) ?_ ?_ <;> intros)))
  (k_with "call builtin:str.lower" => ((k_here; (with_reducible show wpAny _ _ (call (Value.builtin "str.lower") [Value.str _ _]) _ _ _); (refine SCL.lower (by first | omega | exact Nat.le_of_ble_eq_true rfl) ?_); intro _)))
  refine wpAny_call ?_
  k_dflt cell_enter
  k_steps
  · exact cb_retB hret rfl (by k_asm) (by k_asm)
set_option maxHeartbeats 8000000 in
theorem C_b3 {w : World} {loose : List Str} {mean : ExcName → Option Value} {mg mb : Str → Option Value} {dp un : Nat} {gd : Option (List Code)} {cn : Str} {cs : Scope} {ca : Addr} {ccd : Value} {cl : List (Str × Addr)} {outer : List Env} {A₀ : Around} {base h₀ : Heap} {L : Addr} {m : Str → Option Value} {s : Shared} {Q E : Value → Shared → Prop} {news : List (Addr × Obj)}
    (B : Below A₀ base outer h₀) (F : Fr h₀ L s.heap m) (X : (T49.K w.params).In h₀) (N : News h₀ L s.heap news) (T : Top T49.vw loose mean mg mb h₀) (hk : cs.kind = .function) (hd : dp + 5 < recursionLimit) (hu : un + 60 < cLine)
    {x : Nat} {tx : Tok} 
    (hret : ∀ (t : Tok) (h' : Heap) (tk' : Nat), Fr h₀ L h' m → News h₀ L h' news → Q (.str (b3 x) t) { s with heap := h', toks := tk' }) :
    wpAny (model PySem.Challenge.rw_tp0049_02.row.prog w) (ktrTop dp un gd cn cs L ca ccd cl outer) (call (.ref 122) [.str ⟨#[x]⟩ tx]) Q E s := by
  k_with_none
  (k_with "compareOp In" => ((k_here; (with_reducible show wpAny _ _ (compareOp CmpOp.In (Value.int _ _) (Value.ref 66)) _ _ _); refine in_b1 ((show (T49.K _).In _ from by k_in) 66 _ look66) ?_)))
  (k_with "getMethod ref" => ((k_here; (with_reducible show wpAny _ _ (getMethod (Value.ref 77) _ _) _ _ _); refine meth_b3 ((show (T49.K _).In _ from by k_in) 77 _ look77) ?_)))
  (k_with "call builtin:dict.get" => ((k_here; (with_reducible show wpAny _ _ (call (Value.builtin "dict.get") [Value.ref 77, Value.int _ _]) _ _ _); refine get_b3 ((show (T49.K _).In _ from by k_in) 77 _ look77) ?_ ?_ <;> intros)))
  (k_with "call builtin:str.lower" => ((k_here; (with_reducible show wpAny _ _ (call (Value.builtin "str.lower") [Value.str _ _]) _ _ _); (refine SCL.lower (by first | omega | exact Nat.le_of_ble_eq_true rfl) ?_); intro _)))
  refine wpAny_call ?_
  k_dflt cell_enter
  k_steps
  · refine cb_retS hret ?_ (by k_asm) (by k_asm)
    simp_all [b3]
  · refine cb_retS hret ?_ (by k_asm) (by k_asm)
    simp_all [b3]
end
section
open PySem.Calls
section
variable {prog : Program} {w : World} {A₀ A : Around} {s : Shared} {base h₀ : Heap} {env : Env} {L : Addr} {m : Str → Option Value} {news : List (Addr × Obj)} {K : Frag} {p : Program} {loose : List Str} {mean : ExcName → Option Value} {mg mb : Str → Option Value}
    {R : Result → Shared → Prop} {name qual : Str} {params : Arguments} {body : List Stmt} {scope : Scope} {dV kV doc pm cdv ct oc : Value} {an od : Option Addr} {osl : Array (Option Value)} {f : Addr} {args : Args} {binds : List (Str × Value)}

/-- a def that bears a try, called from a frame with cells -/
theorem code_tryX (B : Below A₀ base [] h₀) (F : Fr h₀ L s.heap m) (X₀ : K.In h₀) (N : News h₀ L s.heap news) (T : Top p loose mean mg mb h₀) (hA : A.frames = some [env]) (hfr : env.frame = some L) (hke : env.scope.kind = .function)
    (ho : K.lookup f = some ⟨oc, od, .func (fnOf name qual params body scope dV kV doc pm an cdv ct), osl⟩) (hcd : codeIn K cdv qual = true) (hroom : A.depth < recursionLimit)
    (hbind : BindsTo s (fnOf name qual params body scope dV kV doc pm an cdv ct) args binds) (hloc : ∀ y ∈ binds, scope.names.lookup y.1 = some .local)
    (h : ∀ g L' h₁, Fr h₀ L g m → Fr g L' h₁ (fun y => binds.reverse.lookup y) → News g L' h₁ news → Below A base [env] g → K.In g → Top p loose mean mg mb g → KtsDicts ([env].filterMap (·.frame)) g →
      wpAny (model prog w) (A.deeper (envOf qual scope L' f cdv)) (execs body (envOf qual scope L' f cdv))
        (fun fl s' => LeaveS0 ([env].filterMap (·.frame)) h₀ L m g R (match fl with | .ret v => v | _ => .none) s')
        (fun e s' => wpAny (model prog w) (A.deeper (envOf qual scope L' f cdv)) (leaving (envOf qual scope L' f cdv) e) (fun _ s'' => R (.error e) s'') (fun e' s'' => R (.error e') s'') s')
        { s with heap := h₁, toks := s.toks + binds.length })
    (hco : scope.isCoroutine = false) (hgen : scope.isGenerator = false) (hk : scope.kind = .function)
    (hcell : ∀ x ∈ scope.names, x.2 ≠ .cell) : codeAny (model prog w) A (.call (.ref f) args) R s := by
  have X := X₀.keeps F.keep
  obtain ⟨FG, BG, st, -⟩ := groundX (R := R) B F N hA hfr hke
  have only : ∀ b, b ∈ [env].filterMap (·.frame) → b = L := fun b hb => by
    simp only [List.filterMap_cons, hfr, List.filterMap_nil, List.mem_singleton] at hb
    exact hb
  obtain ⟨oL, es, ep, hLg, hLd, hLk, hLf⟩ := FG.ns
  refine codeAny_call_def (fd := fnOf name qual params body scope dV kV doc pm an cdv ct) (body := body) (binds := binds) hroom (X _ _ ho) rfl (T.nolimit.keeps F.keep) (codeRec_of X hcd) rfl hbind hcell hloc (fun h₁ hns hk₁ => ?_) hco hgen hk
  refine wpAny_mono (h _ s.heap.objs.size h₁ FG ⟨hns, fun b o e => hk₁ b o (of_hideAll _ e), Nat.le_of_eq (hideAll_size _ _)⟩
    (fun q hq => ⟨hk₁ _ _ (N q hq).1, Nat.ne_of_lt (Heap.lt_size (N q hq).1), hideAll_none _ (List.mem_map_of_mem hq)⟩) BG (X₀.keeps st) (T.keeps st) (fun b hb => by
      rw [only b hb]
      exact ⟨oL, es, ep, hLg, hLd⟩)) (fun fl s' hl => ?_) fun _ _ y => y
  obtain ⟨g', L', m', news', T', F', N', k⟩ := hl
  have nL₀ : h₀.get? L = none := kts_self F
  obtain ⟨sl, hs⟩ := T'.up hLg
  refine k ⟨⟨_, es, ep, F'.keep _ _ hs, hLd, hLk, hLf⟩, fun b o e => F'.keep b o (T'.other b o (st b o e) fun q => by
    rw [only b q, nL₀] at e
    cases e), F.above⟩ fun q hq => ⟨(N' q hq).1, fun z => ?_, ?_⟩
  · have := (N' q hq).2.2
    rw [z, hs] at this
    cases this
  · cases z : h₀.get? q.1 with
    | none => rfl
    | some o =>
      obtain ⟨sl', hs'⟩ := T'.up (st _ _ z)
      have := (N' q hq).2.2
      rw [hs'] at this
      cases this
end
end
section
open PySem.Calls
open Builtin Builtin.Str Builtin.BaseException
section
variable {prog : Program} {w : World} {A : Around} {E : Value → Shared → Prop} {s : Shared} {K : Frag} {e t0 C : Addr} {x : Str} {tk : Tok}
/-- an exception of an own class that holds one text -/
noncomputable def ExcOne (h : Heap) (e C : Addr) (x : Str) (tk : Tok) : Prop :=
  ∃ o ws t0, h.get? e = some o ∧ o.cls = .ref C ∧ o.data = .fields ws ∧ ws[0]? = some (.ref t0) ∧ h.TupAt t0 [.str x tk]
theorem ExcOne.of_got {h₀ h : Heap} {L : Addr} {news : List (Addr × Obj)} (N : News h₀ L h news) (G : Got news e t0 (.ref C) [.str x tk]) : ExcOne h e C x tk := by
  obtain ⟨oe, ot, ws, nt, h1, h2, hc, hd, h0, hct, hdt⟩ := G
  exact ⟨oe, ws, t0, (N _ h1).1, hc, hd, h0, ot, nt, (N _ h2).1, hct, hdt⟩
theorem ExcOne.type {M : Model} (G : ExcOne s.heap e C x tk) : Looks M s.heap (typeOf (.ref e)) (.ref C) := by
  obtain ⟨o, ws, t0, ho, hc, -⟩ := G
  intro A Q E s' hk q
  refine wpAny_bind (wpAny_loadPart (hk _ _ ho) ?_)
  rw [hc]
  exact wpAny_pure q
theorem bexc_body {Q : Fin → Shared → Prop} (G : ExcOne s.heap e C x tk) (hq : Q (.done (.ret (.str x tk))) s) : wpAny (model prog w) A (Builtin.«BaseException.__str__» ⟨[.ref e], []⟩) Q E s := by
  obtain ⟨o, ws, t0, ho, hc, hd, h0, ot, k, hto, htc, htd⟩ := G
  have hb : ∀ {Q' : Value × List Value → Shared → Prop}, Q' (.ref t0, [.str x tk]) s → wpAny (model prog w) A (bexcArgs (.ref e)) Q' E s := fun {Q'} hq' => by
    unfold bexcArgs
    refine wpAny_bind (wpAny_field ho hd h0 (wpAny_bind (wpAny_seqItems hto htd ?_)))
    exact wpAny_pure hq'
  unfold Builtin.«BaseException.__str__»
  repeat (first | with_reducible refine hb ?_ | wp_step)
  exact hq
theorem bexc_check {Q : Unit → Shared → Prop} (X : K.In s.heap) (G : ExcOne s.heap e C x tk) (hs : subIn K (.ref C) (.type "BaseException") = some true) (hq : Q () s) :
    wpAny (model prog w) A (checkBuiltinCall "BaseException.__str__" ⟨[.ref e], []⟩) Q E s := by
  have hk : builtinKind "BaseException.__str__" = some .slot := by decide +kernel
  have hsplit : splitId "BaseException.__str__" = some ("BaseException", "__str__") := by decide +kernel
  have ha := PySem.F.args_bexc_str (.ref e)
  simp only [checkBuiltinCall, hk, hsplit]
  refine wpAny_bind ?_
  unfold isInstance
  refine wpAny_bind (G.type.here ((looks_subIn X hs).here ?_))
  simp only [Bool.not_true, Bool.false_eq_true, if_false]
  cases hsig : Manifest.signature? "BaseException.__str__" with
  | none => exact wpAny_pure hq
  | some sig =>
    simp only [argsOk, hsig] at ha
    have h2 : Bind.checkArgs "BaseException.__str__" sig ⟨[.ref e], []⟩ = pure () := ha
    show wpAny _ A (Bind.checkArgs "BaseException.__str__" sig ⟨[.ref e], []⟩) Q E s
    rw [h2]; exact wpAny_pure hq
theorem bexc_call {Q : Value → Shared → Prop} (X : K.In s.heap) (G : ExcOne s.heap e C x tk) (hs : subIn K (.ref C) (.type "BaseException") = some true) (hq : Q (.str x tk) s) :
    wpAny (model prog w) A (call (.builtin "BaseException.__str__") [.ref e]) Q E s :=
  wpAny_call (codeAny_call_builtin (by decide +kernel) PySem.F.entry_bexc_str (bexc_check X G hs (bexc_body (A := A.in1) G hq)))
theorem strOf_own {Q : Value → Shared → Prop} (hu : A.units < cLine) (X : K.In s.heap) (G : ExcOne s.heap e C x tk) (hf : findIn K (.ref C) "__str__" = some (some (.builtin "BaseException.__str__")))
    (hs : subIn K (.ref C) (.type "BaseException") = some true) (hq : Q (.str x tk) s) : wpAny (model prog w) A (Builtin.Str.strOf (.ref e)) Q E s := by
  have hc : ∀ {Q' : Option Value → Shared → Prop}, Q' (some (.str x tk)) s → wpAny (model prog w) A (callSpecial? (.ref e) "__str__") Q' E s := fun {Q'} hq' => by
    simp only [callSpecial?]
    refine wpAny_bind ?_
    unfold specialOf
    refine wpAny_bind (G.type.here ((looks_findIn X hf).here ?_))
    dsimp only
    refine wpAny_holding ?_
    have hb : bindSpecial (.builtin "BaseException.__str__") (.ref e) = pure (.builtin "BaseException.__str__", [.ref e]) := by kernel_rfl
    rw [hb]
    refine wpAny_bind (wpAny_pure ?_)
    dsimp only [List.append_nil]
    exact wpAny_bind (bexc_call X G hs (wpAny_pure hq'))
  unfold Builtin.Str.strOf
  repeat (first | with_reducible refine wpAny_cRoomFor hu ?_ | with_reducible refine hc ?_ | wp_step)
  exact hq
theorem str_own {Q : Value → Shared → Prop} (hu : A.units + 2 < cLine) (X : K.In s.heap) (G : ExcOne s.heap e C x tk) (hf : findIn K (.ref C) "__str__" = some (some (.builtin "BaseException.__str__")))
    (hs : subIn K (.ref C) (.type "BaseException") = some true) (hq : Q (.str x tk) s) : wpAny (model prog w) A (call (.type "str") [.ref e]) Q E s :=
  callType_new PySem.F.called_str (by decide) (PySem.F.typeCall_str_1 _) (PySem.F.newCall_str_1 _) (fun obj => PySem.F.args_object_init_2 obj _) PySem.F.entry_str_new
    (meets_str_new (S := fun A' R s' => A'.units + 1 < cLine ∧ K.In s'.heap ∧ ExcOne s'.heap e C x tk ∧ R (.ok (.ret (.str x tk))) s')
      fun _ _ A' _ _ hq => strOf_own (A := A'.in1) hq.1 hq.2.1 hq.2.2.1 hf hs hq.2.2.2)
    ⟨(show A.units + 1 + 1 < cLine from hu), X, G, typeIs_str _ _ _, hq⟩
end
end
section
section
open LCg
variable {prog : Program} {w : World} {A : Around} {E : Value → Shared → Prop} {s : Shared} {h₀ : Heap} {L : Addr} {m : Str → Option Value} {env : Env}
noncomputable def SrcS (prog : Program) (w : World) (A : Around) (h₀ : Heap) (L : Addr) (m : Str → Option Value) (env : Env) (ct elt : Expr) (x : Str) (scope : Scope) (cl : List (Str × Addr)) (Fin : Shared → List Value → List (Addr × Obj) → Prop) (xv : Value) (s₁ : Shared) : Prop :=
  ∃ y t news, xv = .str y t ∧ A.handled = none ∧ Fr h₀ L s₁.heap m ∧ News h₀ L s₁.heap news ∧ y.cps.size ≤ sizeLine ∧
    ∀ s₂ : Shared, (∃ h, s₂ = { s₁ with heap := h }) → LCt.CompRestT prog w A h₀ L m env ct elt x scope cl s₂ (fun _ => True) (SignAt y) (Fin s₂) y.cps.size 0 [] news

theorem iter_block {ct elt iter : Expr} {x : Str} {px : Pos} {scope : Scope} {cl : List (Str × Addr)} {pos : Pos} {Q : Value → Shared → Prop} {y : Str} {t : Tok} {s₁ : Shared} {news : List (Addr × Obj)} {cls : String}
    (hcell : ∀ y ∈ scope.names, y.2 ≠ .cell) (hkind : scope.kind = .function) (hx : scope.names.lookup x = some .local)
    (F : Fr h₀ L s₁.heap m) (N : News h₀ L s₁.heap news) (hsz : y.cps.size ≤ sizeLine)
    (W : Walks prog w A s₁.heap.objs.size [s₁.heap.objs.size] [s₁.heap.objs.size] y.cps.size (SignAt y) (fun i h => h.IsStrIter s₁.heap.objs.size cls y t i))
    (R : LCt.CompRestT prog w A h₀ L m env ct elt x scope cl { s₁ with heap := s₁.heap.push { cls := .type cls, data := .fields #[.str y t, .int 0 0] } } (fun _ => True) (SignAt y) (FinE h₀ L m { s₁ with heap := s₁.heap.push { cls := .type cls, data := .fields #[.str y t, .int 0 0] } } Q) y.cps.size 0 [] news)
    {RR : Value → Addr → Result → Shared → Prop}
    (hRR : ∀ D C h tk m' ys news', Fr h₀ L h m → News h₀ L h ((D, lst ys) :: news') → Off1 D news' → h.Ns C m' → h₀.get? C = none → h₀.get? D = none → C ≠ L → D ≠ L → C ≠ D → (∀ p ∈ news', p.1 ≠ C) → FinE h₀ L m { s₁ with heap := s₁.heap.push { cls := .type cls, data := .fields #[.str y t, .int 0 0] } } Q ys news' → RR (.ref D) C (.ok .next) { s₁ with heap := h, toks := tk }) :
    wpAny (model prog w) A (newList []) (fun acc s₃ => wpAny (model prog w) A (newFunctionEnv scope env.globals cl [] env.qual none .none (some env)) (fun cenv s₄ =>
      codeAny (model prog w) A (.compStart (.ListComp elt [⟨.Name x px, iter, [ct], 0⟩] scope pos) 0 (.ref s₁.heap.objs.size) acc { cenv with scope := relabel scope env }) (RR acc cenv.locals) s₄) E s₃) E { s₁ with heap := s₁.heap.push { cls := .type cls, data := .fields #[.str y t, .int 0 0] } } := by
  refine LCt.block_T W hsz (fun i h st => by obtain ⟨o, e, _⟩ := st; exact ⟨o, e⟩)
    (fun i h h' o nw st e e' _ _ _ => W.frame _ _ _ st (fun b hb o' e2 => by rw [List.mem_singleton.mp hb] at e2 ⊢; rw [e] at e2; cases e2; exact e')) hcell hkind hx ⟨_, Heap.get?_push_size _ rfl, rfl, rfl⟩ (fun b hb => ?_)
      (F.keeps fun _ _ e => Heap.get?_push_of_some _ e) (N.grown fun _ _ e => Heap.get?_push_of_some _ e) (Nat.ne_of_lt F.ns.lt) (next_is_new F) (fun p hp => Nat.ne_of_lt (Heap.lt_size (N p hp).1)) trivial R hRR
  rw [List.mem_singleton.mp hb]
  show s₁.heap.objs.size < (s₁.heap.push _).objs.size
  rw [Heap.size_push]; exact Nat.lt_succ_self _

theorem ListComp_S {ct elt iter : Expr} {x : Str} {px : Pos} {scope : Scope} {cl : List (Str × Addr)} {pos : Pos} {Q : Value → Shared → Prop} (F₀ : Fr h₀ L s.heap m)
    (hclos : closureFor scope env = pure cl) (hcell : ∀ y ∈ scope.names, y.2 ≠ .cell) (hkind : scope.kind = .function)
    (hnames : ∀ y ∈ scope.names, y.2 = .local → scope.names.lookup y.1 = some .local) (hx : scope.names.lookup x = some .local)
    (h : wpAny (model prog w) A (eval iter env) (SrcS prog w A h₀ L m env ct elt x scope cl (fun s₂ => FinE h₀ L m s₂ Q)) E s)
    (hs : ∀ x, foldedSetIterable iter env x = pure x := by intro _; rfl) :
    wpAny (model prog w) A (eval (.ListComp elt [⟨.Name x px, iter, [ct], 0⟩] scope pos) env) Q E s := by
  rw [eval_ListComp]
  refine wpAny_comprehension_free (use := none) rfl hs hclos hkind hnames (wpAny_mono h (fun xv s₁ h₁ => ?_) fun _ _ e => e)
  obtain ⟨y, t, news, rfl, hh, F, N, hsz, R⟩ := h₁
  have fin : ∀ (o : Obj) D C h tk m' ys news', Fr h₀ L h m → News h₀ L h ((D, lst ys) :: news') → Off1 D news' → h.Ns C m' → h₀.get? C = none → h₀.get? D = none → C ≠ L → D ≠ L → C ≠ D → (∀ p ∈ news', p.1 ≠ C) → FinE h₀ L m { s₁ with heap := s₁.heap.push o } Q ys news' →
      ∃ m', h.Ns C m' ∧ ∀ h'', h.SameBut C h'' → Q (.ref D) { s₁ with heap := h'', toks := tk } := by
    intro o D C h tk m' ys news' F' N' o1 hn hC₀ hD₀ hCL hDL hCD offC fin
    refine ⟨m', hn, fun h'' hs'' => fin D h'' tk (F'.change hs'' hCL hC₀) (fun p hp => ?_) o1⟩
    refine ⟨hs''.extBut _ _ ?_ (N' p hp).1, (N' p hp).2⟩
    rcases List.mem_cons.mp hp with rfl | hp
    · exact Ne.symm hCD
    · exact offC p hp
  cases ha : y.cps.all (· < 128)
  · refine wpAny_pyIter_wide ha ?_
    exact iter_block hcell hkind hx F N hsz (Walks.strWide hh _ y t) (R _ ⟨_, rfl⟩) (fin _)
  · refine wpAny_pyIter_ascii ha ?_
    exact iter_block hcell hkind hx F N hsz (Walks.strAscii hh _ y t) (R _ ⟨_, rfl⟩) (fin _)

noncomputable def SEl (news : List (Addr × Obj)) (b : Bool) (z : Str) (y : Value) (news' : List (Addr × Obj)) : Prop := news' = news ∧ b = true ∧ ∃ t, y = .str z t
noncomputable def SNo (news : List (Addr × Obj)) (b : Bool) (news' : List (Addr × Obj)) : Prop := news' = news ∧ b = false
theorem strs_append {ys : List Value} {l : List Str} (h : StrsAre ys l) (z : Str) (t : Tok) : StrsAre (ys ++ [.str z t]) (l ++ [z]) := by
  induction h with
  | nil => exact .cons z t .nil
  | cons y u _ ih => exact .cons y u ih
theorem rest_signs {ct elt : Expr} {x : Str} {scope : Scope} {cl : List (Str × Addr)} {y : Str} {news : List (Addr × Obj)} {Fin : List Value → List (Addr × Obj) → Prop} (p : Nat → Bool) (f : Nat → Str)
    (turn : ∀ c t I oI C oC D m₂ ys h tk (E' : Value → Shared → Prop), LCg.NsObj oC m₂ → m₂ x = some (.str ⟨#[c]⟩ t) → Fr h₀ L h m → News h₀ L h ((I, oI) :: (C, oC) :: (D, LCg.lst ys) :: news) → LCg.Off3 I C D news → ((@Ne Nat I C) ∧ (@Ne Nat I D) ∧ (@Ne Nat C D)) →
      wpAny (model prog w) A (isTrue ct (compEnvC scope cl C env) (eval ct (compEnvC scope cl C env))) (fun b s' => if b = true then wpAny (model prog w) A (eval elt (compEnvC scope cl C env)) (LCg.CompEnd h₀ L m { s with heap := h, toks := tk } I oI C oC D (LCg.lst ys) (fun _ => True) (fun y news' => SEl news (p c) (f c) y news')) E' s'
        else LCg.CompEnd h₀ L m { s with heap := h, toks := tk } I oI C oC D (LCg.lst ys) (fun _ => True) (fun _ news' => SNo news (p c) news') Value.none s') E' { s with heap := h, toks := tk })
    (fin : ∀ ys, StrsAre ys ((y.cps.toList.filter p).map f) → Fin ys news) : LCt.CompRestT prog w A h₀ L m env ct elt x scope cl s (fun _ => True) (SignAt y) Fin y.cps.size 0 [] news := by
  have key : ∀ (j i : Nat) (ys : List Value), i + j = y.cps.size → StrsAre ys (((y.cps.toList.take i).filter p).map f) → LCt.CompRestT prog w A h₀ L m env ct elt x scope cl s (fun _ => True) (SignAt y) Fin j i ys news := by
    intro j
    induction j with
    | zero =>
      intro i ys hi hy
      refine LCt.CompRestT.zero (fin ys ?_)
      have e : i = y.cps.toList.length := by simp; (first | lia | omega)
      rw [e, List.take_length] at hy
      exact hy
    | succ j ih =>
      intro i ys hi hy
      refine LCt.CompRestT.succ ?_
      intro v I oI C oC D m₂ h tk E' hv hC hx F N off ne
      obtain ⟨c, t, hk, rfl⟩ := hv
      have hs : ((y.cps.toList.take (i + 1)).filter p).map f = ((y.cps.toList.take i).filter p).map f ++ (([c].filter p).map f) := by
        have hk' : y.cps.toList[i]? = some c := by rw [Array.getElem?_toList]; exact hk
        rw [List.take_add_one, hk', List.filter_append, List.map_append]; rfl
      refine wpAny_mono (turn c t I oI C oC D m₂ ys h tk E' hC hx F N off ne) (fun b s₂ hq => ?_) fun _ _ e => e
      cases b with
      | true =>
        simp only [if_true] at hq ⊢
        refine wpAny_mono hq (fun y' s₃ hr => ?_) fun _ _ e => e
        obtain ⟨h', tk', nw, e, F', N', off', hS, hn, hp, t', rfl⟩ := hr
        rw [hn] at N' off'
        refine ⟨h', tk', news, e, F', N', off', hS, ?_⟩
        refine ih (i + 1) _ (by (first | lia | omega)) ?_
        rw [hs]
        simp only [List.filter_cons, hp, List.filter_nil, if_true, List.map_cons, List.map_nil]
        exact strs_append hy _ _
      | false =>
        simp only [Bool.false_eq_true, if_false] at hq ⊢
        obtain ⟨h', tk', nw, e, F', N', off', hS, hn, hp⟩ := hq
        rw [hn] at N' off'
        refine ⟨h', tk', news, e, F', N', off', hS, ih (i + 1) _ (by (first | lia | omega)) ?_⟩
        rw [hs]
        have z : List.filter p [c] = [] := by simp [hp]
        rw [z, List.map_nil, List.append_nil]
        exact hy
  exact key y.cps.size 0 [] (by (first | lia | omega)) (by simp only [List.take_zero, List.filter_nil, List.map_nil]; exact .nil)
end
end
section
noncomputable def prepL (x : Str) : List Str := (x.cps.toList.filter fun (c : Nat) => !b1B (c : Int)).map b3
set_option maxHeartbeats 8000000 in
theorem C_prep {w : World} {loose : List Str} {mean : ExcName → Option Value} {mg mb : Str → Option Value} {dp un : Nat} {gd : Option (List Code)} {cn : Str} {cs : Scope} {ca : Addr} {ccd : Value} {cl : List (Str × Addr)} {outer : List Env} {A₀ : Around} {base h₀ : Heap} {L : Addr} {m : Str → Option Value} {s : Shared} {Q E : Value → Shared → Prop} {news : List (Addr × Obj)}
    (B : Below A₀ base outer h₀) (F : Fr h₀ L s.heap m) (X : (T49.K w.params).In h₀) (N : News h₀ L s.heap news) (T : Top T49.vw loose mean mg mb h₀) (hk : cs.kind = .function) (hd : dp + 12 < recursionLimit) (hu : un + 300 < cLine)
    {x : Str} {tx : Tok} (hx : x.cps.size ≤ sizeLine) (hwt : ((prepL x).map (·.length)).sum + (prepL x).length ≤ 1048576)
    (hret : ∀ (t : Tok) (h' : Heap) (tk' : Nat), Fr h₀ L h' m → News h₀ L h' news → Q (.str (Txt.join (Str.ofString "") (prepL x)) t) { s with heap := h', toks := tk' }) :
    wpAny (model PySem.Challenge.rw_tp0049_02.row.prog w) (ktrTop dp un gd cn cs L ca ccd cl outer) (call (.ref 167) [.str x tx]) Q E s := by
  k_with_none
  (k_with "call ref" => ((k_here; (with_reducible show wpAny _ _ (call (Value.ref 76) _) _ _ _); k_dflt (refine C_b1 (by k_asm) (by k_asm) (by k_asm) (by k_asm) (by k_asm) (by first | exact rfl | assumption) (by ktr_room) (by ktr_units) ?_); (intro t9 h9 tk9 F9 N9; (try dsimp only); (try k_fold)))))
  (k_with "call ref" => ((k_here; (with_reducible show wpAny _ _ (call (Value.ref 122) _) _ _ _); k_dflt (refine C_b3 (by k_asm) (by k_asm) (by k_asm) (by k_asm) (by k_asm) (by first | exact rfl | assumption) (by ktr_room) (by ktr_units) ?_); (intro t9 h9 tk9 F9 N9; (try dsimp only); (try k_fold)))))
  (k_with "eval ListComp" => ((k_here; lcg_calm; k_dflt (refine ListComp_S (F₀ := by k_asm) (by with_unfolding_all rfl) (by decide) (by rfl) (by decide) (by rfl) ?_))))
  refine wpAny_call ?_
  k_dflt cell_enter
  k_steps
  · refine ⟨_, _, _, rfl, by rfl, by k_asm, by k_asm, hx, fun s₂ hs => ?_⟩
    obtain ⟨g, rfl⟩ := hs
    refine rest_signs (fun c => !b1B c) b3 (fun c t I oI C oC D m₂ ys h tk E' hC hx F N off ne => ?_) ?_
    · k_steps
      all_goals first
        | exact LCg.CompEnd.intro (by k_asm) (by k_asm) news (fun p hp => hp) off True.intro ⟨rfl, by simp_all⟩
        | exact LCg.CompEnd.intro (by k_asm) (by k_asm) news (fun p hp => hp) off True.intro ⟨rfl, by simp_all, _, rfl⟩
    · intro ys hys
      k_dflt walk_at "FinE"
      k_steps
      rename (News _ _ _ ((_, LCg.lst ys) :: news)) => N9
      have hl9 : Heap.IsList _ _ ys.toArray := N9.isList (n := ys.length) List.mem_cons_self
      k_dflt (refine join_listW (items := ys.toArray) ?j1 hys ?j2 hwt ?j3)
      case j1 => exact hl9
      case j2 => decide +kernel
      intro t' k'
      k_steps
      rename (News h₀ L _ ((_, LCg.lst ys) :: news)) => N8
      exact cb_retS hret rfl (by k_asm) (fun p hp => N8 p (List.mem_cons_of_mem _ hp))
end
section
section
variable {prog : Program} {w : World} {A : Around} {E : Value → Shared → Prop} {Q : Flow → Shared → Prop} {s : Shared} {env : Env} {h₀ : Heap} {L : Addr} {m₀ : Str → Option Value} {news : List (Addr × Obj)} {a b : Str} {ta tb t0 : Tok}
noncomputable def PreOk (a b : Str) (k : Int) : Prop := 0 ≤ k ∧ k ≤ a.length ∧ k ≤ b.length ∧ a.cps.toList.take k.toNat = b.cps.toList.take k.toNat
noncomputable def PreEnd (a b : Str) (k : Int) : Prop := PreOk a b k ∧ (k = a.length ∨ k = b.length ∨ a.cps.toList[k.toNat]? ≠ b.cps.toList[k.toNat]?)
noncomputable def PreStep (a b : Str) (x : Str) (P : Int → Prop) (h₀ : Heap) (L : Addr) (m₀ : Str → Option Value) (news : List (Addr × Obj)) (s : Shared) (f : Flow) (s₃ : Shared) : Prop :=
  f = .next ∧ ∃ h tk k t, s₃ = { s with heap := h, toks := tk } ∧ Fr h₀ L h (fun y => if y = x then some (.int k t) else m₀ y) ∧ News h₀ L h news ∧ P k
theorem PreStep.intro {x : Str} {P : Int → Prop} {h : Heap} {tk : Nat} {k : Int} {t : Tok} {m : Str → Option Value} (F : Fr h₀ L h m) (N : News h₀ L h news) (hm : m x = some (.int k t)) (ho : ∀ y, y ≠ x → m y = m₀ y) (hP : P k) :
    PreStep a b x P h₀ L m₀ news s .next { s with heap := h, toks := tk } :=
  ⟨rfl, h, tk, k, t, rfl, by
    have e : (fun y => if y = x then some (.int k t) else m₀ y) = m := by
      funext y
      by_cases hy : y = x
      · rw [if_pos hy, hy, hm]
      · rw [if_neg hy, ho y hy]
    rw [e]; exact F, N, hP⟩
theorem While_step {x : Str} {test : Expr} {body : List Stmt} {pos : Pos} (a b : Str) (P R : Int → Prop) (μ : Int → Nat) (F : Fr h₀ L s.heap m₀) (N : News h₀ L s.heap news) {k0 : Int} (hx : m₀ x = some (.int k0 t0)) (hP : P k0)
    (turn : ∀ (k : Int) (t : Tok) h tk, P k → Fr h₀ L h (fun y => if y = x then some (.int k t) else m₀ y) → News h₀ L h news →
      wpAny (model prog w) A (isTrue test env (eval test env)) (fun b' s₂ => if b' = true then wpAny (model prog w) A (execs body env) (PreStep a b x (fun k' => P k' ∧ μ k' < μ k) h₀ L m₀ news s) E s₂ else PreStep a b x R h₀ L m₀ news s .next s₂) E { s with heap := h, toks := tk })
    (out : ∀ (k : Int) (t : Tok) h tk, R k → Fr h₀ L h (fun y => if y = x then some (.int k t) else m₀ y) → News h₀ L h news → Q .next { s with heap := h, toks := tk })
    (hE : PassesOwn (model prog w) A env E := by passes_own) :
    wpAny (model prog w) A (exec (.While test body [] pos) env) Q E s := by
  refine While_inv (fun n m nx => ∃ k t, m = (fun y => if y = x then some (.int k t) else m₀ y) ∧ nx = news ∧ P k ∧ n = μ k) F N ⟨k0, t0, ?_, rfl, hP, rfl⟩ ?_ hE
  · funext y
    by_cases hy : y = x
    · rw [if_pos hy, hy, hx]
    · rw [if_neg hy]
  · rintro n m₁ news₁ h₁ tk₁ F₁ N₁ ⟨k, t, rfl, rfl, hP, rfl⟩
    refine wpAny_mono (turn k t h₁ tk₁ hP F₁ N₁) (fun b' s₂ q => ?_) fun _ _ e => e
    cases b' with
    | true =>
      simp only [if_true] at q ⊢
      refine wpAny_mono q (fun f s₃ q => ?_) fun _ _ e => e
      obtain ⟨rfl, h, tk, k', t', rfl, F', N', hP', hμ⟩ := q
      exact WhileStep.intro F' N' hμ ⟨k', t', rfl, rfl, hP', rfl⟩
    | false =>
      simp only [Bool.false_eq_true, if_false] at q ⊢
      obtain ⟨_, h, tk, k', t', rfl, F', N', hR⟩ := q
      exact out k' t' h tk hR F' N'
theorem lev_while1 {test : Expr} {body : List Stmt} {pos : Pos} (F : Fr h₀ L s.heap m₀) (N : News h₀ L s.heap news) (hx : m₀ (Str.ofString "pre") = some (.int 0 t0)) (ha : m₀ (Str.ofString "a") = some (.str a ta)) (hb : m₀ (Str.ofString "b") = some (.str b tb))
    (turn : ∀ (k : Int) (t : Tok) h tk, PreOk a b k → 0 ≤ k → k ≤ a.length → k ≤ b.length → Fr h₀ L h (fun y => if y = Str.ofString "pre" then some (.int k t) else m₀ y) → News h₀ L h news →
      wpAny (model prog w) A (isTrue test env (eval test env)) (fun b' s₂ => if b' = true then wpAny (model prog w) A (execs body env) (PreStep a b (Str.ofString "pre") (fun k' => PreOk a b k' ∧ (a.length - k').toNat < (a.length - k).toNat) h₀ L m₀ news s) E s₂ else PreStep a b (Str.ofString "pre") (PreEnd a b) h₀ L m₀ news s .next s₂) E { s with heap := h, toks := tk })
    (out : ∀ (k : Int) (t : Tok) h tk, PreEnd a b k → 0 ≤ k → k ≤ a.length → k ≤ b.length → Fr h₀ L h (fun y => if y = Str.ofString "pre" then some (.int k t) else m₀ y) → News h₀ L h news → Q .next { s with heap := h, toks := tk })
    (hE : PassesOwn (model prog w) A env E := by passes_own) :
    wpAny (model prog w) A (exec (.While test body [] pos) env) Q E s :=
  While_step a b (PreOk a b) (PreEnd a b) (fun k => (a.length - k).toNat) F N hx ⟨by (first | lia | omega), by (first | lia | omega), by (first | lia | omega), by simp⟩ (fun k t h tk hP F N => turn k t h tk hP hP.1 hP.2.1 hP.2.2.1 F N) (fun k t h tk hP F N => out k t h tk hP hP.1.1 hP.1.2.1 hP.1.2.2.1 F N) hE
noncomputable def sliceTo (x : Str) (p : Int) : Str := if p = 0 then x else Txt.slice x none (some p)
noncomputable def PostOk (a b : Str) (k : Int) : Prop := k ≤ 0 ∧ -(a.length : Int) ≤ k ∧ -(b.length : Int) ≤ k ∧ a.cps.toList.reverse.take (-k).toNat = b.cps.toList.reverse.take (-k).toNat
noncomputable def PostEnd (a b : Str) (k : Int) : Prop := PostOk a b k ∧ (-k = a.length ∨ -k = b.length ∨ a.cps.toList.reverse[(-k).toNat]? ≠ b.cps.toList.reverse[(-k).toNat]?)
theorem sliceTo_len (x : Str) (k : Int) (h : k < 0) (h' : -(x.length : Int) ≤ k) : ((Txt.slice x none (some k)).length : Int) = x.length + k := by
  have e := slice_closes_to_neg (k := k + x.length) h h' rfl
  rw [eq_of_beq e]
  simp only [Str.length, List.size_toArray, List.length_take, List.length_drop, Array.length_toList] at h' ⊢
  (first | lia | omega)
theorem lev_while2 {test : Expr} {body : List Stmt} {pos : Pos} (F : Fr h₀ L s.heap m₀) (N : News h₀ L s.heap news) (hx : m₀ (Str.ofString "post") = some (.int 0 t0)) (ha : m₀ (Str.ofString "a") = some (.str a ta)) (hb : m₀ (Str.ofString "b") = some (.str b tb))
    (turn : ∀ (k : Int) (t : Tok) h tk, PostOk a b k → k ≤ 0 → -(a.length : Int) ≤ k → -(b.length : Int) ≤ k → (k < 0 → ((Txt.slice a none (some k)).length : Int) = a.length + k) → (k < 0 → ((Txt.slice b none (some k)).length : Int) = b.length + k) → Fr h₀ L h (fun y => if y = Str.ofString "post" then some (.int k t) else m₀ y) → News h₀ L h news →
      wpAny (model prog w) A (isTrue test env (eval test env)) (fun b' s₂ => if b' = true then wpAny (model prog w) A (execs body env) (PreStep a b (Str.ofString "post") (fun k' => PostOk a b k' ∧ (a.length + k').toNat < (a.length + k).toNat) h₀ L m₀ news s) E s₂ else PreStep a b (Str.ofString "post") (PostEnd a b) h₀ L m₀ news s .next s₂) E { s with heap := h, toks := tk })
    (out : ∀ (k : Int) (t : Tok) h tk, PostEnd a b k → k ≤ 0 → -(a.length : Int) ≤ k → -(b.length : Int) ≤ k → Fr h₀ L h (fun y => if y = Str.ofString "post" then some (.int k t) else m₀ y) → News h₀ L h news → Q .next { s with heap := h, toks := tk })
    (hE : PassesOwn (model prog w) A env E := by passes_own) :
    wpAny (model prog w) A (exec (.While test body [] pos) env) Q E s :=
  While_step a b (PostOk a b) (PostEnd a b) (fun k => (a.length + k).toNat) F N hx ⟨by (first | lia | omega), by (first | lia | omega), by (first | lia | omega), by simp⟩ (fun k t h tk hP F N => turn k t h tk hP hP.1 hP.2.1 hP.2.2.1 (fun h => sliceTo_len a k h hP.2.1) (fun h => sliceTo_len b k h hP.2.2.1) F N) (fun k t h tk hP F N => out k t h tk hP hP.1.1 hP.1.2.1 hP.1.2.2.1 F N) hE
noncomputable def Join2 (P : Str → Str → Prop) (h₀ : Heap) (L : Addr) (m₀ : Str → Option Value) (news : List (Addr × Obj)) (s : Shared) (f : Flow) (s₃ : Shared) : Prop :=
  f = .next ∧ ∃ h tk y z t u, s₃ = { s with heap := h, toks := tk } ∧ Fr h₀ L h (fun q => if q = Str.ofString "a" then some (.str y t) else if q = Str.ofString "b" then some (.str z u) else m₀ q) ∧ News h₀ L h news ∧ P y z
theorem Join2.intro {P : Str → Str → Prop} {h : Heap} {tk : Nat} {y z : Str} {t u : Tok} {m : Str → Option Value} (F : Fr h₀ L h m) (N : News h₀ L h news) (hm : m (Str.ofString "a") = some (.str y t)) (hm2 : m (Str.ofString "b") = some (.str z u)) (ho : ∀ q, q ≠ Str.ofString "a" → q ≠ Str.ofString "b" → m q = m₀ q) (hP : P y z) :
    Join2 P h₀ L m₀ news s .next { s with heap := h, toks := tk } :=
  ⟨rfl, h, tk, y, z, t, u, rfl, by
    have e : (fun q => if q = Str.ofString "a" then some (.str y t) else if q = Str.ofString "b" then some (.str z u) else m₀ q) = m := by
      funext q
      by_cases hy : q = Str.ofString "a"
      · rw [if_pos hy, hy, hm]
      · rw [if_neg hy]
        by_cases hz : q = Str.ofString "b"
        · rw [if_pos hz, hz, hm2]
        · rw [if_neg hz, ho q hy hz]
    rw [e]; exact F, N, hP⟩
theorem cut2 {c : Sem Flow} (P : Str → Str → Prop) 
    (h1 : wpAny (model prog w) A c (Join2 P h₀ L m₀ news s) E s)
    (h2 : ∀ y z t u h tk, P y z → Fr h₀ L h (fun q => if q = Str.ofString "a" then some (.str y t) else if q = Str.ofString "b" then some (.str z u) else m₀ q) → News h₀ L h news → Q .next { s with heap := h, toks := tk }) :
    wpAny (model prog w) A c Q E s :=
  wpAny_mono h1 (fun f s₃ q => by obtain ⟨rfl, h, tk, y, z, t, u, rfl, F, N, hP⟩ := q; exact h2 y z t u h tk hP F N) fun _ _ e => e
theorem lev_cutA {v : Expr} {px pos : Pos} {p : Int} {tp : Tok} (F₀ : Fr h₀ L s.heap m₀) (N₀ : News h₀ L s.heap news) (hp : m₀ (Str.ofString "post") = some (.int p tp)) (ha : m₀ (Str.ofString "a") = some (.str a ta)) (hb : m₀ (Str.ofString "b") = some (.str b tb)) (h0 : p ≤ 0) (h1 : -(a.length : Int) ≤ p)
    (w1 : wpAny (model prog w) A (exec (.Assign [.Name (Str.ofString "a") px] v pos) env) (Join2 (fun y z => y = sliceTo a p ∧ z = b) h₀ L m₀ news s) E s)
    (w2 : ∀ y t u h tk, y = sliceTo a p → (y.length : Int) = a.length + p → Fr h₀ L h (fun q => if q = Str.ofString "a" then some (.str y t) else if q = Str.ofString "b" then some (.str b u) else m₀ q) → News h₀ L h news → Q .next { s with heap := h, toks := tk }) :
    wpAny (model prog w) A (exec (.Assign [.Name (Str.ofString "a") px] v pos) env) Q E s :=
  cut2 _ w1 (fun y z t u h tk hP F N => by
    obtain ⟨rfl, rfl⟩ := hP
    refine w2 _ t u h tk rfl ?_ F N
    unfold sliceTo
    split
    · (first | lia | omega)
    · exact sliceTo_len a p (by (first | lia | omega)) h1)
theorem lev_cutB {v : Expr} {px pos : Pos} {p : Int} {tp : Tok} (F₀ : Fr h₀ L s.heap m₀) (N₀ : News h₀ L s.heap news) (hp : m₀ (Str.ofString "post") = some (.int p tp)) (ha : m₀ (Str.ofString "a") = some (.str a ta)) (hb : m₀ (Str.ofString "b") = some (.str b tb)) (h0 : p ≤ 0) (h1 : -(b.length : Int) ≤ p)
    (w1 : wpAny (model prog w) A (exec (.Assign [.Name (Str.ofString "b") px] v pos) env) (Join2 (fun y z => y = a ∧ z = sliceTo b p) h₀ L m₀ news s) E s)
    (w2 : ∀ z t u h tk, z = sliceTo b p → (z.length : Int) = b.length + p → Fr h₀ L h (fun q => if q = Str.ofString "a" then some (.str a t) else if q = Str.ofString "b" then some (.str z u) else m₀ q) → News h₀ L h news → Q .next { s with heap := h, toks := tk }) :
    wpAny (model prog w) A (exec (.Assign [.Name (Str.ofString "b") px] v pos) env) Q E s :=
  cut2 _ w1 (fun y z t u h tk hP F N => by
    obtain ⟨rfl, rfl⟩ := hP
    refine w2 _ t u h tk rfl ?_ F N
    unfold sliceTo
    split
    · (first | lia | omega)
    · exact sliceTo_len b p (by (first | lia | omega)) h1)
theorem lev_swap {c : Sem Flow} (F₀ : Fr h₀ L s.heap m₀) (N₀ : News h₀ L s.heap news) (ha : m₀ (Str.ofString "a") = some (.str a ta)) (hb : m₀ (Str.ofString "b") = some (.str b tb))
    (w1 : wpAny (model prog w) A c (Join2 (fun y z => (y, z) = if b.length < a.length then (b, a) else (a, b)) h₀ L m₀ news s) E s)
    (w2 : ∀ y z t u h tk, ((y, z) = if b.length < a.length then (b, a) else (a, b)) → (y.length ≤ z.length ∧ (a.length = y.length ∧ b.length = z.length ∨ a.length = z.length ∧ b.length = y.length)) → Fr h₀ L h (fun q => if q = Str.ofString "a" then some (.str y t) else if q = Str.ofString "b" then some (.str z u) else m₀ q) → News h₀ L h news → Q .next { s with heap := h, toks := tk }) :
    wpAny (model prog w) A c Q E s :=
  cut2 _ w1 (fun y z t u h tk hP F N => by
    refine w2 y z t u h tk hP ?_ F N
    split at hP
    · obtain ⟨rfl, rfl⟩ := Prod.mk.inj hP; (first | lia | omega)
    · obtain ⟨rfl, rfl⟩ := Prod.mk.inj hP; (first | lia | omega))
noncomputable def evens (n : Nat) : List Int := (List.range n).map fun (i : Nat) => 2 + (i : Int) * 2
theorem evens_length (n : Nat) : (evens n).length = n := by simp [evens]
theorem evens_at {n i : Nat} (h : i < n) : (evens n).getD i 0 = 2 * ((i : Int) + 1) := by
  unfold evens
  rw [List.getD_eq_getElem?_getD, List.getElem?_map, List.getElem?_range h]
  simp only [Option.map_some, Option.getD_some]
  (first | lia | omega)
theorem ints_of (f : Nat → Int) (vs : List Value) (h : ∀ (j : Nat) (v : Value), vs[j]? = some v → ∃ t, v = .int (f j) t) : IntsAre vs ((List.range vs.length).map f) := by
  induction vs generalizing f with
  | nil => exact .nil
  | cons v vs ih =>
    obtain ⟨t, rfl⟩ := h 0 v rfl
    rw [List.length_cons, List.range_succ_eq_map, List.map_cons, List.map_map]
    exact .cons _ _ (ih (f ∘ Nat.succ) fun j u hj => h (j + 1) u hj)
theorem list_step2 {r : Addr} {t₀ u₀ v₀ : Tok} {k : Int} {Q : Value → Shared → Prop} (hh : A.handled = none) (F : Fr h₀ L s.heap m₀) (N : News h₀ L s.heap news) (hr : IsRange s.heap r 2 (2 * (k + 1)) 2 t₀ u₀ v₀) (h0 : 0 ≤ k) (h1 : k ≤ 100)
    (h : ∀ D us c h' tk, Fr h₀ L h' m₀ → News h₀ L h' ((D, listOf (List.toArray us) c) :: news) → (∀ p ∈ news, p.1 < D) → IntsAre us (evens k.toNat) → (evens k.toNat).length = k.toNat → Q (.ref D) { s with heap := h', toks := tk }) :
    wpAny (model prog w) A (call (.type "list") [.ref r]) Q E s := by
  have hn : Builtin.Range.rangeSize 2 (2 * (k + 1)) 2 = ((k.toNat : Nat) : Int) := by
    unfold Builtin.Range.rangeSize
    rw [if_pos (by decide)]
    split <;> (first | lia | omega)
  have hsmall : Builtin.Range.small 2 (2 * (k + 1)) 2 = true := by
    unfold Builtin.Range.small
    rw [hn]
    simp only [Builtin.Range.rangeFitsLong, Bool.and_eq_true, Bool.or_eq_true, decide_eq_true_eq, beq_iff_eq, show (2 : Int) > 0 by decide, if_true]
    (try split) <;> (first | lia | omega)
  refine call_list_range hh hr hsmall hn (by (first | lia | omega)) fun h' tk acc c hk hD hI => ?_
  have hD' : h'.get? s.heap.objs.size = some (listOf (List.toArray acc.toList) c) := by
    rw [Array.toArray_toList]
    exact hD
  refine h _ acc.toList c h' tk (F.keeps hk) (news_pushed F N hk hD' rfl) (fun p hp => Heap.lt_size (N p hp).1) ?_ (evens_length _)
  have e := ints_of (fun (i : Nat) => 2 + (i : Int) * 2) acc.toList (fun j v hj => hI.2 j v (by rw [← hj, Array.getElem?_toList]))
  rw [Array.length_toList, hI.1] at e
  exact e
end
noncomputable def DT (c : Nat → Nat → Int) : Nat → Nat → Int
  | 0 => fun i => 2 * i
  | j + 1 => fun i => Nat.rec (2 * ((j : Int) + 1)) (fun i r => min (min r (DT c j (i + 1)) + 2) (DT c j i + c j i)) i
theorem DT_zero (c : Nat → Nat → Int) (i : Nat) : DT c 0 i = 2 * i := rfl
theorem DT_left (c : Nat → Nat → Int) (j : Nat) : DT c (j + 1) 0 = 2 * ((j : Int) + 1) := rfl
theorem DT_succ (c : Nat → Nat → Int) (j i : Nat) : DT c (j + 1) (i + 1) = min (min (DT c (j + 1) i) (DT c j (i + 1)) + 2) (DT c j i + c j i) := rfl
noncomputable def CC (a b : Str) (j i : Nat) : Int := cost (Txt.item b j) (Txt.item a i)
noncomputable def InP (a b : Str) (j n : Nat) (row : List Int) (result distance minimum : Int) : Prop :=
  (∀ k, k < n → row.getD k 0 = DT (CC a b) (j + 1) (k + 1)) ∧ (∀ k, n ≤ k → k < a.length → row.getD k 0 = DT (CC a b) j (k + 1)) ∧ (n = 0 ∧ result = 2 * (j : Int) ∨ 0 < n ∧ result = DT (CC a b) (j + 1) n) ∧ distance = DT (CC a b) j n ∧
  (∀ k, k < n → minimum ≤ DT (CC a b) (j + 1) (k + 1))
noncomputable def OutP (a b : Str) (j : Nat) (row : List Int) (result : Int) : Prop :=
  (∀ k, k < a.length → row.getD k 0 = DT (CC a b) j (k + 1)) ∧ (j = 0 ∧ result = 0 ∨ 0 < j ∧ result = DT (CC a b) j a.length)
end
section
theorem cost_le (x y : Str) : 0 ≤ cost x y ∧ cost x y ≤ 2 := by
  unfold cost; split <;> (try split) <;> decide
theorem DT_col (c : Nat → Nat → Int) (j : Nat) : DT c j 0 = 2 * (j : Int) := by
  cases j with
  | zero => rfl
  | succ j => rw [DT_left]; (first | lia | omega)
theorem OutP_start {y z : Str} {n : Nat} (h : y.length = n) : OutP y z 0 (evens n) 0 :=
  ⟨fun k hk => by rw [evens_at (by (first | lia | omega)), DT_zero]; (first | lia | omega), .inl ⟨rfl, rfl⟩⟩
theorem InP_start {y z : Str} {pre : List Int} {row : List Int} {res k : Int} (h : OutP y z pre.length row res) (hk : k = 0 + (pre.length : Int)) : InP y z k.toNat ([] : List Int).length row (k * 2) (k * 2) 9223372036854775807 := by
  have e : k.toNat = pre.length := by (first | lia | omega)
  rw [e]
  refine ⟨fun k hk => absurd hk (Nat.not_lt_zero _), fun i _ hi => h.1 i hi, .inl ⟨rfl, by (first | lia | omega)⟩, ?_, fun k hk => absurd hk (Nat.not_lt_zero _)⟩
  show k * 2 = DT _ pre.length 0
  rw [DT_col]; (first | lia | omega)
theorem InP_step {y z : Str} {j kN : Int} {row : List Int} {res dist mn r' mn' : Int} {pre : List Int} (h : InP y z j.toNat pre.length row res dist mn) (hj : 0 ≤ j) (hk : kN = 0 + (pre.length : Int)) (hl : pre.length < ((y.length : Int) - 0).toNat) (hlen : (row.length : Int) = y.length)
    (hr : r' = if dist + cost (Txt.item z j) (Txt.item y kN) < (if row.getD kN.toNat 0 < res then row.getD kN.toNat 0 else res) + 2 then dist + cost (Txt.item z j) (Txt.item y kN) else (if row.getD kN.toNat 0 < res then row.getD kN.toNat 0 else res) + 2)
    (hm : mn' = if r' < mn then r' else mn) : InP y z j.toNat (pre ++ [kN]).length (row.set kN.toNat r') r' (row.getD kN.toNat 0) mn' := by
  obtain ⟨h1, h2, h3, h4, h5⟩ := h
  have ek : kN.toNat = pre.length := by (first | lia | omega)
  have ec : cost (Txt.item z j) (Txt.item y kN) = CC y z j.toNat pre.length := by
    unfold CC
    rw [show ((j.toNat : Nat) : Int) = j by (first | lia | omega), show ((pre.length : Nat) : Int) = kN by (first | lia | omega)]
  have hc := cost_le (Txt.item z j) (Txt.item y kN)
  rw [ec] at hr hc
  rw [ek] at hr ⊢
  have e2 := h2 pre.length (Nat.le_refl _) (by (first | lia | omega))
  rw [e2, h4] at hr
  have hD : r' = DT (CC y z) (j.toNat + 1) (pre.length + 1) := by
    rw [hr, DT_succ]
    simp only [Int.min_def]
    rcases h3 with ⟨e0, e3⟩ | ⟨e0, e3⟩
    · have e5 : DT (CC y z) j.toNat pre.length = 2 * ((j.toNat : Nat) : Int) := by rw [e0, DT_col]
      have e6 : DT (CC y z) (j.toNat + 1) pre.length = 2 * ((j.toNat : Nat) : Int) + 2 := by rw [e0, DT_col]; (first | lia | omega)
      (repeat' split) <;> (first | lia | omega)
    · rw [← e3]
      (repeat' split) <;> (first | lia | omega)
  have el : (pre ++ [kN]).length = pre.length + 1 := by simp
  rw [el, e2]
  have hlt : pre.length < row.length := by (first | lia | omega)
  refine ⟨fun k hk => ?_, fun k hk hk2 => ?_, .inr ⟨by (first | lia | omega), hD⟩, rfl, fun k hk => ?_⟩
  · by_cases e : k = pre.length
    · subst e
      rw [List.getD_eq_getElem?_getD, List.getElem?_set_self hlt]
      exact hD
    · rw [List.getD_eq_getElem?_getD, List.getElem?_set_ne (by (first | lia | omega)), ← List.getD_eq_getElem?_getD]
      exact h1 k (by (first | lia | omega))
  · rw [List.getD_eq_getElem?_getD, List.getElem?_set_ne (by (first | lia | omega)), ← List.getD_eq_getElem?_getD]
    exact h2 k (by (first | lia | omega)) hk2
  · by_cases e : k = pre.length
    · subst e
      rw [← hD, hm]
      split <;> (first | lia | omega)
    · have := h5 k (by (first | lia | omega))
      rw [hm]
      split <;> (first | lia | omega)
theorem rk_len (n : Nat) (k : Int) : (rangeKs k n).length = n := rangeKs_length k n
theorem OutP_step {y z : Str} {pre : List Int} {row : List Int} {res dist mn k : Int} (h : InP y z k.toNat (rangeKs 0 ((y.length : Int) - 0).toNat).length row res dist mn) (hk : k = 0 + (pre.length : Int)) (hy : 0 < y.length) : OutP y z (pre ++ [k]).length row res := by
  have e : k.toNat = pre.length := by (first | lia | omega)
  rw [e, rk_len] at h
  have ey : ((y.length : Int) - 0).toNat = y.length := by (first | lia | omega)
  rw [ey] at h
  obtain ⟨h1, h2, h3, h4, h5⟩ := h
  rw [List.length_append, List.length_singleton]
  refine ⟨fun i hi => h1 i hi, .inr ⟨by (first | lia | omega), ?_⟩⟩
  rcases h3 with ⟨e0, _⟩ | ⟨_, e3⟩
  · (first | lia | omega)
  · exact e3
noncomputable def LevD (u v : Str) (mc r : Int) : Prop := (r = mc + 1 ∧ ∃ j, j < v.length ∧ ∀ i, i < u.length → mc < DT (CC u v) (j + 1) (i + 1)) ∨ r = DT (CC u v) v.length u.length
noncomputable def LevT (x y : Str) (mc r : Int) : Prop :=
  ((x.length = 0 ∨ y.length = 0) ∧ r = 2 * ((x.length : Int) + y.length)) ∨ (x.length ≠ 0 ∧ y.length ≠ 0 ∧ ∃ u v : Str, ((u, v) = if y.length < x.length then (y, x) else (x, y)) ∧ ((mc < ((v.length : Int) - u.length) * 2 ∧ r = mc + 1) ∨ (¬ mc < ((v.length : Int) - u.length) * 2 ∧ LevD u v mc r)))
noncomputable def LevR (a b : Str) (mc r : Int) : Prop :=
  (a = b ∧ r = 0) ∨ (a ≠ b ∧ ∃ (p q : Int), PreEnd a b p ∧ PostEnd (Txt.slice a (some p) none) (Txt.slice b (some p) none) q ∧ LevT (sliceTo (Txt.slice a (some p) none) q) (sliceTo (Txt.slice b (some p) none) q) mc r)
theorem LevR.same {a b : Str} {mc : Int} (h : (a == b) = true) : LevR a b mc 0 := .inl ⟨eq_of_beq h, rfl⟩
theorem LevR.tail {a b x y : Str} {mc r p q : Int} (h : (a == b) = false) (h1 : PreEnd a b p) (h2 : PostEnd (Txt.slice a (some p) none) (Txt.slice b (some p) none) q) (h3 : x = sliceTo (Txt.slice a (some p) none) q) (h4 : y = sliceTo (Txt.slice b (some p) none) q) (h5 : LevT x y mc r) : LevR a b mc r :=
  .inr ⟨fun e => by rw [e] at h; simp at h, p, q, h1, h2, by rw [← h3, ← h4]; exact h5⟩
theorem LevT.swap {x y u v : Str} {mc r : Int} (h0 : x.length ≠ 0) (h1 : y.length ≠ 0) (h : (u, v) = if y.length < x.length then (y, x) else (x, y)) (h2 : (mc < ((v.length : Int) - u.length) * 2 ∧ r = mc + 1) ∨ (¬ mc < ((v.length : Int) - u.length) * 2 ∧ LevD u v mc r)) : LevT x y mc r :=
  .inr ⟨h0, h1, u, v, h, h2⟩
theorem LevD.early {y z : Str} {pre : List Int} {row : List Int} {res dist mn k mc : Int} (h : InP y z k.toNat (rangeKs 0 ((y.length : Int) - 0).toNat).length row res dist mn) (hk : k = 0 + (pre.length : Int)) (hl : pre.length < ((z.length : Int) - 0).toNat) (hm : mc < mn) : LevD y z mc (mc + 1) := by
  left
  refine ⟨rfl, pre.length, by (first | lia | omega), fun i hi => ?_⟩
  have e : k.toNat = pre.length := by (first | lia | omega)
  rw [e, rk_len] at h
  have := h.2.2.2.2 i (by (first | lia | omega))
  (first | lia | omega)
theorem LevD.full {y z : Str} {row : List Int} {res mc : Int} (h : OutP y z (rangeKs 0 ((z.length : Int) - 0).toNat).length row res) (hz : 0 < z.length) : LevD y z mc res := by
  right
  rw [rk_len] at h
  have ez : ((z.length : Int) - 0).toNat = z.length := by (first | lia | omega)
  rw [ez] at h
  rcases h.2 with ⟨e0, _⟩ | ⟨_, e1⟩
  · (first | lia | omega)
  · exact e1
theorem slice_none (x : Str) : Txt.slice x none none = x := by
  have e := PyProof.Txt.length_slice_le x none none
  unfold Txt.slice at e ⊢
  split
  · rfl
  · rename_i h
    exfalso
    apply h
    simp [Builtin.Str.strSliceIndices, sliceRange]
    split <;> (first | lia | omega)
theorem item_get {x : Str} {i : Nat} (h : i < x.length) : Txt.item x i = ⟨#[x.cps.toList.getD i 0]⟩ := by
  have e := item_closes (x := x) (i := i) ⟨by (first | lia | omega), by (first | lia | omega)⟩
  rw [eq_of_beq e]
  simp [List.getD_eq_getElem?_getD, Array.getD_eq_getD_getElem?]
theorem item_neg {x : Str} {k : Int} (h0 : k ≤ 0) (h : -k < x.length) : Txt.item x (k - 1) = ⟨#[x.cps.toList.reverse.getD (-k).toNat 0]⟩ := by
  have e := item_closes_neg (x := x) (i := k - 1) (j := k - 1 + x.length) (by omega) (by omega) rfl
  rw [eq_of_beq e]
  have hz : (-k).toNat < x.cps.toList.length := by rw [Array.length_toList]; show _ < x.length; omega
  rw [List.getD_eq_getElem?_getD, List.getElem?_reverse hz]
  simp only [Array.getD_eq_getD_getElem?, Array.getElem?_toList, Array.length_toList]
  have e3 : (k - 1 + (x.length : Int)).toNat = x.cps.size - 1 - (-k).toNat := by
    show (k - 1 + (x.cps.size : Int)).toNat = x.cps.size - 1 - (-k).toNat
    have : (x.cps.size : Int) = x.length := rfl
    omega
  rw [e3]
theorem Pre_step {a b : Str} {k : Int} (h : PreOk a b k) (ha : k < a.length) (hb : k < b.length) (e : (Txt.item a k == Txt.item b k) = true) : PreOk a b (k + 1) ∧ ((a.length : Int) - (k + 1)).toNat < ((a.length : Int) - k).toNat := by
  obtain ⟨h0, h1, h2, h3⟩ := h
  refine ⟨⟨by (first | lia | omega), by (first | lia | omega), by (first | lia | omega), ?_⟩, by (first | lia | omega)⟩
  have e1 := eq_of_beq e
  rw [show k = ((k.toNat : Nat) : Int) by (first | lia | omega), item_get (by (first | lia | omega)), item_get (by (first | lia | omega))] at e1
  have e2 : a.cps.toList.getD k.toNat 0 = b.cps.toList.getD k.toNat 0 := by simpa using e1
  have la : k.toNat < a.cps.toList.length := by rw [Array.length_toList]; show _ < a.length; (first | lia | omega)
  have lb : k.toNat < b.cps.toList.length := by rw [Array.length_toList]; show _ < b.length; (first | lia | omega)
  rw [show (k + 1).toNat = k.toNat + 1 by (first | lia | omega), List.take_add_one, List.take_add_one, h3]
  rw [List.getD_eq_getElem?_getD, List.getD_eq_getElem?_getD, List.getElem?_eq_getElem la, List.getElem?_eq_getElem lb] at e2
  rw [List.getElem?_eq_getElem la, List.getElem?_eq_getElem lb]
  simp only [Option.getD_some] at e2
  rw [e2]
theorem Pre_end {a b : Str} {k : Int} (h : PreOk a b k) (ha : k < a.length) (hb : k < b.length) (e : (Txt.item a k == Txt.item b k) = false) : PreEnd a b k := by
  refine ⟨h, .inr (.inr fun e2 => ?_)⟩
  obtain ⟨h0, h1, h2, h3⟩ := h
  rw [show k = ((k.toNat : Nat) : Int) by (first | lia | omega), item_get (by (first | lia | omega)), item_get (by (first | lia | omega)), List.getD_eq_getElem?_getD, List.getD_eq_getElem?_getD, e2] at e
  simp at e
theorem Pre_endA {a b : Str} {k : Int} (h : PreOk a b k) (ha : (a.length : Int) ≤ k ∨ (b.length : Int) ≤ k) : PreEnd a b k := by
  refine ⟨h, ?_⟩
  obtain ⟨h0, h1, h2, h3⟩ := h
  rcases ha with h | h
  · left; (first | lia | omega)
  · right; left; (first | lia | omega)
theorem Post_step {a b : Str} {k : Int} (h : PostOk a b k) (ha : -k < a.length) (hb : -k < b.length) (e : (Txt.item a (k - 1) == Txt.item b (k - 1)) = true) : PostOk a b (k - 1) ∧ ((a.length : Int) + (k - 1)).toNat < ((a.length : Int) + k).toNat := by
  obtain ⟨h0, h1, h2, h3⟩ := h
  refine ⟨⟨by (first | lia | omega), by (first | lia | omega), by (first | lia | omega), ?_⟩, by (first | lia | omega)⟩
  have e1 := eq_of_beq e
  rw [item_neg h0 ha, item_neg h0 hb] at e1
  have e2 : a.cps.toList.reverse.getD (-k).toNat 0 = b.cps.toList.reverse.getD (-k).toNat 0 := by simpa using e1
  have la : (-k).toNat < a.cps.toList.reverse.length := by rw [List.length_reverse, Array.length_toList]; show _ < a.length; (first | lia | omega)
  have lb : (-k).toNat < b.cps.toList.reverse.length := by rw [List.length_reverse, Array.length_toList]; show _ < b.length; (first | lia | omega)
  rw [show (-(k - 1)).toNat = (-k).toNat + 1 by (first | lia | omega), List.take_add_one, List.take_add_one, h3]
  rw [List.getD_eq_getElem?_getD, List.getD_eq_getElem?_getD, List.getElem?_eq_getElem la, List.getElem?_eq_getElem lb] at e2
  rw [List.getElem?_eq_getElem la, List.getElem?_eq_getElem lb]
  simp only [Option.getD_some] at e2
  rw [e2]
theorem Post_end {a b : Str} {k : Int} (h : PostOk a b k) (ha : -k < a.length) (hb : -k < b.length) (e : (Txt.item a (k - 1) == Txt.item b (k - 1)) = false) : PostEnd a b k := by
  refine ⟨h, .inr (.inr fun e2 => ?_)⟩
  obtain ⟨h0, h1, h2, h3⟩ := h
  rw [item_neg h0 ha, item_neg h0 hb, List.getD_eq_getElem?_getD, List.getD_eq_getElem?_getD, e2] at e
  simp at e
theorem Post_endA {a b : Str} {k : Int} (h : PostOk a b k) (ha : (a.length : Int) ≤ -k ∨ (b.length : Int) ≤ -k) : PostEnd a b k := by
  refine ⟨h, ?_⟩
  obtain ⟨h0, h1, h2, h3⟩ := h
  rcases ha with h | h
  · left; (first | lia | omega)
  · right; left; (first | lia | omega)
end
section
theorem sliceTo_zero {x : Str} {p : Int} (h : p = 0) : sliceTo x p = x := if_pos h
theorem sliceTo_neg {x : Str} {p : Int} (h : p ≠ 0) : sliceTo x p = Txt.slice x none (some p) := if_neg h
theorem news_tl {h₀ h : Heap} {L : Addr} {p : Addr × Obj} {a b : List (Addr × Obj)} (N : News h₀ L h (p :: (a ++ b))) : News h₀ L h a := fun q hq => N q (List.mem_cons_of_mem _ (List.mem_append_left _ hq))
theorem news_t1 {h₀ h : Heap} {L : Addr} {p : Addr × Obj} {a : List (Addr × Obj)} (N : News h₀ L h (p :: a)) : News h₀ L h a := fun q hq => N q (List.mem_cons_of_mem _ hq)
set_option maxHeartbeats 8000000 in
theorem C_lev {w : World} {loose : List Str} {mean : ExcName → Option Value} {mg mb : Str → Option Value} {dp un : Nat} {gd : Option (List Code)} {cn : Str} {cs : Scope} {ca : Addr} {ccd : Value} {cl : List (Str × Addr)} {outer : List Env} {A₀ : Around} {base h₀ : Heap} {L : Addr} {m : Str → Option Value} {s : Shared} {Q E : Value → Shared → Prop} {news : List (Addr × Obj)}
    (B : Below A₀ base outer h₀) (F : Fr h₀ L s.heap m) (X : (T49.K w.params).In h₀) (N : News h₀ L s.heap news) (T : Top T49.vw loose mean mg mb h₀) (hk : cs.kind = .function) (hd : dp + 12 < recursionLimit) (hu : un + 300 < cLine)
    {a b : Str} {ta tb tm : Tok} {mc : Int} (hla : a.length ≤ 40) (hlb : b.length ≤ 40) (hm0 : -1 ≤ mc) (hm1 : mc ≤ 100)
    (hret : ∀ (t : Tok) (h' : Heap) (tk' : Nat) (r : Int) (_ : LevR a b mc r), Fr h₀ L h' m → News h₀ L h' news → Q (.int r t) { s with heap := h', toks := tk' }) :
    wpAny (model PySem.Challenge.rw_tp0049_02.row.prog w) (ktrTop dp un gd cn cs L ca ccd cl outer) (call (.ref 136) [.str a ta, .str b tb, .int mc tm]) Q E s := by
  k_with_none
  (k_with "call ref" => ((k_here; (with_reducible show wpAny _ _ (call (Value.ref 129) _) _ _ _); k_dflt (refine' C_cost ?k1 ?k2 ?k3 ?k4 ?k5 ?kK ?kd ?ku ?hx ?hy ?kR); (case k1 => k_asm); (case k2 => k_asm); (case k3 => k_asm); (case k4 => k_asm); (case k5 => k_asm); (case kK => first | exact rfl | assumption); (case kd => ktr_room); (case ku => ktr_units); (case hx => omega); (case hy => omega); (intro t9 h9 tk9 F9 N9; (try dsimp only); (try k_fold)))))
  (k_with "exec While BoolOp" => ((k_here; k_dflt (first | (refine lev_while1 (by assumption) (by assumption) (by with_unfolding_all rfl) (by with_unfolding_all rfl) (by with_unfolding_all rfl) ?_ ?_) | (refine lev_while2 (by assumption) (by assumption) (by with_unfolding_all rfl) (by with_unfolding_all rfl) (by with_unfolding_all rfl) ?_ ?_)))))
  (k_with "exec Assign cons Subscript" => ((k_here; (fail_if_success (with_reducible show wpAny _ _ _ (Join2 _ _ _ _ _ _) _ _)); (with_reducible show wpAny _ _ (exec (Stmt.Assign [Expr.Name _ _] (Expr.Subscript (Expr.Name _ _) (Expr.Slice none (some (Expr.BoolOp _ _ _)) none _) _) _) _) _ _ _); k_dflt (first | (refine lev_cutA (by assumption) (by assumption) (by with_unfolding_all rfl) (by with_unfolding_all rfl) (by with_unfolding_all rfl) (by omega) (by omega) ?_ ?_) | (refine lev_cutB (by assumption) (by assumption) (by with_unfolding_all rfl) (by with_unfolding_all rfl) (by with_unfolding_all rfl) (by omega) (by omega) ?_ ?_)))))
  (k_with "exec If Compare cons nil" => ((k_here; (fail_if_success (with_reducible show wpAny _ _ _ (Join2 _ _ _ _ _ _) _ _)); (with_reducible show wpAny _ _ (exec (Stmt.If _ [Stmt.Assign [Expr.Tuple _ _ _] _ _] _ _) _) _ _ _); k_dflt (refine lev_swap (by assumption) (by assumption) (by with_unfolding_all rfl) (by with_unfolding_all rfl) ?_ ?_))))
  (k_with "subscriptTail Name Slice str ref" => ((k_here; (with_reducible show wpAny _ _ (subscriptTail _ (Expr.Slice none (some _) none _) _ _) _ _ _); first | (exfalso; omega) | ((with_reducible rename Fr _ _ _ _ => F'); (with_reducible rename News _ _ _ _ => N'); refine slice_strN_nn_len (s := ⟨_, _, _, _, _⟩) F' N' ?_; rw [slice_none]; intro _ _ _ _ _ _))))
  (k_with "call type:list" => ((k_here; (with_reducible show wpAny _ _ (call (Value.type _) [Value.ref _]) _ _ _); k_dflt (refine list_step2 (by rfl) (by assumption) (by assumption) (by assumption) (by omega) (by omega) ?_); (intro D' vs' c' h' tk' F' N' l1 hI' hl'); (try k_lt l1); (try k_sweep))))
  (k_with "exec For Name Call cons nil" => ((k_here; (rename Fr _ _ _ _ => lF'); (with_unfolding_all refine' For_invVF lF' ?k1 ?k2 ?_; (case k1 => exact rfl); (case k2 => exact rfl); k_whole))))
  (k_with "pyIter ref" => ((k_here; first | (k_state_given ["a", "b", "bindex"] (fun a b bi pre row result distance minimum => (row.length : Int) = a.length ∧ 0 ≤ bi ∧ InP a b bi.toNat pre.length row result distance minimum) "row" "result" "distance" "minimum") | (k_state_given ["a", "b"] (fun a b pre row result => (row.length : Int) = a.length ∧ OutP a b pre.length row result) "row" "result"))))
  refine wpAny_call ?_
  k_dflt cell_enter
  (k_with "state" => first
    | exact ⟨by rw [evens_length]; omega, OutP_start (by omega)⟩
    | exact ⟨by assumption, by omega, InP_start (by assumption) (by assumption)⟩
    | exact ⟨by (rw [List.length_set]; assumption), by assumption, InP_step (by assumption) (by assumption) (by assumption) (by assumption) (by assumption) rfl (by first | exact (if_pos (by assumption)).symm | exact (if_neg (by assumption)).symm)⟩
    | exact ⟨by assumption, OutP_step (by assumption) (by assumption) (by omega)⟩)
  k_steps
  · exact hret _ _ _ _ (LevR.same (by assumption)) (by k_asm) (by k_asm)
  · exact PreStep.intro (by assumption) (by assumption) (by with_unfolding_all rfl) (by (intro y hy; simp only [if_neg hy])) (Pre_step (by assumption) (by omega) (by omega) (by assumption))
  · exact PreStep.intro (by assumption) (by assumption) (by with_unfolding_all rfl) (by (intro y hy; simp only [if_neg hy])) (Pre_end (by assumption) (by omega) (by omega) (by assumption))
  · exact PreStep.intro (by assumption) (by assumption) (by with_unfolding_all rfl) (by (intro y hy; simp only [if_neg hy])) (Pre_endA (by assumption) (by omega))
  · exact PreStep.intro (by assumption) (by assumption) (by with_unfolding_all rfl) (by (intro y hy; simp only [if_neg hy])) (Pre_endA (by assumption) (by omega))
  · exact PreStep.intro (by assumption) (by assumption) (by with_unfolding_all rfl) (by (intro y hy; simp only [if_neg hy])) (Post_step (by assumption) (by omega) (by omega) (by assumption))
  · exact PreStep.intro (by assumption) (by assumption) (by with_unfolding_all rfl) (by (intro y hy; simp only [if_neg hy])) (Post_end (by assumption) (by omega) (by omega) (by assumption))
  · exact PreStep.intro (by assumption) (by assumption) (by with_unfolding_all rfl) (by (intro y hy; simp only [if_neg hy])) (Post_endA (by assumption) (by omega))
  · exact PreStep.intro (by assumption) (by assumption) (by with_unfolding_all rfl) (by (intro y hy; simp only [if_neg hy])) (Post_endA (by assumption) (by omega))
  · exact PreStep.intro (by assumption) (by assumption) (by with_unfolding_all rfl) (by (intro y hy; simp only [if_neg hy])) (Post_step (by assumption) (by omega) (by omega) (by assumption))
  · exact PreStep.intro (by assumption) (by assumption) (by with_unfolding_all rfl) (by (intro y hy; simp only [if_neg hy])) (Post_end (by assumption) (by omega) (by omega) (by assumption))
  · exact PreStep.intro (by assumption) (by assumption) (by with_unfolding_all rfl) (by (intro y hy; simp only [if_neg hy])) (Post_endA (by assumption) (by omega))
  · exact PreStep.intro (by assumption) (by assumption) (by with_unfolding_all rfl) (by (intro y hy; simp only [if_neg hy])) (Post_endA (by assumption) (by omega))
  · exact Join2.intro (by assumption) (by assumption) (by with_unfolding_all rfl) (by with_unfolding_all rfl) (by (intro y hy hz; simp only [if_neg hy, if_neg hz])) (⟨(sliceTo_neg (by assumption)).symm, rfl⟩)
  · exact Join2.intro (by assumption) (by assumption) (by with_unfolding_all rfl) (by with_unfolding_all rfl) (by (intro y hy hz; simp only [if_neg hy, if_neg hz])) (⟨(sliceTo_zero (by assumption)).symm, rfl⟩)
  · exact Join2.intro (by assumption) (by assumption) (by with_unfolding_all rfl) (by with_unfolding_all rfl) (by (intro y hy hz; simp only [if_neg hy, if_neg hz])) (⟨rfl, (sliceTo_neg (by assumption)).symm⟩)
  · exact Join2.intro (by assumption) (by assumption) (by with_unfolding_all rfl) (by with_unfolding_all rfl) (by (intro y hy hz; simp only [if_neg hy, if_neg hz])) (⟨rfl, (sliceTo_zero (by assumption)).symm⟩)
  · exact Join2.intro (by assumption) (by first | assumption | exact news_t1 (by assumption)) (by with_unfolding_all rfl) (by with_unfolding_all rfl) (by (intro y hy hz; simp only [if_neg hy, if_neg hz])) ((if_pos (by omega)).symm)
  · exact Join2.intro (by assumption) (by assumption) (by with_unfolding_all rfl) (by with_unfolding_all rfl) (by (intro y hy hz; simp only [if_neg hy, if_neg hz])) ((if_neg (by omega)).symm)
  · exact hret _ _ _ _ (LevR.tail (by assumption) (by assumption) (by assumption) (by assumption) (by assumption) (LevT.swap (by omega) (by omega) (by assumption) (.inl ⟨by omega, rfl⟩))) (by k_asm) (by k_asm)
  · exact hret _ _ _ _ (LevR.tail (by assumption) (by assumption) (by assumption) (by assumption) (by assumption) (LevT.swap (by omega) (by omega) (by assumption) (.inr ⟨by omega, LevD.early (by assumption) (by assumption) (by assumption) (by assumption)⟩))) (by k_asm) (by exact news_tl (by k_asm))
  · exact hret _ _ _ _ (LevR.tail (by assumption) (by assumption) (by assumption) (by assumption) (by assumption) (LevT.swap (by omega) (by omega) (by assumption) (.inr ⟨by omega, LevD.full (by assumption) (by omega)⟩))) (by k_asm) (by exact news_t1 (by k_asm))
  · exact hret _ _ _ _ (LevR.tail (by assumption) (by assumption) (by assumption) (by assumption) (by assumption) (.inl ⟨by omega, rfl⟩)) (by k_asm) (by k_asm)
  · exact hret _ _ _ _ (LevR.tail (by assumption) (by assumption) (by assumption) (by assumption) (by assumption) (.inl ⟨by omega, rfl⟩)) (by k_asm) (by k_asm)
end
section
noncomputable def csum (c : Nat → Nat → Int) : Nat → Int
  | 0 => 0
  | n + 1 => csum c n + c n n
theorem DT_upper (c : Nat → Nat → Int) (i : Nat) : DT c i i ≤ csum c i := by
  induction i with
  | zero => exact Int.le_refl _
  | succ i ih =>
    rw [DT_succ]
    simp only [csum, Int.min_def]
    (repeat' split) <;> (first | lia | omega)
theorem DT_lowA (c : Nat → Nat → Int) (n : Nat) (h2 : ∀ k, c k k ≤ 2) (hc : ∀ j i, j < n → i < n → c i i ≤ c j i) : ∀ j i, j ≤ n → i ≤ n → csum c i ≤ DT c j i := by
  intro j
  induction j with
  | zero =>
    intro i
    induction i with
    | zero => intro _ _; exact Int.le_refl _
    | succ i ih =>
      intro hj hi
      have := ih hj (by (first | lia | omega))
      have := h2 i
      rw [DT_zero] at *
      simp only [csum]
      (first | lia | omega)
  | succ j ihj =>
    intro i
    induction i with
    | zero => intro _ _; rw [DT_left]; simp only [csum]; (first | lia | omega)
    | succ i ih =>
      intro hj hi
      have h0 := ih hj (by (first | lia | omega))
      have h1 := ihj (i + 1) (by (first | lia | omega)) hi
      have h3 := ihj i (by (first | lia | omega)) (by (first | lia | omega))
      have h4 := h2 i
      have h5 := hc j i (by (first | lia | omega)) (by (first | lia | omega))
      rw [DT_succ]
      simp only [csum, Int.min_def] at *
      (repeat' split) <;> (first | lia | omega)
theorem DT_lowB (c : Nat → Nat → Int) (n : Nat) (h2 : ∀ k, c k k ≤ 2) (hc : ∀ j i, j < n → i < n → c j j ≤ c j i) : ∀ j i, j ≤ n → i ≤ n → csum c j ≤ DT c j i := by
  intro j
  induction j with
  | zero =>
    intro i _ _
    rw [DT_zero]; simp only [csum]; (first | lia | omega)
  | succ j ihj =>
    intro i
    induction i with
    | zero =>
      intro hj hi
      have := ihj 0 (by (first | lia | omega)) (by (first | lia | omega))
      rw [DT_col] at *
      have := h2 j
      simp only [csum]; (first | lia | omega)
    | succ i ih =>
      intro hj hi
      have h0 := ih hj (by (first | lia | omega))
      have h1 := ihj (i + 1) (by (first | lia | omega)) hi
      have h3 := ihj i (by (first | lia | omega)) (by (first | lia | omega))
      have h4 := h2 j
      have h5 := hc j i (by (first | lia | omega)) (by (first | lia | omega))
      rw [DT_succ]
      simp only [csum, Int.min_def] at *
      (repeat' split) <;> (first | lia | omega)
theorem csum_shift (c : Nat → Nat → Int) (p : Nat) : ∀ n, csum c (p + n) = csum c p + csum (fun j i => c (p + j) (p + i)) n := by
  intro n
  induction n with
  | zero => simp [csum]
  | succ n ih => rw [← Nat.add_assoc]; simp only [csum, ih]; (first | lia | omega)
theorem csum_zero (c : Nat → Nat → Int) : ∀ n, (∀ k, k < n → c k k = 0) → csum c n = 0 := by
  intro n
  induction n with
  | zero => intro _; rfl
  | succ n ih =>
    intro h
    simp only [csum]
    rw [ih (fun k hk => h k (by (first | lia | omega))), h n (by (first | lia | omega))]
    rfl
theorem csum_mono (c : Nat → Nat → Int) (h : ∀ k, 0 ≤ c k k) (n : Nat) : ∀ m, csum c n ≤ csum c (n + m) := by
  intro m
  induction m with
  | zero => exact Int.le_refl _
  | succ m ih => rw [← Nat.add_assoc]; simp only [csum]; have := h (n + m); (first | lia | omega)
theorem csum_congr (c d : Nat → Nat → Int) : ∀ n, (∀ k, k < n → c k k = d k k) → csum c n = csum d n := by
  intro n
  induction n with
  | zero => intro _; rfl
  | succ n ih => intro h; simp only [csum]; rw [ih (fun k hk => h k (by (first | lia | omega))), h n (by (first | lia | omega))]
noncomputable def at1 (x : Str) (i : Nat) : Str := ⟨#[x.cps.toList.getD i 0]⟩
noncomputable def c1 (a b : Str) (j i : Nat) : Int := cost (at1 b j) (at1 a i)
theorem CC_c1 {a b : Str} {j i : Nat} (hj : j < b.length) (hi : i < a.length) : CC a b j i = c1 a b j i := by
  unfold CC c1 at1
  rw [item_get hj, item_get hi]
theorem DT_congr (c d : Nat → Nat → Int) (n m : Nat) (h : ∀ j i, j < n → i < m → c j i = d j i) : ∀ j i, j ≤ n → i ≤ m → DT c j i = DT d j i := by
  intro j
  induction j with
  | zero => intro i _ _; rw [DT_zero, DT_zero]
  | succ j ihj =>
    intro i
    induction i with
    | zero => intro _ _; rw [DT_left, DT_left]
    | succ i ih =>
      intro hj hi
      rw [DT_succ, DT_succ, ih hj (by (first | lia | omega)), ihj (i + 1) (by (first | lia | omega)) hi, ihj i (by (first | lia | omega)) (by (first | lia | omega)), h j i (by (first | lia | omega)) (by (first | lia | omega))]
theorem cost_self (x : Str) : cost x x = 0 := if_pos rfl
theorem slice_from {x : Str} {p : Int} (h0 : 0 ≤ p) (h1 : p ≤ x.length) : (Txt.slice x (some p) none).cps.toList = x.cps.toList.drop p.toNat := by
  have e := slice_closes_fromL (b := x.length) h0 h1 rfl
  rw [eq_of_beq e]
  show List.take _ _ = _
  apply List.take_of_length_le
  rw [List.length_drop, Array.length_toList]
  show x.length - _ ≤ _
  (first | lia | omega)
theorem sliceTo_list {x : Str} {q : Int} (h0 : q ≤ 0) (h1 : -(x.length : Int) ≤ q) : (sliceTo x q).cps.toList = x.cps.toList.take (x.length - (-q).toNat) := by
  unfold sliceTo
  split
  · rename_i h
    rw [List.take_of_length_le]
    rw [Array.length_toList, h]
    show x.length ≤ _
    simp
  · have e := slice_closes_to_neg (j := q) (k := q + x.length) (by (first | lia | omega)) h1 rfl
    rw [eq_of_beq e]
    show List.take _ (List.drop _ _) = _
    rw [show (q + (x.length : Int) - 0).toNat = x.length - (-q).toNat by (first | lia | omega)]
    rfl
theorem len_list (x : Str) : x.cps.toList.length = x.length := by rw [Array.length_toList]; rfl
theorem getD_take {l : List Nat} {n i : Nat} (h : i < n) : (l.take n).getD i 0 = l.getD i 0 := by
  rw [List.getD_eq_getElem?_getD, List.getElem?_take_of_lt h, ← List.getD_eq_getElem?_getD]
theorem getD_drop {l : List Nat} {n i : Nat} : (l.drop n).getD i 0 = l.getD (n + i) 0 := by
  rw [List.getD_eq_getElem?_getD, List.getElem?_drop, ← List.getD_eq_getElem?_getD]
theorem getD_rev {l : List Nat} {i : Nat} (h : i < l.length) : l.reverse.getD i 0 = l.getD (l.length - 1 - i) 0 := by
  rw [List.getD_eq_getElem?_getD, List.getElem?_reverse h, ← List.getD_eq_getElem?_getD]
theorem strip_eq {a b : Str} {p q : Int} (n : Nat) (ha : a.length = n) (hb : b.length = n) (h1 : PreEnd a b p) (h2 : PostEnd (Txt.slice a (some p) none) (Txt.slice b (some p) none) q) :
    ∃ P m : Nat, P + m ≤ n ∧ (sliceTo (Txt.slice a (some p) none) q).length = m ∧ (sliceTo (Txt.slice b (some p) none) q).length = m ∧ (∀ i, i < m → at1 (sliceTo (Txt.slice a (some p) none) q) i = at1 a (P + i)) ∧ (∀ i, i < m → at1 (sliceTo (Txt.slice b (some p) none) q) i = at1 b (P + i)) ∧ (∀ k, k < n → k < P ∨ P + m ≤ k → at1 a k = at1 b k) := by
  obtain ⟨⟨hp0, hpa, hpb, hpe⟩, _⟩ := h1
  obtain ⟨⟨hq0, hqa, hqb, hqe⟩, _⟩ := h2
  have la := slice_from (x := a) hp0 hpa
  have lb := slice_from (x := b) hp0 hpb
  have na : (Txt.slice a (some p) none).length = n - p.toNat := by rw [← len_list, la, List.length_drop, len_list, ha]
  have nb : (Txt.slice b (some p) none).length = n - p.toNat := by rw [← len_list, lb, List.length_drop, len_list, hb]
  have ta := sliceTo_list hq0 hqa
  have tb := sliceTo_list hq0 hqb
  rw [la, na] at ta
  rw [lb, nb] at tb
  have Ha := len_list a
  have Hb := len_list b
  refine ⟨p.toNat, n - p.toNat - (-q).toNat, by (first | lia | omega), ?_, ?_, ?_, ?_, ?_⟩
  · rw [← len_list, ta, List.length_take, List.length_drop]; (first | lia | omega)
  · rw [← len_list, tb, List.length_take, List.length_drop]; (first | lia | omega)
  · intro i hi
    unfold at1
    rw [ta, getD_take hi, getD_drop]
  · intro i hi
    unfold at1
    rw [tb, getD_take hi, getD_drop]
  · intro k hk hkk
    unfold at1
    have : a.cps.toList.getD k 0 = b.cps.toList.getD k 0 := by
      rcases hkk with h | h
      · rw [← getD_take h, hpe, getD_take h]
      · rw [la, lb] at hqe
        have e1 : n - 1 - k < (-q).toNat := by (first | lia | omega)
        have e := congrArg (fun l => List.getD l (n - 1 - k) 0) hqe
        simp only [getD_take e1] at e
        rw [getD_rev (by rw [List.length_drop]; (first | lia | omega)), getD_rev (by rw [List.length_drop]; (first | lia | omega)), getD_drop, getD_drop, List.length_drop, List.length_drop] at e
        rw [show p.toNat + (a.cps.toList.length - p.toNat - 1 - (n - 1 - k)) = k by (first | lia | omega), show p.toNat + (b.cps.toList.length - p.toNat - 1 - (n - 1 - k)) = k by (first | lia | omega)] at e
        exact e
    rw [this]
theorem c1_nonneg (a b : Str) (j i : Nat) : 0 ≤ c1 a b j i ∧ c1 a b j i ≤ 2 := cost_le _ _
theorem lev_main {a b : Str} {mc r : Int} {n : Nat} (ha : a.length = n) (hb : b.length = n) (h : LevR a b mc r) (hm : a ≠ b → 0 ≤ mc)
    (hd : (∀ j i, j < n → i < n → c1 a b i i ≤ c1 a b j i) ∨ (∀ j i, j < n → i < n → c1 a b j j ≤ c1 a b j i)) (hmc : csum (c1 a b) n ≤ mc ∨ csum (c1 a b) n = mc + 1) : r = csum (c1 a b) n := by
  rcases h with ⟨e, rfl⟩ | ⟨ne, p, q, h1, h2, h3⟩
  · subst e
    exact (csum_zero _ _ fun k _ => cost_self _).symm
  · obtain ⟨P, m, hPm, lx, ly, hx, hy, hout⟩ := strip_eq n ha hb h1 h2
    revert h3 lx ly hx hy
    generalize sliceTo (Txt.slice a (some p) none) q = x
    generalize sliceTo (Txt.slice b (some p) none) q = y
    intro h3 lx ly hx hy
    have hm := hm ne
    have hs : csum (c1 a b) n = csum (fun j i => c1 a b (P + j) (P + i)) m := by
      obtain ⟨z, rfl⟩ : ∃ z, n = P + m + z := ⟨n - (P + m), by (first | lia | omega)⟩
      rw [csum_shift (c1 a b) (P + m) z, csum_shift (c1 a b) P m, csum_zero (c1 a b) P, csum_zero _ z]
      · (first | lia | omega)
      · intro k hk
        show cost _ _ = 0
        rw [hout (P + m + k) (by (first | lia | omega)) (.inr (by (first | lia | omega)))]; exact cost_self _
      · intro k hk
        show cost _ _ = 0
        rw [hout k (by (first | lia | omega)) (.inl (by (first | lia | omega)))]; exact cost_self _
    have hc : ∀ j i, j < m → i < m → CC x y j i = c1 a b (P + j) (P + i) := by
      intro j i hj hi
      rw [CC_c1 (by (first | lia | omega)) (by (first | lia | omega))]
      unfold c1
      rw [hx i hi, hy j hj]
    have hDT : DT (CC x y) m m = csum (c1 a b) n := by
      rw [DT_congr _ _ m m hc m m (Nat.le_refl _) (Nat.le_refl _), hs]
      have hu := DT_upper (fun j i => c1 a b (P + j) (P + i)) m
      have hlow : csum (fun j i => c1 a b (P + j) (P + i)) m ≤ DT (fun j i => c1 a b (P + j) (P + i)) m m := by
        rcases hd with hd | hd
        · exact DT_lowA (fun j i => c1 a b (P + j) (P + i)) m (fun k => (c1_nonneg _ _ _ _).2) (fun j i hj hi => hd _ _ (by (first | lia | omega)) (by (first | lia | omega))) m m (Nat.le_refl _) (Nat.le_refl _)
        · exact DT_lowB (fun j i => c1 a b (P + j) (P + i)) m (fun k => (c1_nonneg _ _ _ _).2) (fun j i hj hi => hd _ _ (by (first | lia | omega)) (by (first | lia | omega))) m m (Nat.le_refl _) (Nat.le_refl _)
      (first | lia | omega)
    rcases h3 with ⟨h0, hr⟩ | ⟨_, _, u, v, huv, h3⟩
    · have hm0 : m = 0 := by (first | lia | omega)
      rw [hr, hs, hm0, lx, ly, hm0]; rfl
    · rw [if_neg (by (first | lia | omega))] at huv
      cases huv
      rcases h3 with ⟨h4, hr⟩ | ⟨_, h3⟩
      · exfalso; rw [lx, ly] at h4; (first | lia | omega)
      · rcases h3 with ⟨hr, j, hj, hrow⟩ | hr
        · rcases hmc with hmc | hmc
          · exfalso
            have h5 := hrow j (by (first | lia | omega))
            rw [DT_congr _ _ m m hc (j + 1) (j + 1) (by (first | lia | omega)) (by (first | lia | omega))] at h5
            have hu := DT_upper (fun j i => c1 a b (P + j) (P + i)) (j + 1)
            have hmo := csum_mono (fun j i => c1 a b (P + j) (P + i)) (fun k => (c1_nonneg _ _ _ _).1) (j + 1) (m - (j + 1))
            rw [show j + 1 + (m - (j + 1)) = m by (first | lia | omega)] at hmo
            (first | lia | omega)
          · (first | lia | omega)
        · rw [hr, ly, lx]; exact hDT
end
section
open PySem.Builtin.Str PySem.StrLaws
theorem occ_skip (s sub : Str) (hi lim : Nat) (fr : Nat) (arr : Array Nat) : ∀ l : List Nat, (∀ i ∈ l, ¬ (i + sub.length ≤ hi ∧ subAt s sub i = true)) → (forIn l (arr, fr) (occBody s sub hi lim) : Id _) = (arr, fr)
  | [], _ => rfl
  | a :: l, h => by
    rw [List.forIn_cons]
    have e : occBody s sub hi lim a (arr, fr) = pure (ForInStep.yield (arr, fr)) := by
      unfold occBody
      rw [if_neg]
      intro hc
      exact h a List.mem_cons_self ⟨hc.1.2, hc.2⟩
    rw [e]
    exact occ_skip s sub hi lim fr arr l fun i hi => h i (List.mem_cons_of_mem _ hi)
theorem occ_full (s sub : Str) (hi lim : Nat) (fr : Nat) (arr : Array Nat) (hf : ¬ arr.size < lim) : ∀ l : List Nat, (forIn l (arr, fr) (occBody s sub hi lim) : Id _) = (arr, fr)
  | [] => rfl
  | a :: l => by
    rw [List.forIn_cons]
    have e : occBody s sub hi lim a (arr, fr) = pure (ForInStep.yield (arr, fr)) := by
      unfold occBody
      rw [if_neg]
      intro hc
      exact hf hc.1.1.1
    rw [e]
    exact occ_full s sub hi lim fr arr hf l
theorem occ_app (s sub : Str) (hi lim : Nat) (r : List Nat) : ∀ (l : List Nat) (st st' : Array Nat × Nat), (forIn l st (occBody s sub hi lim) : Id _) = st' → (forIn (l ++ r) st (occBody s sub hi lim) : Id _) = (forIn r st' (occBody s sub hi lim) : Id _)
  | [], st, st', h => by
    have : st = st' := h
    subst this; rfl
  | a :: l, st, st', h => by
    rw [List.cons_append, List.forIn_cons]
    rw [List.forIn_cons] at h
    revert h
    unfold occBody
    split
    · intro h; exact occ_app s sub hi lim r l _ _ h
    · intro h; exact occ_app s sub hi lim r l _ _ h
theorem occ_first (s : Str) (c lo k : Nat) (hlo : lo ≤ k) (hk : s.cps.toList[k]? = some c) (hn : ∀ i, lo ≤ i → i < k → s.cps.toList[i]? ≠ some c) : occurrences s ⟨#[c]⟩ lo s.length 1 = [k] := by
  have hlt : k < s.length := by
    rw [← len_list]
    exact (List.getElem?_eq_some_iff.mp hk).1
  rw [occ_eq]
  have e : List.range' lo (s.length + 1 - lo) = List.range' lo (k - lo) ++ (k :: List.range' (k + 1) (s.length - k)) := by
    rw [← List.range'_succ]
    have := List.range'_append (s := lo) (m := k - lo) (n := s.length - k + 1) (step := 1)
    rw [show lo + 1 * (k - lo) = k by (first | lia | omega)] at this
    rw [this]
    congr 1
    (first | lia | omega)
  rw [e, occ_app s ⟨#[c]⟩ s.length 1 _ _ _ ((#[] : Array Nat), lo) (occ_skip _ _ _ _ _ _ _ ?_)]
  · show (Id.run (forIn (k :: List.range' (k + 1) (s.length - k)) ((#[] : Array Nat), lo) (occBody s ⟨#[c]⟩ s.length 1))).fst.toList = [k]
    rw [List.forIn_cons]
    have e2 : occBody s ⟨#[c]⟩ s.length 1 k ((#[] : Array Nat), lo) = pure (ForInStep.yield ((#[k] : Array Nat), k + 1)) := by
      unfold occBody
      rw [if_pos]
      · rfl
      · have := (subAt_one s c k).mpr hk
        exact ⟨⟨⟨Nat.one_pos, hlo⟩, this.1⟩, this.2⟩
    rw [e2]
    show (Id.run (forIn (List.range' (k + 1) (s.length - k)) ((#[k] : Array Nat), k + 1) (occBody s ⟨#[c]⟩ s.length 1))).fst.toList = [k]
    rw [occ_full]
    · rfl
    · exact Nat.lt_irrefl 1
  · intro i hi hc
    have := List.mem_range'.mp hi
    exact hn i (by (first | lia | omega)) (by (first | lia | omega)) ((subAt_one s c i).mp hc)
theorem occ_nil (s : Str) (c lo : Nat) (hn : ∀ i, lo ≤ i → s.cps.toList[i]? ≠ some c) : occurrences s ⟨#[c]⟩ lo s.length 1 = [] := by
  rw [occ_eq]
  rw [occ_skip]
  · rfl
  · intro i hi hc
    have := List.mem_range'.mp hi
    exact hn i (by (first | lia | omega)) ((subAt_one s c i).mp hc)
theorem find_first (s : Str) (c k : Nat) (hk : s.cps.toList[k]? = some c) (hn : ∀ i, i < k → s.cps.toList[i]? ≠ some c) : Txt.find s ⟨#[c]⟩ = k := by
  unfold Txt.find
  rw [occ_first s c 0 k (Nat.zero_le _) hk fun i _ h => hn i h]
theorem find3_first (s : Str) (c k : Nat) (i : Int) (h0 : 0 ≤ i) (h1 : i ≤ k) (hk : s.cps.toList[k]? = some c) (hn : ∀ j : Nat, i ≤ j → j < k → s.cps.toList[j]? ≠ some c) : Txt.find3 s ⟨#[c]⟩ i = k := by
  unfold Txt.find3
  have e : fromIndex s.length i = i.toNat := by
    unfold fromIndex
    rw [if_neg (by (first | lia | omega))]
    (first | lia | omega)
  rw [e, occ_first s c i.toNat k (by (first | lia | omega)) hk fun j h h2 => hn j (by (first | lia | omega)) h2]
noncomputable def joinL (c : Nat) : List (List Nat) → List Nat
  | [] => []
  | [x] => x
  | x :: y :: r => x ++ c :: joinL c (y :: r)
theorem join_list (c : Nat) : ∀ l : List Str, (Str.join ⟨#[c]⟩ l).cps.toList = joinL c (l.map fun x => x.cps.toList)
  | [] => rfl
  | [x] => rfl
  | x :: y :: r => by
    show ((x ++ (⟨#[c]⟩ : Str) ++ Str.join ⟨#[c]⟩ (y :: r)) : Str).cps.toList = _
    have := join_list c (y :: r)
    simp only [Str.cps_append, Array.toList_append, this]
    simp [joinL]
theorem joinL_ext (c : Nat) : ∀ (l m : List (List Nat)), l ≠ [] → m ≠ [] → (∀ x ∈ l, c ∉ x) → (∀ x ∈ m, c ∉ x) → joinL c l = joinL c m → l = m := by
  have cut : ∀ (x y r s : List Nat), c ∉ x → c ∉ y → x ++ c :: r = y ++ c :: s → x = y ∧ r = s := by
    intro x
    induction x with
    | nil =>
      intro y r s hx hy e
      cases y with
      | nil => exact ⟨rfl, by simpa using e⟩
      | cons b y => simp only [List.nil_append, List.cons_append, List.cons.injEq] at e; exact absurd (e.1 ▸ List.mem_cons_self) hy
    | cons a x ih =>
      intro y r s hx hy e
      cases y with
      | nil => simp only [List.nil_append, List.cons_append, List.cons.injEq] at e; exact absurd (e.1 ▸ List.mem_cons_self) hx
      | cons b y =>
        simp only [List.cons_append, List.cons.injEq] at e
        obtain ⟨h1, h2⟩ := ih y r s (fun h => hx (List.mem_cons_of_mem _ h)) (fun h => hy (List.mem_cons_of_mem _ h)) e.2
        exact ⟨by rw [e.1, h1], h2⟩
  intro l
  induction l with
  | nil => intro m h; exact absurd rfl h
  | cons x l ih =>
    intro m _ hm hl hmm e
    cases m with
    | nil => exact absurd rfl hm
    | cons y m =>
      have hx := hl x List.mem_cons_self
      have hy := hmm y List.mem_cons_self
      cases l with
      | nil =>
        cases m with
        | nil => simpa [joinL] using e
        | cons z m =>
          simp only [joinL] at e
          exact absurd (e ▸ (by simp : c ∈ y ++ c :: joinL c (z :: m))) hx
      | cons z l =>
        cases m with
        | nil =>
          simp only [joinL] at e
          exact absurd (e ▸ (by simp : c ∈ x ++ c :: joinL c (z :: l))) hy
        | cons z' m =>
          simp only [joinL] at e
          obtain ⟨h1, h2⟩ := cut _ _ _ _ hx hy e
          rw [h1, ih (z' :: m) (by simp) (by simp) (fun x h => hl x (List.mem_cons_of_mem _ h)) (fun x h => hmm x (List.mem_cons_of_mem _ h)) h2]
theorem split_ne (x : Str) (c : Nat) : Txt.split x ⟨#[c]⟩ ≠ [] := by
  unfold Txt.split
  split
  · simp
  · split
    · simp
    · rw [partsBetween_eq]
      obtain ⟨p, r, e⟩ := partsFrom_ne x (⟨#[c]⟩ : Str).length 0 (occurrences x ⟨#[c]⟩ 0 x.length (x.length + 1))
      rw [e]; simp
theorem split_is (x : Str) (c : Nat) (l : List (List Nat)) (hl : l ≠ []) (hf : ∀ y ∈ l, c ∉ y) (e : x.cps.toList = joinL c l) : (Txt.split x ⟨#[c]⟩).map (fun y => y.cps.toList) = l := by
  have h1 := join_list c (Txt.split x ⟨#[c]⟩)
  rw [join_split, e] at h1
  refine (joinL_ext c l _ hl ?_ hf ?_ h1).symm
  · intro h; exact split_ne x c (List.map_eq_nil_iff.mp h)
  · intro y hy
    obtain ⟨z, hz, rfl⟩ := List.mem_map.mp hy
    exact split_free x c z hz
theorem split_strs (x : Str) (c : Nat) (l : List Str) (hl : l ≠ []) (hf : ∀ y ∈ l, c ∉ y.cps.toList) (e : x.cps.toList = joinL c (l.map fun y => y.cps.toList)) : Txt.split x ⟨#[c]⟩ = l := by
  have h := split_is x c (l.map fun y => y.cps.toList) (by simpa using hl) (by
    intro y hy
    obtain ⟨z, hz, rfl⟩ := List.mem_map.mp hy
    exact hf z hz) e
  have inj : Function.Injective (fun y : Str => y.cps.toList) := fun a b h => Str.ext' (Array.toList_inj.mp h)
  exact (List.map_inj_right inj).mp h
theorem slice_mid {x : Str} {i j : Int} (h0 : 0 ≤ i) (h1 : i ≤ j) (h2 : j ≤ x.length) : (Txt.slice x (some i) (some j)).cps.toList = (x.cps.toList.drop i.toNat).take (j - i).toNat := by
  rw [eq_of_beq (slice_closesL h0 h1 h2)]
theorem slice_to {x : Str} {j : Int} (h0 : 0 ≤ j) (h2 : j ≤ x.length) : (Txt.slice x none (some j)).cps.toList = x.cps.toList.take j.toNat := by
  rw [eq_of_beq (slice_closes_toL h0 h2)]
  simp
end
section
/- a logic that knows the claim's caller lies in the stack -/
noncomputable def Over (Γ : Ctx) : Prop := ∃ c p, (c, p) ∈ (Γ.code, (default : Pos)) :: Γ.below ∧ Code.isCaller c = true
noncomputable def OverB (Γ : Ctx) : Prop := ∃ c p, (c, p) ∈ Γ.below ∧ Code.isCaller c = true
theorem OverB.over {Γ : Ctx} (h : OverB Γ) : Over Γ := by
  obtain ⟨c, p, hm, hc⟩ := h
  exact ⟨c, p, List.mem_cons_of_mem _ hm, hc⟩
theorem Over.enter {Γ : Ctx} (h : Over Γ) (c : Code) (hd : Option Value) (p : Pos) : OverB (Γ.enter c hd p) := by
  obtain ⟨c', p', hm, hc⟩ := h
  rcases List.mem_cons.mp hm with e | hm
  · cases e; exact ⟨_, p, List.mem_cons_self, hc⟩
  · exact ⟨c', p', List.mem_cons_of_mem _ hm, hc⟩
section
variable {M : Model} {A : Around} {α β : Type} {s : Shared} {E : Value → Shared → Prop}
noncomputable def wpC (M : Model) (A : Around) (t : Sem α) (Q : α → Shared → Prop) (E : Value → Shared → Prop) (s : Shared) : Prop :=
  ∀ Γ p, Γ.In A → Over Γ → Sem.wp M Γ t (fun a _ s' => Q a s') (fun e _ s' => E e s') p s
noncomputable def codeC (M : Model) (A : Around) (c : Code) (R : Result → Shared → Prop) (s : Shared) : Prop :=
  ∀ Γ p, Γ.code = c → Γ.Below A → OverB Γ → wpCode M Γ R p s
theorem wpC.any {t : Sem α} {Q : α → Shared → Prop} (h : wpAny M A t Q E s) : wpC M A t Q E s := fun Γ p hΓ _ => h Γ p hΓ
theorem wpC.mono {t : Sem α} {Q Q' : α → Shared → Prop} {E' : Value → Shared → Prop} (h : wpC M A t Q E s) (hQ : ∀ a s, Q a s → Q' a s) (hE : ∀ e s, E e s → E' e s) : wpC M A t Q' E' s :=
  fun Γ p hΓ o => Sem.wp_mono M Γ t (fun a _ s => hQ a s) (fun e _ s => hE e s) p s (h Γ p hΓ o)
theorem wpC.bind {m : Sem α} {f : α → Sem β} {Q : β → Shared → Prop} (h : wpC M A m (fun a s' => wpC M A (f a) Q E s') E s) : wpC M A (m >>= f) Q E s := fun Γ p hΓ o => by
  rw [Sem.wp_bind']
  exact Sem.wp_mono M Γ m (fun a p' s' h' => h' Γ p' hΓ o) (fun _ _ _ h' => h') p s (h Γ p hΓ o)
theorem wpC.pure {a : α} {Q : α → Shared → Prop} (h : Q a s) : wpC M A (pure a) Q E s := .any (wpAny_pure h)
theorem wpC.onRaise {m : Sem α} {k : Value → Sem Unit} {Q : α → Shared → Prop}
    (h : wpC M A m Q (fun e s' => wpC M A (k e) (fun _ s'' => E e s'') E s') s) : wpC M A (m.onRaise k) Q E s := fun Γ p hΓ o => by
  rw [Sem.wp_onRaise]
  exact Sem.wp_mono M Γ m (fun _ _ _ h' => h') (fun e p' s' h' => h' Γ p' hΓ o) p s (h Γ p hΓ o)
theorem wpC.attempt {m : Sem α} {Q : Except Value α → Shared → Prop} (h : wpC M A m (fun a => Q (.ok a)) (fun e => Q (.error e)) s) : wpC M A m.attempt Q E s := fun Γ p hΓ o => by
  rw [Sem.wp_attempt]; exact h Γ p hΓ o
theorem wpC.holding {vs : List Value} {m : Sem α} {Q : α → Shared → Prop} (h : wpC M A m Q E s) : wpC M A (holding vs m) Q E s := fun Γ p hΓ o => by
  rw [Sem.wp_holding]; exact h Γ p hΓ o
theorem wpC.tryCatch {m : Sem α} {k : Value → Sem α} {Q : α → Shared → Prop} (h : wpC M A m Q (fun e s' => wpC M A (k e) Q E s') s) : wpC M A (m.tryCatch k) Q E s := fun Γ p hΓ o => by
  rw [Sem.wp_tryCatch]
  exact Sem.wp_mono M Γ m (fun _ _ _ h' => h') (fun e p' s' h' => h' Γ p' hΓ o) p s (h Γ p hΓ o)
theorem wpC.run {c : Code} {h : Option Value} {Q : Flow → Shared → Prop}
    (hc : codeC M (A.mark h) c (fun r s' => match r with | .ok f => Q f s' | .error e => E e s') s) (hnb : h ≠ some byPass := by intro x; cases x) : wpC M A (run c h) Q E s :=
  fun Γ p hΓ o => by rw [Sem.wp_run]; exact hc _ p rfl (hΓ.enter c h p hnb) (o.enter c h p)
theorem wpC.runValue {c : Code} {Q : Value → Shared → Prop}
    (hc : codeC M A c (fun r s' => match r with | .ok (.ret v) => Q v s' | .ok _ => False | .error e => E e s') s) : wpC M A (runValue c) Q E s :=
  fun Γ p hΓ o => by rw [Sem.wp_runValue]; exact hc _ p rfl (hΓ.enter c none p (by intro x; cases x)) (o.enter c none p)
theorem wpC.call {f : Value} {pos : List Value} {kw : List (Str × Value)} {Q : Value → Shared → Prop}
    (hc : codeC M A (.call f ⟨pos, kw⟩) (fun r s' => match r with | .ok (.ret v) => Q v s' | .ok _ => False | .error e => E e s') s) : wpC M A (PySem.call f pos kw) Q E s := wpC.runValue hc
theorem codeC.any {c : Code} {R : Result → Shared → Prop} (h : codeAny M A c R s) : codeC M A c R s := fun Γ p hc hΓ _ => h Γ p hc hΓ
theorem codeC.mono {c : Code} {R R' : Result → Shared → Prop} (h : codeC M A c R s) (hR : ∀ r s, R r s → R' r s) : codeC M A c R' s := fun Γ p hc hΓ o => wpCode_mono hR (h Γ p hc hΓ o)
theorem codeC.tree {c : Code} {R : Result → Shared → Prop}
    (h : wpC M (A.under c) (M.den c) (fun fin s' => match fin with | .done f => R (.ok f) s' | .again c' => c'.quiet = true ∧ codeC M A c' R s') (fun e s' => R (.error e) s') s) : codeC M A c R s := fun Γ p hc hΓ o => by
  rw [wpCode_iff_wp, hc]
  refine Sem.wp_mono M Γ _ (fun fin p' s' h' => ?_) (fun _ _ _ h' => h') p s (h Γ p (hc ▸ hΓ.in) o.over)
  cases fin with
  | done f => exact h'
  | again c' => exact ⟨h'.1, h'.2 (Γ.goto c') p' rfl (hΓ.goto c') o⟩
theorem wpC.stack {Q : List (Code × Pos) → Shared → Prop} (h : ∀ st : List (Code × Pos), (∃ c p, (c, p) ∈ st ∧ Code.isCaller c = true) → Q st s) : wpC M A stack Q E s := fun Γ p hΓ o => by
  show Q ((Γ.code, p) :: Γ.below) s
  refine h _ ?_
  obtain ⟨c', p', hm, hc⟩ := o
  rcases List.mem_cons.mp hm with e | hm
  · cases e; exact ⟨_, p, List.mem_cons_self, hc⟩
  · exact ⟨c', p', List.mem_cons_of_mem _ hm, hc⟩
theorem wpC.noMark {own : List String} {e : Value} {Q : Unit → Shared → Prop} (h : Q () s) : wpC M A (markTheRefusal own e) Q E s := by
  unfold markTheRefusal
  refine wpC.bind (wpC.stack fun st hst => ?_)
  have e : pythonCodeMadeTheCall own (st.map (·.1)) = false := by
    obtain ⟨c, p, hm, hc⟩ := hst
    unfold pythonCodeMadeTheCall
    rw [Bool.and_assoc, Bool.and_eq_false_iff]
    left
    rw [Bool.not_eq_false']
    exact List.any_eq_true.mpr ⟨c, List.mem_map.mpr ⟨(c, p), hm, rfl⟩, hc⟩
  rw [e]
  exact wpC.pure h
end
end
section
open PySem.Calls
section
variable {M : Model} {A : Around} {α β : Type} {s : Shared} {E : Value → Shared → Prop} {env : Env}
theorem wpC.bindA {m : Sem α} {f : α → Sem β} {Q : β → Shared → Prop} (h : wpAny M A m (fun a s' => wpC M A (f a) Q E s') E s) : wpC M A (m >>= f) Q E s := .bind (.any h)
theorem wpC.keep {vs : List Value} {m : Sem α} {Q : α → Shared → Prop} (h : wpC M A m Q E s) : wpC M A (m.keep vs) Q E s := fun Γ p hΓ o => by
  rw [Sem.wp_keep]; exact h Γ p hΓ o
theorem wpC.never {m : Sem α} {f : α → Sem β} {Q : β → Shared → Prop} (h : wpC M A m (fun _ _ => False) E s) : wpC M A (m >>= f) Q E s := .bind (h.mono (fun _ _ x => x.elim) fun _ _ x => x)
theorem wpC.execs_cons {st rest} {Q : Flow → Shared → Prop} (h : wpC M A (exec st env) (fun f s' => match f with | .next => wpC M A (execs rest env) Q E s' | f => Q f s') E s) : wpC M A (execs (st :: rest) env) Q E s := by
  rw [PySem.execs_cons]
  refine .bind (h.mono (fun f s' q => ?_) fun _ _ e => e)
  cases f <;> first | exact q | exact .pure q
/-- the statements ahead of a dangerous one are walked as ever -/
theorem wpC.execs_pre {Q : Flow → Shared → Prop} (rest : List Stmt) : ∀ (pre : List Stmt) (s : Shared), wpAny M A (execs pre env) (fun f s' => match f with | .next => wpC M A (execs rest env) Q E s' | f => Q f s') E s → wpC M A (execs (pre ++ rest) env) Q E s
  | [], s, h => fun Γ p hΓ o => (h Γ p hΓ : wpC M A (execs rest env) Q E s) Γ p hΓ o
  | st :: pre, s, h => fun Γ p hΓ o => by
    have h' := h Γ p hΓ
    rw [PySem.execs_cons, Sem.wp_bind'] at h'
    rw [List.cons_append, PySem.execs_cons, Sem.wp_bind']
    refine Sem.wp_mono M Γ _ (fun f p' s' q => ?_) (fun _ _ _ e => e) _ _ h'
    cases f with
    | next =>
      have key : ∀ (pre : List Stmt) (p' : Pos) (s' : Shared), Sem.wp M Γ (execs pre env) (fun a _ s' => (fun f s' => match f with | .next => wpC M A (execs rest env) Q E s' | f => Q f s') a s') (fun e _ s' => E e s') p' s' → Sem.wp M Γ (execs (pre ++ rest) env) (fun a _ s' => Q a s') (fun e _ s' => E e s') p' s' := by
        intro pre
        induction pre with
        | nil => intro p' s' q; exact (q : wpC M A (execs rest env) Q E s') Γ p' hΓ o
        | cons st pre ih =>
          intro p' s' q
          rw [PySem.execs_cons, Sem.wp_bind'] at q
          rw [List.cons_append, PySem.execs_cons, Sem.wp_bind']
          refine Sem.wp_mono M Γ _ (fun f p' s' q => ?_) (fun _ _ _ e => e) _ _ q
          cases f with
          | next => exact ih p' s' q
          | _ => exact q
      exact key pre p' s' q
    | _ => exact q
theorem wpC.execs_at {Q : Flow → Shared → Prop} {body : List Stmt} (n : Nat) (h : wpAny M A (execs (body.take n) env) (fun f s' => match f with | .next => wpC M A (execs (body.drop n) env) Q E s' | f => Q f s') E s) : wpC M A (execs body env) Q E s := by
  have := wpC.execs_pre (body.drop n) (body.take n) s h
  rwa [List.take_append_drop] at this
theorem wpC.If {test body orelse pos} {Q : Flow → Shared → Prop}
    (h : wpC M A (isTrue test env (eval test env)) (fun b s₂ => if b then wpC M A (execs body env) Q E s₂ else wpC M A (execs orelse env) Q E s₂) E s) :
    wpC M A (exec (.If test body orelse pos) env) Q E s := by
  rw [exec_If]
  refine .bindA (wpAny_standAt (.bind (h.mono (fun b s₂ q => ?_) fun _ _ e => e)))
  cases b <;> exact q
theorem wpC.isTrue_Compare1 {l op r pos whole} {Q : Bool → Shared → Prop}
    (h : wpC M A (eval l env) (fun a s₁ => wpAny M A (eval r env) (fun b s₂ => wpAny M A (compareOp op a b) (fun c s₃ => wpAny M A (truthy c) Q E s₃) E s₂) E s₁) E s)
    (hm : behindInMarks op r = false := by with_unfolding_all rfl) : wpC M A (isTrue (.Compare l [op] [r] pos) env whole) Q E s := by
  rw [PySem.isTrue_Compare1, markedBehindIn_of_false hm]
  refine .bind (h.mono (fun a s₁ q => .any fun Γ p hΓ => ?_) fun _ _ e => e)
  simp only [Sem.wp_bind', Sem.wp_holding, Sem.wp_cmd_standAt, Sem.wp_operate]
  exact Sem.wp_mono M Γ _ (fun b _ s₂ h₂ => Sem.wp_mono M Γ _ (fun c p₃ s₃ h₃ => h₃ Γ p₃ hΓ) (fun _ _ _ h' => h') _ _ (h₂ Γ _ hΓ)) (fun _ _ _ h' => h') _ _ (q Γ p hΓ)
theorem wpC.Return_some {e pos} {Q : Flow → Shared → Prop} (h : wpC M A (eval e env) (fun v => Q (.ret v)) E s) : wpC M A (exec (.Return (some e) pos) env) Q E s := by
  rw [exec_Return_some]
  exact .bindA (wpAny_standAt (.bind (h.mono (fun _ _ q => .pure q) fun _ _ e => e)))
theorem wpC.Assign_raises {x pos' value pos} {Q : Flow → Shared → Prop} (h : wpC M A (eval value env) (fun _ _ => False) E s)
    (hs : swapsWith value (some (.Name x pos')) pos.line env = Pure.pure false := by rfl) : wpC M A (exec (.Assign [.Name x pos'] value pos) env) Q E s := by
  rw [exec_Assign_Name env x pos' value pos hs]
  exact .bindA (wpAny_standAt (.never h))
theorem wpC.Call_Name {id : Str} {p pos : Pos} {args : List PySem.Expr} {Q : Value → Shared → Prop}
    (h : wpAny M A (eval (.Name id p) env) (fun f s₁ => wpC M A (callWith pos f [] (backTo pos (starEach args env)) []) Q E s₁) E s) :
    wpC M A (eval (.Call (.Name id p) args [] pos) env) Q E s := by
  rw [arm_eval_Call_Name']
  exact .bindA h
theorem wpC.tail {t : Sem Value} {Q : Value → Shared → Prop} (ht : wpC M A t Q E s) : wpC M A (t >>= fun r => PySem.holding [r] point >>= fun _ => Pure.pure r) Q E s :=
  .bind (ht.mono (fun r s₂ hr => .any (wpAny_bind (wpAny_holding (wpAny_point (wpAny_pure hr))))) fun _ _ x => x)
theorem wpC.callWith_type {pos : Pos} {T : String} {first : List Value} {args : List (Bool × Sem Value)} {Q : Value → Shared → Prop} (hplain : args.any (·.1) = false)
    (h : wpAny M A (evalArgs (.type T) true args []) (fun a s₁ => wpC M A (PySem.call (.type T) (first ++ a.pos) a.kw) Q E s₁) E s) : wpC M A (callWith pos (.type T) first args []) Q E s := by
  unfold callWith
  refine .bindA (wpAny_holding (wpAny_mono h (fun a s₁ h₁ => .bindA (wpAny_standAt ?_)) fun _ _ x => x))
  simp only [hplain, List.any_nil, Bool.or_false]
  exact .bindA (wpAny_pure (.tail h₁))
theorem wpC.callWith_function {pos : Pos} {a : Addr} {first : List Value} {args : List (Bool × Sem Value)} {Q : Value → Shared → Prop} (hplain : args.any (·.1) = false)
    (h : wpAny M A (evalArgs (.ref a) true args []) (fun x s₁ => (∃ o fd, s₁.heap.get? a = some o ∧ o.data = .func fd) ∧ wpC M A (PySem.call (.ref a) (first ++ x.pos) x.kw) Q E s₁) E s) :
    wpC M A (callWith pos (.ref a) first args []) Q E s := by
  unfold callWith
  refine .bindA (wpAny_holding (wpAny_mono h (fun x s₁ h₁ => .bindA (wpAny_standAt ?_)) fun _ _ x => x))
  simp only [hplain, List.any_nil, Bool.or_false]
  obtain ⟨⟨o, fd, ho, hfd⟩, h₁⟩ := h₁
  refine .bindA (m := keeperOf (.ref a)) ?_
  unfold keeperOf
  refine wpAny_bind (wpAny_load ho ?_)
  rw [hfd]
  refine wpAny_pure ?_
  dsimp only
  split
  · exact .tail h₁
  · refine .tail ?_
    unfold callMarked
    exact .keep h₁
noncomputable def AtDef (a : Addr) (P : Prop) (s : Shared) : Prop := (∃ o fd, s.heap.get? a = some o ∧ o.data = .func fd) ∧ P
theorem AtDef.intro {K : Frag} {a : Addr} {P : Prop} {s : Shared} {oc : Value} {od : Option Addr} {osl : Array (Option Value)} {fd : FuncData} (X : K.In s.heap) (ho : K.lookup a = some ⟨oc, od, .func fd, osl⟩) (h : P) : AtDef a P s := ⟨⟨_, fd, X _ _ ho, rfl⟩, h⟩
theorem wpC.callWith_def {pos : Pos} {a : Addr} {e : PySem.Expr} {rest : List PySem.Expr} {Q : Value → Shared → Prop}
    (h : wpAny M A (spliced (backTo pos (starEach (e :: rest) env))) (fun vs s₁ => AtDef a (wpC M A (PySem.call (.ref a) vs) Q E s₁) s₁) E s)
    (he : starEach (e :: rest) env = (false, eval e env) :: starEach rest env := by rfl)
    (hplain : (backTo pos (starEach rest env)).any (·.1) = false := by rfl) :
    wpC M A (callWith pos (.ref a) [] (backTo pos (starEach (e :: rest) env)) []) Q E s := by
  rw [he] at h ⊢
  exact .callWith_function (by show (false || (backTo pos (starEach rest env)).any (·.1)) = false; rw [hplain]; rfl) (evalArgs_plain h)
theorem wpC.callWith_type1 {pos : Pos} {T : String} {e : PySem.Expr} {rest : List PySem.Expr} {Q : Value → Shared → Prop}
    (h : wpAny M A (spliced (backTo pos (starEach (e :: rest) env))) (fun vs s₁ => wpC M A (PySem.call (.type T) vs) Q E s₁) E s)
    (he : starEach (e :: rest) env = (false, eval e env) :: starEach rest env := by rfl)
    (hplain : (backTo pos (starEach rest env)).any (·.1) = false := by rfl) :
    wpC M A (callWith pos (.type T) [] (backTo pos (starEach (e :: rest) env)) []) Q E s := by
  rw [he] at h ⊢
  exact .callWith_type (by show (false || (backTo pos (starEach rest env)).any (·.1)) = false; rw [hplain]; rfl) (evalArgs_plain h)
theorem wpC.Try_except {body orelse : List Stmt} {h₀ : ExceptHandler} {hs : List ExceptHandler} {pos : Pos} {Q : Flow → Shared → Prop}
    (h : wpC M A (execs body env) (fun f s₁ => match f with | .next => wpAny M A (execs orelse env) Q E s₁ | f => Q f s₁)
      (fun e s₁ => wpAny M A (noteFrame e env) (fun _ s₂ => wpAny M A (setFlight e none) (fun _ s₃ => wpAny M A (handleBy e env (h₀ :: hs)) Q E s₃) E s₂) E s₁) s) :
    wpC M A (exec (.Try body (h₀ :: hs) orelse [] pos) env) Q E s := by
  rw [arm_exec_Try]
  refine .bindA (wpAny_standAt ?_)
  unfold tryStmt
  simp only [List.isEmpty_nil, if_true, List.isEmpty_cons, Bool.false_and, Bool.false_eq_true, if_false]
  refine .bind (.attempt (h.mono (fun f s₁ h₁ => ?_) fun e s₁ h₁ => ?_))
  · cases f <;> first | exact .any h₁ | exact .pure h₁
  · exact .any (wpAny_bind (wpAny_mono h₁ (fun _ _ h₂ => wpAny_bind h₂) fun _ _ x => x))
end
end
section
open PySem.Calls
section
variable {prog : Program} {w : World} {A₀ A : Around} {E : Value → Shared → Prop} {R : Result → Shared → Prop} {s : Shared}
theorem codeC.func {body : List Stmt} {env : Env}
    (h : wpC (model prog w) (A.deeper env) (execs body env) (fun f s' => R (.ok (.ret (match f with | .ret v => v | _ => .none))) s')
      (fun e s' => wpAny (model prog w) (A.deeper env) (leaving env e) (fun _ s'' => R (.error e) s'') (fun e' s'' => R (.error e') s'') s') s) :
    codeC (model prog w) A (.func body env) R s := by
  refine codeC.tree ?_
  show wpC _ (A.deeper env) (do point; match ← (execs body env).onRaise (leaving env) with | .ret v => ret v | _ => ret .none) _ _ s
  refine .bindA (wpAny_point (.bind (.onRaise (h.mono (fun f s' h' => ?_) fun _ _ h' => .any h'))))
  cases f <;> exact .pure h'
theorem codeC.call_def {a : Addr} {o : Obj} {fd : FuncData} {body : List Stmt} {args : Args} {binds : List (Str × Value)}
    (hroom : A.depth < recursionLimit) (ho : s.heap.get? a = some o) (hdata : o.data = .func fd) (hlim : s.heap.NoLimit) (hcd : s.heap.CodeRec fd.code fd.qualname)
    (hbody : fd.body = .stmts body) (hbind : BindsTo s fd args binds)
    (hcell : ∀ x ∈ fd.scope.names, x.2 ≠ .cell) (hloc : ∀ x ∈ binds, fd.scope.names.lookup x.1 = some .local)
    (h : ∀ h₀, h₀.Ns s.heap.objs.size (fun x => binds.reverse.lookup x) → (∀ b o, s.heap.get? b = some o → h₀.get? b = some o) →
      wpC (model prog w) (A.deeper (callEnv fd s.heap.objs.size a)) (execs body (callEnv fd s.heap.objs.size a)) (fun f s' => R (.ok (.ret (match f with | .ret v => v | _ => .none))) s')
        (fun e s' => wpAny (model prog w) (A.deeper (callEnv fd s.heap.objs.size a)) (leaving (callEnv fd s.heap.objs.size a) e) (fun _ s'' => R (.error e) s'') (fun e' s'' => R (.error e') s'') s')
        { s with heap := h₀, toks := s.toks + binds.length })
    (hco : fd.scope.isCoroutine = false := by rfl) (hgen : fd.scope.isGenerator = false := by rfl) (hk : fd.scope.kind = .function := by rfl) :
    codeC (model prog w) A (.call (.ref a) args) R s := by
  refine codeC.tree (.any ?_)
  show wpAny _ A.in1 (callAny (.ref a) args) _ _ s
  simp only [callAny]
  refine wpAny_bind (wpAny_load ho ?_)
  obtain ⟨c, oc, vs, tq, hc, hoc, hdc, hq⟩ := hcd
  simp only [hdata, callFunction, hco, hgen, hbody, hc]
  refine wpAny_bind (m := field (.ref c) 1) (wpAny_field hoc hdc hq (wpAny_bind (wpAny_pure ?_)))
  refine wpAny_bind (hbind _ _ _ _ (wpAny_bind (wpAny_newFunctionEnv hcell hloc (fun h₀ hns₀ hsb₀ => wpAny_bind (wpAny_enterFrame (hlim.fresh _ hsb₀) hroom (wpAny_pure ⟨rfl, codeC.func ?_⟩))) hk)))
  have e : callEnv fd s.heap.objs.size a = newEnv fd.scope s.heap.objs.size fd.globals fd.closure (fd.qualname ++ ".<locals>.") (some a) (.ref c) none fd.builtins := by
    unfold callEnv
    rw [hc]
  rw [← e]
  exact h h₀ hns₀ fun b o e => hsb₀.extBut b o (Nat.ne_of_lt (Heap.lt_size e)) (Heap.get?_push_of_some _ e)
end
end
section
open PySem.Calls PySem.NumText
section
variable {prog : Program} {w : World} {A₀ A : Around} {E : Value → Shared → Prop} {R : Result → Shared → Prop} {s : Shared}
theorem wpC.yes {α : Type} {M : Model} {c : Prop} [Decidable c] {a b : Sem α} {Q : α → Shared → Prop} (hc : c) (h : wpC M A a Q E s) : wpC M A (if c then a else b) Q E s := by
  rw [if_pos hc]; exact h
theorem wpC.no {α : Type} {M : Model} {c : Prop} [Decidable c] {a b : Sem α} {Q : α → Shared → Prop} (hc : ¬ c) (h : wpC M A b Q E s) : wpC M A (if c then a else b) Q E s := by
  rw [if_neg hc]; exact h
theorem wpC.int_text {x : Str} {t : Tok} {text : List Nat} (hh : A.handled = none) (hs : (text.takeWhile (· != 0)).length ≤ 640) (hx : (reprText x).length ≤ sizeLine)
    (hr : (int_private% "readNumeral") 0 10 (text.takeWhile (· != 0)) = int_private% "Numeral.invalid")
    (h : ∀ h' tk e, Heap.NewExc s.heap h' e "ValueError" → E (.ref e) { s with heap := h', toks := tk }) :
    wpC (model prog w) A ((int_private% "intFromText") (.str x t) text 10) (fun _ _ => False) E s := by
  refine wpC.yes (c := (text.takeWhile (· != 0)).length ≤ 640) hs ?_
  dsimp only
  refine wpC.bindA (wpAny_pure ?_)
  rw [hr]
  dsimp only
  refine wpC.bindA (wpAny_pure ?_)
  refine wpC.no (by simp) ?_
  refine wpC.bindA (wpAny_rule ?_)
  refine wpC.bindA (wpAny_pure ?_)
  dsimp only
  refine wpC.bindA (wpAny_pyRepr_str ?_ hx)
  refine wpC.bindA (wpAny_mkStr ?_ ?_)
  · refine wpC.bindA (wpAny_newExc_plain plainExc_ValueError fun h' e hm => ?_)
    refine wpC.bind (wpC.noMark (.any (wpAny_raiseNew_none hh ?_)))
    exact h _ _ _ hm.newExc
  · have e : (⟨(reprText x).cps.extract 0 200⟩ : Str).length ≤ 200 := by
      show ((reprText x).cps.extract 0 200).size ≤ 200
      rw [Array.size_extract]; omega
    have e2 : (Str.ofString (toString "invalid literal for int() with base " ++ toString 10 ++ toString ": ") : Str).length ≤ 100 := by decide +kernel
    rw [Str.length_append, sizeLine_eq]
    omega
theorem wpC.of_eq {α : Type} {M : Model} {t u : Sem α} {Q : α → Shared → Prop} (e : t = u) (h : wpC M A u Q E s) : wpC M A t Q E s := e ▸ h
theorem codeC.builtin {id : String} {args : Args} {b : Builtin} (hb : entryFor table id = some b)
    (h : wpC (model prog w) (A.under (.builtin id args)) (b args) (fun fin s' => match fin with | .done f => R (.ok f) s' | .again c' => c'.quiet = true ∧ codeC (model prog w) A c' R s') (fun e s' => R (.error e) s') s) :
    codeC (model prog w) A (.builtin id args) R s := by
  refine codeC.tree ?_
  show wpC _ _ (match entryFor table id with | some b => b args | none => unsupported ((withoutEnding? id "#data").getD id)) _ _ s
  rw [hb]; exact h
theorem codeC.call_builtin {id : String} {args : Args} {b : Builtin} (hq : plainId id = true) (hb : entryFor table id = some b) (hc : checkBuiltinCall id args = Pure.pure ())
    (h : wpC (model prog w) A.in1 (b args) (fun fin s' => match fin with | .done f => R (.ok f) s' | .again c' => c'.quiet = true ∧ codeC (model prog w) A c' R s') (fun e s' => R (.error e) s') s) :
    codeC (model prog w) A (.call (.builtin id) args) R s := by
  refine codeC.tree ?_
  show wpC _ A.in1 (do checkBuiltinCall id args; again (.builtin id args)) _ _ s
  rw [hc]
  refine .bindA (wpAny_pure (.pure ⟨plainId_quiet hq args, codeC.builtin hb ?_⟩))
  rw [Around.under_plainId hq args]
  exact h
theorem wpC.type_call {T newId initId : String} {args : List Value} (ft : TypeCalled T newId initId) (hct : checkTypeCall T ⟨args, []⟩ = Pure.pure ())
    (h : wpC (model prog w) A (PySem.call (.builtin newId) (.type T :: args)) (fun _ _ => False) E s) : wpC (model prog w) A (Builtin.«type.__call__» ⟨.type T :: args, []⟩) (fun _ _ => False) E s := by
  obtain ⟨c, tl, hmro⟩ := ft.mro
  have hmade := ft.made
  have h1 := ft.notType
  have h2 := ft.canCreate
  unfold Builtin.«type.__call__»
  simp only [h1, h2, hct, hmro, hmade, pure_bind, if_false, Bool.false_eq_true, List.isEmpty_cons]
  refine wpC.never (.holding h)
theorem wpC.from_object {x : Str} {t : Tok} (hh : A.handled = none) (hs : x.length ≤ 640) (hx : (reprText x).length ≤ sizeLine)
    (hr : (int_private% "readNumeral") 0 10 (numSeenOf x) = int_private% "Numeral.invalid")
    (h : ∀ h' tk e, Heap.NewExc s.heap h' e "ValueError" → E (.ref e) { s with heap := h', toks := tk }) :
    wpC (model prog w) A ((int_private% "intFromObject") (.str x t)) (fun _ _ => False) E s := by
  have f3 := KIN.str_int
  have f4 := KIN.str_idx
  have f5 := KIN.str_trunc
  have f6 : typeOf (.str x t) = Pure.pure (.type "str") := rfl
  refine wpC.bindA (m := callSpecial? (.str x t) "__int__") ?_
  repeat (any_goals (first | assumption | wp_step))
  dsimp only
  refine wpC.bindA ?_
  repeat (any_goals (first | assumption | wp_step))
  refine wpC.no (by simp) ?_
  refine wpC.bindA ?_
  repeat (any_goals (first | assumption | wp_step))
  dsimp only
  refine wpC.bindA ?_
  repeat (any_goals (first | assumption | wp_step))
  all_goals exact wpC.int_text hh (Nat.le_trans (seen_length x) hs) hx hr h
theorem int_new_bad {x : Str} {t : Tok} (hh : A.handled = none) (hs : x.length ≤ 640) (hx : (reprText x).length ≤ sizeLine)
    (hr : (int_private% "readNumeral") 0 10 (numSeenOf x) = int_private% "Numeral.invalid")
    (h : ∀ h' tk e, Heap.NewExc s.heap h' e "ValueError" → E (.ref e) { s with heap := h', toks := tk }) :
    wpC (model prog w) A (Builtin.«int.__new__» ⟨[.type "int", .str x t], []⟩) (fun _ _ => False) E s := by
  have f1 := F.conv_sub_int
  have f2 := F.madeHere_int
  unfold Builtin.«int.__new__»
  dsimp only
  refine wpC.bindA ?_
  repeat (any_goals (first | assumption | wp_step))
  refine wpC.no (by decide) ?_
  refine wpC.bindA ?_
  repeat (any_goals (first | assumption | wp_step))
  refine wpC.no (by decide) ?_
  refine wpC.bindA ?_
  repeat (any_goals (first | assumption | wp_step))
  refine wpC.no (by simp) ?_
  refine wpC.no (by simp) ?_
  refine wpC.bindA (m := Pure.pure PUnit.unit) (wpAny_pure ?_)
  dsimp only [List.head?]
  refine wpC.never (wpC.from_object hh hs hx hr h)
/-- int() of a text that is no number, the claim's caller in the stack -/
theorem wpC.int_bad {x : Str} {t : Tok} (hh : A.handled = none) (hs : x.length ≤ 640) (hx : (reprText x).length ≤ sizeLine)
    (hr : (int_private% "readNumeral") 0 10 (numSeenOf x) = int_private% "Numeral.invalid")
    (h : ∀ h' tk e, Heap.NewExc s.heap h' e "ValueError" → E (.ref e) { s with heap := h', toks := tk }) :
    wpC (model prog w) A (PySem.call (.type "int") [.str x t]) (fun _ _ => False) E s := by
  refine wpC.call (codeC.tree ?_)
  show wpC _ _ (callAny (.type "int") _) _ _ _
  refine .pure ⟨Code.quiet_builtin _ (by decide +kernel), codeC.builtin F.entry_type_call ?_⟩
  rw [Around.under_plain (weight_type_call_type "int" [.str x t] []) (units_type_call_type "int" [.str x t] [])]
  refine (wpC.type_call F.called_int (F.typeCall_int_1 (.str x t)) (wpC.call (codeC.call_builtin F.called_int.plain F.entry_int_new (F.newCall_int_1 _) ((int_new_bad (A := A.in1.in1) hh hs hx hr h).mono (fun _ _ x => x.elim) fun _ _ e => ?_)))).mono (fun _ _ x => x.elim) fun _ _ e => e
  exact e
end
end
section
open PySem.Calls PySem.W.TLgL
section
variable {prog : Program} {w : World} {A₀ A : Around} {s : Shared} {base h₀ : Heap} {env : Env} {L : Addr} {m : Str → Option Value} {news : List (Addr × Obj)} {K : Frag} {p : Program} {loose : List Str} {mean : ExcName → Option Value} {mg mb : Str → Option Value}
    {R : Result → Shared → Prop} {name qual : Str} {params : Arguments} {body : List Stmt} {scope : Scope} {dV kV doc pm cdv ct oc : Value} {an od : Option Addr} {osl : Array (Option Value)} {f : Addr} {args : Args} {binds : List (Str × Value)}

/-- a def that bears a try, the claim's caller in the stack -/
theorem code_tryC (B : Below A₀ base [] h₀) (F : Fr h₀ L s.heap m) (X₀ : K.In h₀) (N : News h₀ L s.heap news) (T : Top p loose mean mg mb h₀) (hA : A.frames = some [env]) (hfr : env.frame = some L) (hke : env.scope.kind = .function)
    (ho : K.lookup f = some ⟨oc, od, .func (fnOf name qual params body scope dV kV doc pm an cdv ct), osl⟩) (hcd : codeIn K cdv qual = true) (hroom : A.depth < recursionLimit)
    (hbind : BindsTo s (fnOf name qual params body scope dV kV doc pm an cdv ct) args binds) (hloc : ∀ y ∈ binds, scope.names.lookup y.1 = some .local)
    (h : ∀ g L' h₁, Fr h₀ L g m → Fr g L' h₁ (fun y => binds.reverse.lookup y) → News g L' h₁ news → Below A base [env] g → K.In g → Top p loose mean mg mb g → KtsDicts ([env].filterMap (·.frame)) g →
      wpC (model prog w) (A.deeper (envOf qual scope L' f cdv)) (execs body (envOf qual scope L' f cdv))
        (fun fl s' => LeaveS0 ([env].filterMap (·.frame)) h₀ L m g R (match fl with | .ret v => v | _ => .none) s')
        (fun e s' => wpAny (model prog w) (A.deeper (envOf qual scope L' f cdv)) (leaving (envOf qual scope L' f cdv) e) (fun _ s'' => R (.error e) s'') (fun e' s'' => R (.error e') s'') s')
        { s with heap := h₁, toks := s.toks + binds.length })
    (hco : scope.isCoroutine = false) (hgen : scope.isGenerator = false) (hk : scope.kind = .function)
    (hcell : ∀ x ∈ scope.names, x.2 ≠ .cell) : codeC (model prog w) A (.call (.ref f) args) R s := by
  have X := X₀.keeps F.keep
  obtain ⟨FG, BG, st, -⟩ := groundX (R := R) B F N hA hfr hke
  have only : ∀ b, b ∈ [env].filterMap (·.frame) → b = L := fun b hb => by
    simp only [List.filterMap_cons, hfr, List.filterMap_nil, List.mem_singleton] at hb
    exact hb
  obtain ⟨oL, es, ep, hLg, hLd, hLk, hLf⟩ := FG.ns
  refine codeC.call_def (fd := fnOf name qual params body scope dV kV doc pm an cdv ct) (body := body) (binds := binds) hroom (X _ _ ho) rfl (T.nolimit.keeps F.keep) (codeRec_of X hcd) rfl hbind hcell hloc (fun h₁ hns hk₁ => ?_) hco hgen hk
  refine wpC.mono (h _ s.heap.objs.size h₁ FG ⟨hns, fun b o e => hk₁ b o (of_hideAll _ e), Nat.le_of_eq (hideAll_size _ _)⟩
    (fun q hq => ⟨hk₁ _ _ (N q hq).1, Nat.ne_of_lt (Heap.lt_size (N q hq).1), hideAll_none _ (List.mem_map_of_mem hq)⟩) BG (X₀.keeps st) (T.keeps st) (fun b hb => by
      rw [only b hb]
      exact ⟨oL, es, ep, hLg, hLd⟩)) (fun fl s' hl => ?_) fun _ _ y => y
  obtain ⟨g', L', m', news', T', F', N', k⟩ := hl
  have nL₀ : h₀.get? L = none := kts_self F
  obtain ⟨sl, hs⟩ := T'.up hLg
  refine k ⟨⟨_, es, ep, F'.keep _ _ hs, hLd, hLk, hLf⟩, fun b o e => F'.keep b o (T'.other b o (st b o e) fun q => by
    rw [only b q, nL₀] at e
    cases e), F.above⟩ fun q hq => ⟨(N' q hq).1, fun z => ?_, ?_⟩
  · have := (N' q hq).2.2
    rw [z, hs] at this
    cases this
  · cases z : h₀.get? q.1 with
    | none => rfl
    | some o =>
      obtain ⟨sl', hs'⟩ := T'.up (st _ _ z)
      have := (N' q hq).2.2
      rw [hs'] at this
      cases this
/-- a def called, the claim's caller in the stack -/
theorem code_defK {outer : List Env} (B : Below A₀ base outer h₀) (F : Fr h₀ L s.heap m) (X₀ : K.In h₀) (N : News h₀ L s.heap news) (T : Top p loose mean mg mb h₀) (hA : A.frames = some (env :: outer)) (hfr : env.frame = some L) (hke : env.scope.kind = .function)
    (ho : K.lookup f = some ⟨oc, od, .func (fnOf name qual params body scope dV kV doc pm an cdv ct), osl⟩) (hcd : codeIn K cdv qual = true) (hroom : A.depth < recursionLimit)
    (hbind : BindsTo s (fnOf name qual params body scope dV kV doc pm an cdv ct) args binds) (hloc : ∀ y ∈ binds, scope.names.lookup y.1 = some .local)
    (h : ∀ g L' h₁, Fr h₀ L g m → Fr g L' h₁ (fun y => binds.reverse.lookup y) → News g L' h₁ news → Below A base (env :: outer) g → K.In g → Top p loose mean mg mb g →
      wpC (model prog w) (A.deeper (envOf qual scope L' f cdv)) (execs body (envOf qual scope L' f cdv))
        (fun fl s' => LeaveK h₀ L m g R (match fl with | .ret v => v | _ => .none) s')
        (fun e s' => wpAny (model prog w) (A.deeper (envOf qual scope L' f cdv)) (leaving (envOf qual scope L' f cdv) e) (fun _ s'' => R (.error e) s'') (fun e' s'' => R (.error e') s'') s')
        { s with heap := h₁, toks := s.toks + binds.length })
    (hco : scope.isCoroutine = false) (hgen : scope.isGenerator = false) (hk : scope.kind = .function)
    (hcell : ∀ x ∈ scope.names, x.2 ≠ .cell) : codeC (model prog w) A (.call (.ref f) args) R s := by
  have X := X₀.keeps F.keep
  obtain ⟨FG, BG, st, lv⟩ := groundX (R := R) B F N hA hfr hke
  refine codeC.call_def (fd := fnOf name qual params body scope dV kV doc pm an cdv ct) (body := body) (binds := binds) hroom (X _ _ ho) rfl (T.nolimit.keeps F.keep) (codeRec_of X hcd) rfl hbind hcell hloc (fun h₁ hns hk₁ => ?_) hco hgen hk
  exact (h _ s.heap.objs.size h₁ FG ⟨hns, fun b o e => hk₁ b o (of_hideAll _ e), Nat.le_of_eq (hideAll_size _ _)⟩
    (fun q hq => ⟨hk₁ _ _ (N q hq).1, Nat.ne_of_lt (Heap.lt_size (N q hq).1), hideAll_none _ (List.mem_map_of_mem hq)⟩) BG (X₀.keeps st) (T.keeps st)).mono (fun fl s' hl => lv _ _ hl) fun _ _ y => y
end
end
section
open PySem.Calls
section
variable {prog : Program} {w : World} {A : Around} {E : Value → Shared → Prop} {R : Result → Shared → Prop} {s : Shared}
theorem codeC.call_fn {a : Addr} {o : Obj} {fd : FuncData} {body : List Stmt} {args : Args} (hroom : A.depth < recursionLimit) (ho : s.heap.get? a = some o) (hdata : o.data = .func fd) (hcd : s.heap.CodeRec fd.code fd.qualname) (hbody : fd.body = .stmts body)
    (h : wpAny (model prog w) A.in1 (bindArgs fd args) (fun binds s₁ => wpAny (model prog w) A.in1 (newFunctionEnv fd.scope fd.globals fd.closure binds (fd.qualname ++ ".<locals>.") (some a) fd.code none fd.builtins)
      (fun env s₂ => s₂.heap.NoLimit ∧ codeC (model prog w) A (.func body env) R s₂) (fun e s' => R (.error e) s') s₁) (fun e s' => R (.error e) s') s)
    (hco : fd.scope.isCoroutine = false) (hgen : fd.scope.isGenerator = false) : codeC (model prog w) A (.call (.ref a) args) R s := by
  refine codeC.tree (.any ?_)
  show wpAny _ A.in1 (callAny (.ref a) args) _ _ s
  simp only [callAny]
  refine wpAny_bind (wpAny_load ho ?_)
  obtain ⟨c, oc, vs, tq, hc, hoc, hdc, hq⟩ := hcd
  simp only [hdata, callFunction, hco, hgen, hbody, hc]
  rw [hc] at h
  refine wpAny_bind (m := field (.ref c) 1) (wpAny_field hoc hdc hq (wpAny_bind (wpAny_pure ?_)))
  exact wpAny_bind (wpAny_mono h (fun binds s₁ h₁ => wpAny_bind (wpAny_mono h₁ (fun env s₂ h₂ => wpAny_bind (wpAny_enterFrame h₂.1 hroom (wpAny_pure ⟨rfl, h₂.2⟩))) fun _ _ x => x)) fun _ _ x => x)
theorem codeC.call_cellsN {name : Str} {params : Arguments} {body : List Stmt} {scope : Scope} {pm cd doc : Value} {a : Addr} {o : Obj} {args : List Value} {binds : List (Str × Value)}
    (hroom : A.depth < recursionLimit) (ho : s.heap.get? a = some o) (hdata : o.data = .func (Calls.docDef name params body scope pm cd doc)) (hlim : s.heap.NoLimit) (hcd : s.heap.CodeRec cd name)
    (hbind : bindArgs (Calls.docDef name params body scope pm cd doc) ⟨args, []⟩ = Pure.pure binds)
    (hkind : ∀ x ∈ binds, scope.names.lookup x.1 = some .local ∨ (scope.names.lookup x.1 = some .cell ∧ ((cellsFrom (s.heap.objs.size + 1) scope.names []).lookup x.1).isSome = true))
    (hnd : ((cellsFrom 0 scope.names []).map (·.1)).Nodup)
    (h : ∀ h₁ tk cells, Fr s.heap s.heap.objs.size h₁ (bindL (envOfC name scope s.heap.objs.size a cd).kindOf binds fun _ => none) → News s.heap s.heap.objs.size h₁ cells →
      CellsAre (bindC (envOfC name scope s.heap.objs.size a cd).kindOf binds fun _ => none) (cellsFrom (s.heap.objs.size + 1) scope.names []) cells →
      wpC (model prog w) (A.deeper (envOfC name scope s.heap.objs.size a cd)) (execs body (envOfC name scope s.heap.objs.size a cd))
        (fun f s' => R (.ok (.ret (match f with | .ret v => v | _ => .none))) s')
        (fun e s' => wpAny (model prog w) (A.deeper (envOfC name scope s.heap.objs.size a cd)) (leaving (envOfC name scope s.heap.objs.size a cd) e) (fun _ s'' => R (.error e) s'') (fun e' s'' => R (.error e') s'') s')
        { s with heap := h₁, toks := tk })
    (hco : scope.isCoroutine = false := by rfl) (hgen : scope.isGenerator = false := by rfl) (hk : scope.kind = .function := by rfl) :
    codeC (model prog w) A (.call (.ref a) ⟨args, []⟩) R s := by
  refine codeC.call_fn (fd := Calls.docDef name params body scope pm cd doc) hroom ho hdata hcd rfl ?_ hco hgen
  rw [hbind]
  refine wpAny_pure (wpAny_newFunctionEnv_cells hk hkind fun env he s' x => ?_)
  subst he
  refine ⟨hlim.keeps x.toInCall.keep, codeC.func ?_⟩
  obtain ⟨h₁, tk, rfl, _⟩ := x.done
  have X : Cl s.heap.objs.size (cellsFrom (s.heap.objs.size + 1) scope.names []) h₁ (bindC (envOfC name scope s.heap.objs.size a cd).kindOf binds fun _ => none) := ⟨x.cell, x.apart, x.above⟩
  obtain ⟨cells, N, Y⟩ := Cl.news (h₀ := s.heap) (Nat.le_refl _) fun n c hm => ⟨X.cell n c (lookup_of_mem_nodup (cellsFrom_names scope.names 0 (s.heap.objs.size + 1) [] [] rfl ▸ hnd) hm), X.above n c hm⟩
  exact h h₁ tk cells ⟨x.toInCall.ns, x.toInCall.keep, x.toInCall.fresh⟩ N Y
theorem codeC.loop {M : Model} {c : Code} (hq : c.quiet = true) (I : Nat → Shared → Prop)
    (turn : ∀ n s, I n s → wpC M (A.under c) (M.den c) (fun fin s' => match fin with
      | .done f => R (.ok f) s'
      | .again c' => (c' = c ∧ ∃ m, m < n ∧ I m s') ∨ (c'.quiet = true ∧ codeC M A c' R s')) (fun e s' => R (.error e) s') s) :
    ∀ (n : Nat) (s : Shared), I n s → codeC M A c R s := by
  intro n
  induction n using Nat.strongRecOn with
  | ind n ih =>
    intro s h
    refine codeC.tree ((turn n s h).mono (fun fin s' hf => ?_) fun _ _ e => e)
    cases fin with
    | done f => exact hf
    | again c' =>
      rcases hf with ⟨rfl, m, hm, hI⟩ | hf
      · exact ⟨hq, ih m hm s' hI⟩
      · exact hf
theorem codeC.forLoop {target : PySem.Expr} {it : Value} {body : List Stmt} {env : Env} (I : Nat → Shared → Prop)
    (turn : ∀ n s, I n s → wpAny (model prog w) A (pyNext it) (fun r s₁ => match r with
      | none => R (.ok .next) s₁
      | some v => wpAny (model prog w) A (assign target env v) (fun _ s₂ => wpC (model prog w) A (execs body env) (fun f s₃ => match f with
          | .next | .cont => ∃ m, m < n ∧ I m s₃
          | .brk => R (.ok .next) s₃
          | .ret v => R (.ok (.ret v)) s₃) (fun _ _ => False) s₂) (fun _ _ => False) s₁) (fun _ _ => False) s)
    (n : Nat) (h : I n s) (ht : ∀ v, letOwnedTupleGo target it v = Pure.pure () := by intro _; rfl) : codeC (model prog w) A (.forLoop target it body [] env) R s := by
  refine codeC.loop rfl I (fun n s hI => ?_) n s h
  show wpC _ _ ((forTurn target it body [] env).onRaise (fun x => do noteFrame x env; theTreesLotGoes x)) _ _ s
  refine .onRaise (wpC.mono (E := fun _ _ => False) ?_ (fun _ _ q => q) fun _ _ e => e.elim)
  simp only [forTurn]
  refine .bindA (wpAny_standAt (.bindA (wpAny_onRaise (wpAny_mono (turn n s hI) (fun r s₁ h₁ => ?_) fun _ _ e => e.elim))))
  cases r with
  | none => exact .pure (.inr ⟨rfl, codeC.any (codeAny_block (wpAny_execs_nil h₁))⟩)
  | some v =>
    refine .bindA (wpAny_of_eq (ht v) (.bindA (wpAny_mono h₁ (fun _ s₂ h₂ => .bind (h₂.mono (fun f s₃ h₃ => ?_) fun _ _ e => e)) fun _ _ e => e)))
    cases f with
    | next => exact .pure (.inl ⟨rfl, h₃⟩)
    | cont => exact .pure (.inl ⟨rfl, h₃⟩)
    | brk => exact .pure h₃
    | ret v => exact .pure h₃
theorem wpC.For {target iter : PySem.Expr} {body : List Stmt} {pos : Pos} {env : Env} {Q : Flow → Shared → Prop}
    (h : wpAny (model prog w) A (eval iter env) (fun x s₁ => wpAny (model prog w) A (pyIter x) (fun it s₂ => codeC (model prog w) A (.forLoop target it body [] env) (fun r s' => match r with | .ok f => Q f s' | .error _ => False) s₂) E s₁) E s)
    (hs : ∀ x, foldedSetIterable iter env x = Pure.pure x := by intro _; rfl) : wpC (model prog w) A (exec (.For target iter body [] pos) env) Q E s := by
  rw [exec_For]
  refine .bindA (wpAny_standAt (.bindA (wpAny_mono h (fun x s₁ h₁ => .bindA (wpAny_of_eq (hs x) (.bindA (wpAny_standAt (.bindA (wpAny_holding (wpAny_mono h₁ (fun it s₂ h₂ => ?_) fun _ _ e => e))))))) fun _ _ e => e)))
  unfold runOwn
  refine .onRaise (wpC.run (codeC.mono (R := fun r s' => match r with | .ok f => Q f s' | .error _ => False) h₂ (fun r s' q => ?_)))
  cases r with
  | ok f => exact q
  | error e => exact q.elim
end
end
section
open PySem.Calls PySem.Spec
section
variable {prog : Program} {w : World} {A : Around} {E : Value → Shared → Prop} {R : Result → Shared → Prop} {s : Shared} {env : Env} {h₀ : Heap}
noncomputable def TurnC (h₀ : Heap) (L : Addr) (wr : List Addr) (own : List (Addr × Obj)) (Jn : (Str → Option Value) → List (Addr × Obj) → Prop) (s₁ : Shared) (Qr : Value → Shared → Prop) (f : Flow) (s₂ : Shared) : Prop :=
  match f with
  | .ret v => Qr v s₂
  | .next => LoopStepU h₀ L wr own Jn s₁ .next s₂
  | _ => False
/-- a loop over anything that is walked, the claim's caller in the stack -/
theorem codeC.forWalk {x : Str} {px : Pos} {body : List Stmt} {I : Addr} {fp wr : List Addr} {n : Nat} {P : Nat → Value → Prop} {St : Nat → Heap → Prop} {m : Str → Option Value} {news : List (Addr × Obj)}
    (W : Walks prog w A I fp wr n P St) (hx : env.kindOf x = some .local) (hp : (env.scope.kind == .class || (env.scope.kind == .module && env.locals != env.globals)) = false)
    (hLf : env.locals ∉ fp) (hwr : ∀ b ∈ wr, h₀.get? b = none) (hnw : ∀ p ∈ news, p.1 ∉ wr) (hst : St 0 s.heap) (F : Fr h₀ env.locals s.heap m) (N : News h₀ env.locals s.heap news)
    (J : Nat → (Str → Option Value) → List (Addr × Obj) → Prop) (h0 : J 0 m news)
    (step : ∀ i v m₁ news₁ s₁ own, (∃ h tk, s₁ = { s with heap := h, toks := tk }) → i < n → P i v → J i m₁ news₁ → (∀ p ∈ news₁, p.1 ∉ wr) → (∀ p ∈ own, p.1 ∈ fp) → (∀ p ∈ own, s₁.heap.get? p.1 = some p.2) → (∀ b ∈ fp, h₀.get? b = none → ∀ o, s₁.heap.get? b = some o → (b, o) ∈ own) → St (i + 1) s₁.heap →
      Fr h₀ env.locals s₁.heap (fun y => if y = x then some v else m₁ y) → News h₀ env.locals s₁.heap (own ++ news₁) →
      wpC (model prog w) A (execs body env) (TurnC h₀ env.locals wr own (J (i + 1)) s₁ fun v s' => R (.ok (.ret v)) s') (fun _ _ => False) s₁)
    (out : ∀ h' tk m' news', Fr h₀ env.locals h' m' → News h₀ env.locals h' news' → (∀ p ∈ news', p.1 ∉ wr) → J n m' news' → R (.ok .next) { s with heap := h', toks := tk }) :
    codeC (model prog w) A (.forLoop (.Name x px) (.ref I) body [] env) R s := by
  have hLw : env.locals ∉ wr := fun h => hLf (W.sub _ h)
  have old : ∀ b o, h₀.get? b = some o → b ∉ wr := fun b o e hb => by
    rw [hwr b hb] at e
    cases e
  let Inv : Nat → Shared → Prop := fun k s' => ∃ h' tk m' news' i, s' = { s with heap := h', toks := tk } ∧ St i h' ∧ Fr h₀ env.locals h' m' ∧ News h₀ env.locals h' news' ∧ (∀ p ∈ news', p.1 ∉ wr) ∧ J i m' news' ∧ i ≤ n ∧ k = n + 1 - i
  refine codeC.forLoop Inv ?_ (n + 1) ⟨s.heap, s.toks, m, news, 0, rfl, hst, F, N, hnw, h0, Nat.zero_le _, rfl⟩
  rintro k s' ⟨h', tk, m', news', i, rfl, hst', F', N', hnw', hJ, hi, rfl⟩
  have kept : ∀ h₁ : Heap, (∀ b o, b ∉ wr → h'.get? b = some o → h₁.get? b = some o) → Fr h₀ env.locals h₁ m' ∧ News h₀ env.locals h₁ news' := fun h₁ hk₁ =>
    ⟨⟨F'.ns.at' fun o e => hk₁ _ o hLw e, fun b o e => hk₁ b o (old b o e) (F'.keep b o e), F'.above⟩, fun p hp => ⟨hk₁ _ _ (hnw' p hp) (N' p hp).1, (N' p hp).2⟩⟩
  rcases Nat.lt_or_ge i n with hlt | hge
  · refine W.item i _ _ _ hlt hst' fun v h₁ tk₁ hP hst₁ hk₁ => ?_
    obtain ⟨F₁, N₁⟩ := kept h₁ hk₁
    refine wpAny_assign_Name (wpAny_storeName_local hx F₁.ns (fun h₂ hn₂ hs₂ => ?_) hp)
    have F₂ := F₁.set hn₂ hs₂
    have Nown : News h₀ env.locals h₂ (ownOf h₀ fp h₂) := news_ownOf hLf
    have same : ∀ b ∈ fp, h₂.get? b = h₁.get? b := fun b hb => hs₂.2 b fun q => hLf (q ▸ hb)
    have hst₂ : St (i + 1) h₂ := W.frame _ _ _ hst₁ fun b hb o e => (same b hb).trans e
    refine (step i v m' news' _ (ownOf h₀ fp h₂) ⟨_, _, rfl⟩ hlt hP hJ hnw' ownOf_sub (fun p hp => (Nown p hp).1) (fun b hb hn o e => mem_ownOf hb hn e) hst₂ F₂ (Nown.append (N₁.set hs₂))).mono (fun f s₃ h₃ => ?_) fun _ _ e => e
    cases f with
    | ret v => exact h₃
    | brk => exact h₃.elim
    | cont => exact h₃.elim
    | next =>
      obtain ⟨_, h₃', tk₃, m₂, news₂, rfl, F₃, N₃, ha₃, hJ₃⟩ := h₃
      refine ⟨n + 1 - (i + 1), by omega, h₃', tk₃, m₂, news₂, i + 1, rfl, ?_, F₃, N₃.right, ha₃, hJ₃, hlt, rfl⟩
      refine W.frame _ _ _ hst₁ fun b hb o e => ?_
      have e₂ : h₂.get? b = some o := (same b hb).trans e
      cases hn : h₀.get? b with
      | none => exact (N₃ _ (List.mem_append_left _ (mem_ownOf hb hn e₂))).1
      | some o₀ =>
        have q : some o₀ = some o := (F₂.keep b o₀ hn).symm.trans e₂
        cases q
        exact F₃.keep b o hn
  · obtain rfl : i = n := Nat.le_antisymm hi hge
    refine W.done _ _ _ hst' fun h₁ tk₁ hk₁ => ?_
    obtain ⟨F₁, N₁⟩ := kept h₁ hk₁
    exact out h₁ tk₁ m' news' F₁ N₁ hnw' hJ
end
/-- the law's walk, the claim's caller in the stack -/
noncomputable def WalkC (q : Program) (loose : List Str) (XP : (Str → Option Value) → Heap → Prop) (YP : World → Heap → Prop) (r : RowW) (d : DefRec) (kwd : List (Str × PySem.Expr)) : Prop :=
  ∀ (w : World) (s₀ s₁ : Shared) (mg mb : Str → Option Value), Ground q loose r.records XP w s₀ mg mb s₁.heap → YP w s₁.heap → ∀ (a : Addr) (o : Obj) (pm cd doc dV kV : Value), s₁.heap.get? a = some o →
    o.data = .func { docDef d.name d.params d.body d.scope pm cd doc with defaults := dV, kwdefaults := kV } → s₁.heap.CodeRec cd d.name → Dflts mg s₁.heap d.params kwd dV kV → mg d.name = some (.ref a) → s₁.gens = #[] →
    ∀ (args : List WData) (vals : List Value) (as : List Addr), r.claim.pre args = true → WData.layableAll args = true → ReadsAllW r.records (classAt s₀.heap) s₁.heap vals args as → WellAll w.params s₁.heap vals args → (∀ a ∈ as, (a == sysModules) = false) →
      wpC (model r.prog w) callerA (PySem.call (.ref a) vals) (fun v s' => GoodWG r.claim (classAt s₀.heap) (ExcName.means s₀.heap) args s₁ (.ok (.ret v)) s')
        (fun e s' => GoodWG r.claim (classAt s₀.heap) (ExcName.means s₀.heap) args s₁ (.error e) s') s₁
theorem caller_over : Over (⟨.builtin "claim.caller" {}, none, none, [], none⟩ : PySem.Ctx) := ⟨.builtin "claim.caller" {}, default, List.mem_cons_self, rfl⟩
theorem ends_over {prog : Program} {w : World} {t : Sem Fin} {s : Shared} {R : Result → Shared → Prop} (hreg : s.asleep)
    (h : wpC (model prog w) callerA t (fun fin s' => ∃ f, fin = .done f ∧ (R (.ok f) s' ∧ leftWithCleanup s'.gens = false)) (fun e s' => R (.error e) s' ∧ leftWithCleanup s'.gens = false) s) :
    ∃ n r s' s'', runN (denote table) prog w n s ⟨t, .builtin "claim.caller" {}, default, []⟩ = .halted (outcomeOf r) s' ∧
      schedN (denote table) prog w n (.single s ⟨t, .builtin "claim.caller" {}, default, []⟩) = .halted (outcomeOf r) s' ∧ s'.forget = s''.forget ∧ R r s'' := by
  have hq := Sem.wp_mono (model prog w) _ t (post' := Sem.finPost (model prog w) ⟨.builtin "claim.caller" {}, none, none, [], none⟩ fun r s' => R r s' ∧ leftWithCleanup s'.gens = false)
    (fun fin p' s' (h' : ∃ f, fin = .done f ∧ (R (.ok f) s' ∧ leftWithCleanup s'.gens = false)) => by obtain ⟨f, rfl, hf⟩ := h'; exact hf) (fun _ _ _ h' => h') default s (h _ default caller_in caller_over)
  obtain ⟨n, r, s₁, s₂, hs, hn, hfo, hR⟩ := wp_halts_full (M := model prog w) (R := R) hreg hq
  exact ⟨n, r, s₂, s₁, hn, hs, hfo, hR⟩
/-- the claim holds, by a walk that may lean on the caller in the stack -/
theorem holds_over {r : OpenRow} {q : Program} {loose : List Str} {Xt : Shared → Bool} {XP : (Str → Option Value) → Heap → Prop} {α : Type} {Yf : Shared → α} {Ya : World → α} {YP : World → Heap → Prop} {d : DefRec} {kwd : List (Str × PySem.Expr)} {N : Nat}
    (left : LeftO r.prog q loose Xt Yf Ya N) (hY : ∀ w s, Yf s = Ya w → YP w s.heap) (hYk : ∀ w h h', YP w h → (∀ b o, h.get? b = some o → h'.get? b = some o) → YP w h')
    (hX : ∀ s, Xt s = true → XP (s.heap.nsMap mainGlobals) s.heap) (hXk : ∀ mg h h', XP mg h → (∀ b o, h.get? b = some o → h'.get? b = some o) → XP mg h')
    (hdef : defOf q r.name = some (d, kwd)) (hp : r.prog.theDef r.name = some (d.params, d.body, d.scope)) (hk : kwWritten? d.params.kwonlyargs d.params.kw_defaults = some kwd) (hRf : ∀ s, Xt s = true → RecFacts r.records s.heap) (hwr : (!r.writes || r.records.isEmpty) = true)
    (k1 : r.wellSaid = true) (ok : (chainsOk q && opensWell r.prog && (frees r.toRowW && r.within.isEmpty)) = true) (hb : r.prog.bare) (hw : r.toRowW.promised)
    (walk : WalkC q loose XP YP r.toRowW d kwd) : r.Holds := by
  obtain ⟨ok', k5⟩ := Bool.and_eq_true_iff.mp ok
  obtain ⟨hch, o1⟩ := Bool.and_eq_true_iff.mp ok'
  obtain ⟨k5, k6⟩ := Bool.and_eq_true_iff.mp k5
  obtain ⟨hsame, hu, ha, hap, hm⟩ := frees_parts k5
  have hwi : r.toRowW.claim.within = [] := List.isEmpty_iff.mp k6
  refine ⟨k1, hw, ⟨hb, o1, by show r.makers.map _ = []; rw [hm]; rfl⟩, hw.witness, fun w => ⟨(left.behind hX hch w).1, fun s' hs' => ?_⟩⟩
  obtain ⟨s₀, hf, hg0, s, hT, hz, hgens, hg, G00, y⟩ := (left.behind (XP := fun mg h => XP mg h ∧ RecFacts r.records h) (fun s hs => ⟨hX s hs, hRf s hs⟩) hch w).2 s' hs'
  have RF := G00.X.2
  have G0 : Ground q loose [] XP w s (s.heap.nsMap mainGlobals) (s.heap.nsMap builtinsNs) s.heap := ⟨G00.T, G00.B, G00.D, G00.TE, G00.TD, G00.W, G00.X.1, G00.cls, G00.has, G00.apart, G00.once, G00.K⟩
  have G : Ground q loose r.records XP w s (s.heap.nsMap mainGlobals) (s.heap.nsMap builtinsNs) s.heap := RF.ground G0
  have hgens : s.gens = #[] := Array.eq_empty_of_size_eq_zero (beq_iff_eq.mp hgens)
  refine ⟨s₀, hf, hg0, s, hT, fun n hn => ?_, RF.1, RF.2.1, ?_⟩
  · obtain rfl : n = r.name := by split at hn <;> simp_all
    exact pinned_of_view hg G0 hdef hp hk
  intro args hpre hlay ord hord
  obtain ⟨⟨vs, s₁⟩, hlaid⟩ := Option.isSome_iff_exists.mp (layAllW_isSome (P := w.params) (ord := ord) G.has args r.args s (pre_splitW hpre).1)
  have keeps := layAllW_keeps _ _ _ hlaid
  have hal := layAllW_rest _ _ _ hlaid
  obtain ⟨as, hrd, hin, hold⟩ := reads_layAllW hord _ _ _ hlaid hlay s₁.heap (fun _ _ e => e)
  have L : Laid r.records w s s₁ args vs as := ⟨⟨ord, hord, hlaid⟩, hrd, hin, hold, keeps, hal.1.trans hgens, hal.2.2.1⟩
  have G₁ := G.keeps hXk keeps
  obtain ⟨a, o, pm, cd, doc, dV, kV, h1, h2, h3, h4, h5⟩ := G₁.fn hdef
  have hwalk := walk w s s₁ _ _ G₁ (hYk _ _ _ (hY w s y) keeps) a o pm cd doc dV kV h2 h3 h4 h5 (defOf_name hdef ▸ h1) L.gens args vs as hpre hlay L.reads L.well (L.low G.low)
  have hi := ident_freeW hu ha hap
  have fin : ∀ (res : Result) (s₂ : Shared), GoodWG r.toRowW.claim (classAt s.heap) (ExcName.means s.heap) args s₁ res s₂ →
      (r.toRowW.claim.Ends s args vs s₁ res s₂ ∧ s₂.os = s.os ∧ (r.writes = true → namesKept r.prog r.keeps s.heap s₂.heap ∧ ∀ x ∈ r.records, ∀ a, classAt s.heap x.1 = some a → recordClass s₂.heap a x.1 (x.2.map (·.1)) = true)) ∧ leftWithCleanup s₂.gens = false := fun res s₂ g => by
    have z := g.laid (c := r.toRowW.claim) hsame hwi hi L
    exact ⟨⟨z.1, z.2.1, fun q => ⟨namesKept_of hT hg r.keeps keeps g.2.1.old, noTable hwr q⟩⟩, leftWithCleanup_false_of_bare z.2.2⟩
  obtain ⟨k, res, s₂, s₃, hrun, hsched, hfo, hcase, hos, hkp⟩ := ends_over (prog := r.prog) (w := w) (t := do match ← nsGet mainNs r.name with
      | some f => do ret (← PySem.call f vs)
      | none => unsupported "claim.caller:no-such-global") (s := s₁)
    (R := fun res s₂ => r.toRowW.claim.Ends s args vs s₁ res s₂ ∧ s₂.os = s.os ∧ (r.writes = true → namesKept r.prog r.keeps s.heap s₂.heap ∧ ∀ x ∈ r.records, ∀ a, classAt s.heap x.1 = some a → recordClass s₂.heap a x.1 (x.2.map (·.1)) = true))
    (Shared.asleep_of_life hal.2.2.2 hz)
    (.bindA (wpAny_nsGet G₁.T.g (by
      rw [h1]
      exact .bind (hwalk.mono (fun v s₂ g => .pure ⟨_, rfl, fin _ _ g⟩) fun e s₂ g => fin _ _ g))))
  obtain ⟨eh, _, _, eo, _⟩ := Shared.forget_eq hfo
  have hcase := hcase.congr eh
  rw [← eh] at hkp
  rw [← eo] at hos
  have hlife : s₂.heap.life = s.heap.life := (runN_life _ _ _ hrun).trans hal.2.2.2
  refine ⟨vs, s₁, hlaid, k, _, s₂, hsched, ?_, (fun _ i x hx => by rw [hgens] at hx; simp at hx), hkp, by rw [hlife], Shared.rest_eq hos⟩
  rcases hcase with ⟨v, rfl, d1, d2, d3, d4, d5⟩ | ⟨e, ob, cls, rfl, d1, d2, d3, d4, d5⟩
  · exact .inl ⟨v, rfl, d1, d2, d3, fun b o y _ => d4 b o y, d5⟩
  · exact .inr ⟨e, ob, cls, rfl, d1, d2, d3, d4, fun b o y _ => d5 b o y⟩
end
section
theorem find_is {prog : Program} {w : World} {A : Around} {E : Value → Shared → Prop} {s : Shared} {x y : Str} {t u : Tok} {k : Int} {Q : Value → Shared → Prop} (e : Txt.find x y = k) (h : Q (.int k s.toks) { s with toks := s.toks + 1 }) : wpAny (model prog w) A (call (.builtin "str.find") [.str x t, .str y u]) Q E s := SC.find (by rw [e]; exact h)
theorem find3_is {prog : Program} {w : World} {A : Around} {E : Value → Shared → Prop} {s : Shared} {x y : Str} {t u v : Tok} {i k : Int} {Q : Value → Shared → Prop} (e : Txt.find3 x y i = k) (h : Q (.int k s.toks) { s with toks := s.toks + 1 }) : wpAny (model prog w) A (call (.builtin "str.find") [.str x t, .str y u, .int i v]) Q E s := SC.find3 (by rw [e]; exact h)
theorem told_len {l : List (Str × Tok)} {ps : List Str} (hl : List.map (fun x => x.fst) l = ps) : (l.length : Int) = (ps.length : Int) := by rw [← hl, List.length_map]
theorem told_int {l : List (Str × Tok)} {ps : List Str} {y y₀ : Str} {n : Int} (hl : List.map (fun x => x.fst) l = ps) (ha : (List.map (fun x => x.fst) l)[Int.toNat 3]? = some y) (hy : ps[3]? = some y₀) (hn : PySem.intText? y₀ = some n) : PySem.intText? y = some n := by
  rw [hl] at ha
  cases ha.symm.trans hy
  exact hn
theorem told_y {l : List (Str × Tok)} {ps : List Str} (hl : List.map (fun x => x.fst) l = ps) (h5 : (l.length : Int) = 5) : ps.length = 5 ∧ ∃ y, ps[3]? = some y := by
  have h : ps.length = 5 := by have := told_len hl; omega
  exact ⟨h, _, List.getElem?_eq_getElem (by omega)⟩
theorem told_ne {l : List (Str × Tok)} {ps : List Str} (hl : List.map (fun x => x.fst) l = ps) (h5 : (l.length : Int) ≠ 5) : ps.length ≠ 5 := fun e => h5 ((told_len hl).trans (by rw [e]; rfl))
theorem of_allLt {d : Addr} : ∀ {l : List (Addr × Obj)}, AllLt d l → ∀ p ∈ l, p.1 < d
  | [], _, _, h => nomatch h
  | _ :: _, h, p, hp => by
    rcases List.mem_cons.mp hp with rfl | hp
    · exact h.1
    · exact of_allLt h.2 p hp
theorem eq_of_bne {a b : Str} (h : (a != b) = false) : a = b := by simpa using h
structure NoNum (y : Str) : Prop where
  few : y.length ≤ 640
  room : (reprText y).length ≤ sizeLine
  bad : (int_private% "readNumeral") 0 10 (numSeenOf y) = int_private% "Numeral.invalid"
theorem told_bad {l : List (Str × Tok)} {ps : List Str} {y y₀ : Str} (hl : List.map (fun x => x.fst) l = ps) (ha : (List.map (fun x => x.fst) l)[Int.toNat 3]? = some y) (hy : ps[3]? = some y₀) (hn : NoNum y₀) : NoNum y := by
  rw [hl] at ha
  cases ha.symm.trans hy
  exact hn
set_option maxHeartbeats 8000000 in
theorem C_told {w : World} {loose : List Str} {mean : ExcName → Option Value} {mg mb : Str → Option Value} {dp un : Nat} {gd : Option (List Code)} {cn : Str} {cs : Scope} {ca : Addr} {ccd : Value} {cl : List (Str × Addr)} {A₀ : Around} {base h₀ : Heap} {L : Addr} {m : Str → Option Value} {s : Shared} {Q E : Value → Shared → Prop} {news : List (Addr × Obj)}
    (B : Below A₀ base [] h₀) (F : Fr h₀ L s.heap m) (X : (T49.K w.params).In h₀) (N : News h₀ L s.heap news) (T : Top T49.vw loose mean mg mb h₀) (hk : cs.kind = .function) (hd : dp + 5 < recursionLimit) (hu : un + 60 < cLine) (XB : (T49.K w.params).In base) (TB : Top T49.vw loose mean mg mb base)
    {x : Str} {tx : Tok} {l r : Int} (h1 : Txt.find x (Str.ofString "(") = l) (h2 : Txt.find3 x (Str.ofString ")") (l + 1) = r) (hl0 : 0 ≤ l) (hr : l + 2 ≤ r) (hrl : r < (x.length : Int)) (hx : x.length ≤ 600)
    (hcode : (Txt.slice x none (some 3) != Str.ofString "229") = true → (∀ (l' : Addr) (h' : Heap) (tk' : Nat) (t₁ t₂ : Tok), Fr h₀ L h' m → News h₀ L h' ((l', W.listOf #[.str (Str.ofString "code") t₁, .str x t₂] 0) :: news) → (∀ p ∈ news, p.1 < l') → Q (.ref l') { s with heap := h', toks := tk' }))
    (hproto : (Txt.slice x none (some 3) != Str.ofString "229") = false → (Txt.item x (l + 1) ≠ Txt.item x (r - 1) ∨ (Txt.split (Txt.slice x (some (l + 1)) (some r)) (Txt.item x (l + 1))).length ≠ 5) → (∀ (l' : Addr) (h' : Heap) (tk' : Nat) (t₁ t₂ : Tok), Fr h₀ L h' m → News h₀ L h' ((l', W.listOf #[.str (Str.ofString "proto") t₁, .str x t₂] 0) :: news) → (∀ p ∈ news, p.1 < l') → Q (.ref l') { s with heap := h', toks := tk' }))
    (hnum : ∀ y, (Txt.split (Txt.slice x (some (l + 1)) (some r)) (Txt.item x (l + 1)))[3]? = some y → (∃ n, PySem.intText? y = some n) ∨ NoNum y)
    (hval : (Txt.slice x none (some 3) != Str.ofString "229") = false → Txt.item x (l + 1) = Txt.item x (r - 1) → (Txt.split (Txt.slice x (some (l + 1)) (some r)) (Txt.item x (l + 1))).length = 5 → ∀ y, (Txt.split (Txt.slice x (some (l + 1)) (some r)) (Txt.item x (l + 1)))[3]? = some y → NoNum y → (∀ (l' : Addr) (h' : Heap) (tk' : Nat) (t₁ t₂ : Tok), Fr h₀ L h' m → News h₀ L h' ((l', W.listOf #[.str (Str.ofString "value") t₁, .str x t₂] 0) :: news) → (∀ p ∈ news, p.1 < l') → Q (.ref l') { s with heap := h', toks := tk' }))
    (hport : (Txt.slice x none (some 3) != Str.ofString "229") = false → Txt.item x (l + 1) = Txt.item x (r - 1) → (Txt.split (Txt.slice x (some (l + 1)) (some r)) (Txt.item x (l + 1))).length = 5 → ∀ y n, (Txt.split (Txt.slice x (some (l + 1)) (some r)) (Txt.item x (l + 1)))[3]? = some y → PySem.intText? y = some n → (∀ (l' : Addr) (h' : Heap) (tk' : Nat) (t₁ t₂ : Tok), Fr h₀ L h' m → News h₀ L h' ((l', { cls := .type "tuple", data := .seq #[.str (Str.ofString "host") t₁, .int n t₂] }) :: news) → (∀ p ∈ news, p.1 < l') → Q (.ref l') { s with heap := h', toks := tk' })) :
    wpC (model PySem.Challenge.rw_tp0049_02.row.prog w) (ktrTop dp un gd cn cs L ca ccd cl []) (call (.ref 150) [.str x tx]) Q E s := by
  k_with_none
  (k_with "call builtin:str.find" => ((k_here; (with_reducible show wpAny _ _ (call (Value.builtin "str.find") [Value.str _ _, Value.str _ _]) _ _ _); refine find_is (by assumption) ?_)))
  (k_with "call builtin:str.find" => ((k_here; (with_reducible show wpAny _ _ (call (Value.builtin "str.find") [Value.str _ _, Value.str _ _, Value.int _ _]) _ _ _); refine find3_is (by assumption) ?_)))
  (k_with "call type:str" => ((k_here; (with_reducible show wpAny _ _ (call (Value.type "str") [Value.ref _]) _ _ _); (with_reducible rename Got _ _ _ _ _ => gotX); k_dflt (refine' str_own (K := T49.K _) ?ku ?kX ?kG ?kf ?ks ?_; (case kG => exact ExcOne.of_got (by assumption) gotX); (case kX => k_in); (case ku => ktr_units); (case kf => k_is); (case ks => k_is); k_whole))))
  (k_with "call type:int" => ((k_here; (with_reducible show wpAny _ _ (call (Value.type "int") [Value.str _ _]) _ _ _); (refine' KIN.call_text ?k1 ?k2 ?_; (case k1 => exact told_int (by assumption) (by assumption) (by assumption) (by assumption)); (case k2 => have hq := (by assumption : ∀ (a : Str), a ∈ _ → a.length ≤ _) _ (List.mem_of_getElem? (by assumption)); omega); k_whole))))
  refine wpC.call ?_
  k_dflt (refine' code_tryC B F X N T rfl rfl hk ?k6 ?k7 ?k8 ?k9 ?kB ?_ ?c2 ?c3 ?c4 ?c5; (case k6 => k_is); (case k7 => k_is); (case k8 => ktr_room); (case k9 => exact BindsTo.of_eq rfl); (case kB => exact locs rfl); (case c2 => exact rfl); (case c3 => exact rfl); (case c4 => exact rfl); (case c5 => decide); k_whole; intro g' L' h' FG' F' N' B' X' T' D'; (try dsimp only); (try k_lift B'); (try k_fold))
  refine wpC.execs_cons (wpC.Try_except ?_)
  refine wpC.execs_cons (wpC.Return_some (wpC.Call_Name ?_))
  k_steps
  refine wpC.callWith_def ?_
  k_steps
  refine AtDef.intro (K := T49.K _) (by k_in) (by k_is) (wpC.call ?_)
  k_dflt (refine' code_defK ?k1 ?k2 ?k3 ?k4 ?k5 ?kA ?kF ?kK ?k6 ?k7 ?k8 ?k9 ?kB ?_ ?c2 ?c3 ?c4 ?c5; (case kA => exact rfl); (case kF => exact rfl); (case kK => first | exact rfl | assumption); (case k1 => k_asm); (case k2 => k_asm); (case k3 => k_asm); (case k4 => k_asm); (case k5 => k_asm); (case k6 => k_is); (case k7 => k_is); (case k8 => ktr_room); (case k9 => exact BindsTo.of_eq rfl); (case c5 => decide); (case kB => exact locs rfl); (case c2 => exact rfl); (case c3 => exact rfl); (case c4 => exact rfl); k_whole; intro g' L' h' FG' F' N' B' X' T'; (try dsimp only); (try k_lift B'); (try k_fold))
  refine wpC.execs_at 9 ?_
  dsimp only [List.take, List.drop]
  k_steps
  · exact hcode (by assumption) _ _ _ _ _ (by assumption) (by (refine' cb_drop ?cbN ?cbS; (case cbN => assumption); (case cbS => kcj_all))) (by first | exact of_allLt (by assumption) | exact of_allLt (And.right (by assumption)) | exact of_allLt (And.right (And.right (by assumption))))
  · exact hproto (by assumption) (.inl (bne_iff_ne.mp (by assumption))) _ _ _ _ _ (by assumption) (by (refine' cb_drop ?cbN ?cbS; (case cbN => assumption); (case cbS => kcj_all))) (by first | exact of_allLt (by assumption) | exact of_allLt (And.right (by assumption)) | exact of_allLt (And.right (And.right (by assumption))))
  · exact hproto (by assumption) (.inr (told_ne (by assumption) (by assumption))) _ _ _ _ _ (by assumption) (by (refine' cb_drop ?cbN ?cbS; (case cbN => assumption); (case cbS => kcj_all))) (by first | exact of_allLt (by assumption) | exact of_allLt (And.right (by assumption)) | exact of_allLt (And.right (And.right (by assumption))))
  · obtain ⟨h5, y, hy⟩ := told_y (by assumption) (by assumption)
    dsimp only
    rcases hnum y hy with ⟨n, hn⟩ | hn
    · refine wpC.any ?_
      k_steps
      exact hport (by assumption) (eq_of_bne (by assumption)) h5 y n hy hn _ _ _ _ _ (by assumption) (by (refine' cb_drop ?cbN ?cbS; (case cbN => assumption); (case cbS => kcj_all))) (by first | exact of_allLt (by assumption) | exact of_allLt (And.right (by assumption)) | exact of_allLt (And.right (And.right (by assumption))))
    · refine wpC.execs_cons (wpC.Assign_raises (wpC.Call_Name ?_))
      k_steps
      refine wpC.callWith_type1 ?_
      k_steps
      have hb := told_bad (by assumption) (by assumption) hy hn
      refine (wpC.int_bad rfl hb.few hb.room hb.bad ?_).mono (fun _ _ x => x.elim) fun _ _ e => e
      intro h9 tk9 e9 X9
      k_steps
      all_goals first
        | exact hval (by assumption) (eq_of_bne (by assumption)) h5 y hy hn _ _ _ _ _ (by assumption) (by (refine' cb_drop ?cbN ?cbS; (case cbN => assumption); (case cbS => kcj_all))) (by first | exact of_allLt (by assumption) | exact of_allLt (And.right (by assumption)) | exact of_allLt (And.right (And.right (by assumption))))
end
section
noncomputable def hiddens : List Int := [173, 847, 6150, 6155, 6156, 6157, 8203, 8204, 8205, 8288, 65279] ++ rangeKs 65024 16
section
variable {prog : Program} {w : World} {A : Around} {E : Value → Shared → Prop} {s : Shared} {h₀ : Heap} {L : Addr} {m₀ : Str → Option Value} {news : List (Addr × Obj)}
theorem ints_at (f : Nat → Int) (vs : List Value) (h : ∀ (j : Nat) (v : Value), vs[j]? = some v → ∃ t, v = .int (f j) t) : IntsAre vs ((List.range vs.length).map f) := by
  induction vs generalizing f with
  | nil => exact .nil
  | cons v vs ih =>
    obtain ⟨t, rfl⟩ := h 0 v rfl
    rw [List.length_cons, List.range_succ_eq_map, List.map_cons, List.map_map]
    exact .cons _ _ (ih (f ∘ Nat.succ) fun j u hj => h (j + 1) u hj)
theorem rangeKs_map (a : Int) (n : Nat) : (List.range n).map (fun (i : Nat) => a + (i : Int) * 1) = rangeKs a n := by simp [rangeKs]
theorem hiddens_all : ∀ n, n < 27 → 173 ≤ hiddens.getD n 0 ∧ hiddens.getD n 0 ≤ 65279 := by decide
theorem chr_hidden {n : Int} {t : Tok} {Q : Value → Shared → Prop} (h : Q (.str ⟨#[(hiddens.getD (n.fmod 27).toNat 0).toNat]⟩ s.toks) { s with toks := s.toks + 1 }) :
    wpAny (model prog w) A (call (.builtin "chr") [.int (([173, 847, 6150, 6155, 6156, 6157, 8203, 8204, 8205, 8288, 65279] ++ rangeKs 65024 16).getD (n.fmod 27).toNat 0) t]) Q E s := by
  have h2 := Int.fmod_nonneg_of_pos n (show (0 : Int) < 27 by decide)
  have h3 := Int.fmod_lt_of_pos n (show (0 : Int) < 27 by decide)
  have h1 := hiddens_all (n.fmod 27).toNat (by omega)
  exact chr_of_range (i := hiddens.getD (n.fmod 27).toNat 0) (by omega) (by omega) h
theorem list_ones {r : Addr} {t₀ u₀ v₀ : Tok} {a b : Int} (n : Nat) {Q : Value → Shared → Prop} (hh : A.handled = none) (F : Fr h₀ L s.heap m₀) (N : News h₀ L s.heap news) (hr : IsRange s.heap r a b 1 t₀ u₀ v₀) (hb : b = a + n) (h0 : 0 ≤ a) (ha : a ≤ 100000) (h1 : n ≤ 1000)
    (h : ∀ D us c h' tk, Fr h₀ L h' m₀ → News h₀ L h' ((D, listOf (List.toArray us) c) :: news) → (∀ p ∈ news, p.1 < D) → IntsAre us (rangeKs a n) → us.length = n → Q (.ref D) { s with heap := h', toks := tk }) :
    wpAny (model prog w) A (call (.type "list") [.ref r]) Q E s := by
  subst hb
  have hn : Builtin.Range.rangeSize a (a + n) 1 = ((n : Nat) : Int) := by
    unfold Builtin.Range.rangeSize
    rw [if_pos (by decide)]
    split <;> omega
  have hsmall : Builtin.Range.small a (a + n) 1 = true := by
    unfold Builtin.Range.small
    rw [hn]
    simp only [Builtin.Range.rangeFitsLong, Bool.and_eq_true, Bool.or_eq_true, decide_eq_true_eq, beq_iff_eq, show (1 : Int) > 0 by decide, if_true]
    (try split) <;> omega
  refine call_list_range hh hr hsmall hn (by omega) fun h' tk acc c hk hD hI => ?_
  have hD' : h'.get? s.heap.objs.size = some (listOf (List.toArray acc.toList) c) := by
    rw [Array.toArray_toList]
    exact hD
  have e := ints_at (fun (i : Nat) => a + (i : Int) * 1) acc.toList (fun j v hj => hI.2 j v (by rw [← hj, Array.getElem?_toList]))
  rw [rangeKs_map, Array.length_toList, hI.1] at e
  exact h _ acc.toList c h' tk (F.keeps hk) (news_pushed F N hk hD' rfl) (fun p hp => Heap.lt_size (N p hp).1) e (by rw [Array.length_toList, hI.1])
end
set_option maxHeartbeats 8000000 in
theorem C_hidden {w : World} {loose : List Str} {mean : ExcName → Option Value} {mg mb : Str → Option Value} {dp un : Nat} {gd : Option (List Code)} {cn : Str} {cs : Scope} {ca : Addr} {ccd : Value} {cl : List (Str × Addr)} {outer : List Env} {A₀ : Around} {base h₀ : Heap} {L : Addr} {m : Str → Option Value} {s : Shared} {Q E : Value → Shared → Prop} {news : List (Addr × Obj)}
    (B : Below A₀ base outer h₀) (F : Fr h₀ L s.heap m) (X : (T49.K w.params).In h₀) (N : News h₀ L s.heap news) (T : Top T49.vw loose mean mg mb h₀) (hk : cs.kind = .function) (hd : dp + 12 < recursionLimit) (hu : un + 300 < cLine)
    {n : Int} {tn : Tok} (hn0 : 0 ≤ n) (hn1 : n < 1000000)
    (hret : ∀ (t : Tok) (h' : Heap) (tk' : Nat), Fr h₀ L h' m → News h₀ L h' news → Q (.str ⟨#[(hiddens.getD (n.fmod 27).toNat 0).toNat]⟩ t) { s with heap := h', toks := tk' }) :
    wpAny (model PySem.Challenge.rw_tp0049_02.row.prog w) (ktrTop dp un gd cn cs L ca ccd cl outer) (call (.ref 143) [.int n tn]) Q E s := by
  k_with_none
  (k_with "call type:list" => ((k_here; (with_reducible show wpAny _ _ (call (Value.type _) [Value.ref _]) _ _ _); k_dflt (refine list_ones 16 (by rfl) (by assumption) (by assumption) (by assumption) (by rfl) (by decide) (by decide) (by decide) ?_); (intro D' vs' c' h' tk' F' N' l1 hI' hl'); (try k_lt l1); (try k_sweep))))
  (k_with "call builtin:chr" => ((k_here; k_dflt (refine chr_hidden ?_))))
  refine wpAny_call ?_
  k_dflt cell_enter
  k_steps
  · exact hret _ _ _ (by k_asm) (by (refine' cb_drop ?cbN ?cbS; (case cbN => assumption); (case cbS => kcj_all)))
end
section
noncomputable def strewN (x : Str) (gs : List Int) (sg : Str) : Nat → Str
  | 0 => Str.ofString ""
  | n + 1 => strewN x gs sg n ++ ((if gs.contains (n : Int) then sg else Str.ofString "") ++ Txt.slice x (some (n : Int)) (some ((n : Int) + 1)))
section
variable {prog : Program} {w : World} {A : Around} {E : Value → Shared → Prop} {s : Shared} {h₀ : Heap} {L : Addr} {m₀ : Str → Option Value} {news : List (Addr × Obj)}
theorem kf_of {us : List Value} {gs : List Int} (h : IntsAre us gs) : kf_ints us = true := by
  induction h with
  | nil => rfl
  | cons _ _ _ ih => exact ih
theorem any_of {us : List Value} {gs : List Int} (k : Int) (h : IntsAre us gs) : us.any (isInt k) = gs.contains k := by
  induction h with
  | nil => rfl
  | cons n t _ ih =>
    rw [List.any_cons, List.contains_cons, ih]
    congr 1
    show (n == k) = (k == n)
    exact Bool.eq_iff_iff.mpr ⟨fun h => by simpa using (eq_of_beq h).symm, fun h => by simpa using (eq_of_beq h).symm⟩
theorem in_ints {D : Addr} {us : List Value} {gs : List Int} {c : Nat} {k : Int} {t : Tok} {Q : Value → Shared → Prop} (N : News h₀ L s.heap news) (hm : (D, listOf us.toArray c) ∈ news) (hI : IntsAre us gs) (h : Q (.bool (gs.contains k)) s) :
    wpAny (model prog w) A (compareOp .In (.int k t) (.ref D)) Q E s := kf_in N hm (by simpa using kf_of hI) (by simpa using any_of k hI) h
end
theorem news_cons {h₀ h : Heap} {L a : Addr} {o : Obj} {l r : List (Addr × Obj)} (N : News h₀ L h l) (hm : (a, o) ∈ l) (R : News h₀ L h r) : News h₀ L h ((a, o) :: r) := by
  intro p hp
  rcases List.mem_cons.mp hp with rfl | hp
  · exact N _ hm
  · exact R p hp
theorem slice_one (x : Str) (k : Int) (h0 : 0 ≤ k) (h1 : k ≤ x.length) : (Txt.slice x (some k) (some (k + 1))).cps.toList = if k < x.length then [x.cps.toList.getD k.toNat 0] else [] := by
  split
  · rename_i h
    have e := slice_closesL (x := x) (i := k) (j := k + 1) h0 (by omega) (by omega)
    rw [eq_of_beq e]
    have hl : k.toNat < x.cps.toList.length := by rw [Array.length_toList]; show _ < x.length; omega
    show List.take (k + 1 - k).toNat (List.drop k.toNat x.cps.toList) = _
    rw [show (k + 1 - k).toNat = 1 by omega, List.drop_eq_getElem_cons hl, List.take_succ_cons, List.take_zero, List.getD_eq_getElem?_getD, List.getElem?_eq_getElem hl]
    rfl
  · rename_i h
    have e : k = x.length := by omega
    subst e
    show (StrLaws.sliceText x (some (x.length : Int)) (some ((x.length : Int) + 1))).cps.toList = []
    have z : Builtin.Str.strSliceIndices (some (x.length : Int)) (some ((x.length : Int) + 1)) 1 x.length = [] := by
      unfold Builtin.Str.strSliceIndices
      have c1 : ¬ ((x.length : Int) < 0) := by omega
      have c2 : ¬ ((x.length : Int) + 1 < 0) := by omega
      have a : max (0 : Int) (min (x.length : Int) (x.length : Int)) = x.length := by omega
      have b : max (0 : Int) (min ((x.length : Int) + 1) (x.length : Int)) = x.length := by omega
      simp only [sliceRange, show ((1 : Int) > 0) = True from by simp, if_true, if_neg c1, if_neg c2, a, b, Int.lt_irrefl, if_false]
      rfl
    unfold StrLaws.sliceText
    rw [z]
    by_cases h0 : x.length = 0
    · rw [h0]
      show x.cps.toList = []
      exact List.eq_nil_of_length_eq_zero (by rw [Array.length_toList]; exact h0)
    · have : ((1 : Int) == 1 && ([] : List Nat).length == x.length) = false := by simp; omega
      rw [this]
      rfl
theorem strewN_yes {x sg out : Str} {gs pre : List Int} {k : Int} (h1 : out.length ≤ 2 * pre.length) (h2 : out = strewN x gs sg pre.length) (hk : k = 0 + (pre.length : Int)) (hkl : pre.length < ((x.length : Int) + 1 - 0).toNat) (hc : gs.contains k = true) (hg : sg.length = 1) :
    (out ++ (sg ++ Txt.slice x (some k) (some (k + 1)))).length ≤ 2 * (pre ++ [k]).length ∧ out ++ (sg ++ Txt.slice x (some k) (some (k + 1))) = strewN x gs sg (pre ++ [k]).length := by
  have e : (pre.length : Int) = k := by omega
  have l : (Txt.slice x (some k) (some (k + 1))).length ≤ 1 := by
    have := slice_one x k (by omega) (by omega)
    have e := Array.length_toList (xs := (Txt.slice x (some k) (some (k + 1))).cps)
    rw [this] at e
    show (Txt.slice x (some k) (some (k + 1))).cps.size ≤ 1
    rw [← e]
    split <;> simp
  constructor
  · rw [Str.length_append, Str.length_append, List.length_append, List.length_singleton]; omega
  · rw [List.length_append, List.length_singleton]
    show _ = strewN x gs sg (pre.length) ++ ((if gs.contains (pre.length : Int) then sg else _) ++ Txt.slice x (some (pre.length : Int)) (some ((pre.length : Int) + 1)))
    rw [e, if_pos hc, ← h2]
theorem strewN_no {x sg out : Str} {gs pre : List Int} {k : Int} (h1 : out.length ≤ 2 * pre.length) (h2 : out = strewN x gs sg pre.length) (hk : k = 0 + (pre.length : Int)) (hkl : pre.length < ((x.length : Int) + 1 - 0).toNat) (hc : gs.contains k = false) :
    (out ++ (Str.ofString "" ++ Txt.slice x (some k) (some (k + 1)))).length ≤ 2 * (pre ++ [k]).length ∧ out ++ (Str.ofString "" ++ Txt.slice x (some k) (some (k + 1))) = strewN x gs sg (pre ++ [k]).length := by
  have e : (pre.length : Int) = k := by omega
  have l : (Txt.slice x (some k) (some (k + 1))).length ≤ 1 := by
    have := slice_one x k (by omega) (by omega)
    have e := Array.length_toList (xs := (Txt.slice x (some k) (some (k + 1))).cps)
    rw [this] at e
    show (Txt.slice x (some k) (some (k + 1))).cps.size ≤ 1
    rw [← e]
    split <;> simp
  have z : (Str.ofString "").length = 0 := by decide
  constructor
  · rw [Str.length_append, Str.length_append, List.length_append, List.length_singleton, z]; omega
  · rw [List.length_append, List.length_singleton]
    show _ = strewN x gs sg (pre.length) ++ ((if gs.contains (pre.length : Int) then sg else _) ++ Txt.slice x (some (pre.length : Int)) (some ((pre.length : Int) + 1)))
    rw [e, if_neg (by rw [hc]; decide), ← h2]
theorem strewN_start (x : Str) (gs : List Int) (sg : Str) : (Str.ofString "").length ≤ 2 * ([] : List Int).length ∧ Str.ofString "" = strewN x gs sg ([] : List Int).length := ⟨by decide, rfl⟩
set_option maxHeartbeats 8000000 in
theorem C_strewn {w : World} {loose : List Str} {mean : ExcName → Option Value} {mg mb : Str → Option Value} {dp un : Nat} {gd : Option (List Code)} {cn : Str} {cs : Scope} {ca : Addr} {ccd : Value} {cl : List (Str × Addr)} {outer : List Env} {A₀ : Around} {base h₀ : Heap} {L : Addr} {m : Str → Option Value} {s : Shared} {Q E : Value → Shared → Prop} {news : List (Addr × Obj)}
    (B : Below A₀ base outer h₀) (F : Fr h₀ L s.heap m) (X : (T49.K w.params).In h₀) (N : News h₀ L s.heap news) (T : Top T49.vw loose mean mg mb h₀) (hk : cs.kind = .function) (hd : dp + 12 < recursionLimit) (hu : un + 300 < cLine)
    {x sg : Str} {tx tg : Tok} {D : Addr} {us : List Value} {gs : List Int} {c : Nat} (hD : (D, listOf us.toArray c) ∈ news) (hI : IntsAre us gs) (hx : x.length ≤ 100) (hg : sg.length = 1) (hgl : gs.length ≤ 100)
    (hret : ∀ (t : Tok) (h' : Heap) (tk' : Nat), Fr h₀ L h' m → News h₀ L h' news → Q (.str (strewN x gs sg (x.length + 1)) t) { s with heap := h', toks := tk' }) :
    wpAny (model PySem.Challenge.rw_tp0049_02.row.prog w) (ktrTop dp un gd cn cs L ca ccd cl outer) (call (.ref 162) [.str x tx, .ref D, .str sg tg]) Q E s := by
  k_with_none
  (k_with "compareOp In int ref" => ((k_here; k_dflt (refine in_ints (by k_asm) (by k_mem) (by assumption) ?_))))
  (k_with "exec For Name Call cons nil" => ((k_here; (rename Fr _ _ _ _ => lF'); (with_unfolding_all refine' For_invVF lF' ?k1 ?k2 ?_; (case k1 => exact rfl); (case k2 => exact rfl); k_whole))))
  (k_with "state" => first | exact strewN_start _ _ _ | exact strewN_yes (by assumption) (by assumption) (by assumption) (by assumption) (by assumption) (by assumption) | exact strewN_no (by assumption) (by assumption) (by assumption) (by assumption) (by assumption))
  (k_with "pyIter ref" => ((k_here; k_state_given ["reply", "gaps", "sign"] (fun x gs sg pre out => out.length ≤ 2 * pre.length ∧ out = strewN x gs sg pre.length) "out")))
  replace N := news_cons N hD N
  refine wpAny_call ?_
  k_dflt cell_enter
  k_steps
  · rename (_ = strewN _ _ _ _) => e9
    rw [rangeKs_length, show (((x.length : Int) + 1 - 0).toNat) = x.length + 1 by omega] at e9
    rw [e9]
    exact hret _ _ _ (by k_asm) (by (refine' cb_drop ?cbN ?cbS; (case cbN => assumption); (case cbS => kcj_all)))
end
section
noncomputable def dueT (gs : List Int) (z : Int) : Str :=
  let ends := (gs.filter fun g => g == 4 || g == z + 8).length
  let btw := gs.filter fun g => decide (4 < g) && decide (g < z + 8)
  if gs.filter (fun g => decide (g < 3)) ≠ [] then Str.ofString "code"
  else if ends = 1 ∨ (ends = 2 ∧ btw.length ≠ 2) then Str.ofString "proto"
  else if ends = 2 ∨ btw.filter (fun g => decide (g > 6)) ≠ [] then Str.ofString "value" else Str.ofString "port"
section
variable {gs : List Int} {z : Int}
theorem due_code (h3 : decide (gs.filter (fun g => decide (g < 3)) = []) = false) : dueT gs z = Str.ofString "code" := if_pos (of_decide_eq_false h3)
theorem due_proto1 (h3 : decide (gs.filter (fun g => decide (g < 3)) = []) = true) (h1 : ((gs.filter fun g => g == 4 || g == z + 8).length : Int) = 1) : dueT gs z = Str.ofString "proto" :=
  (if_neg (fun h => h (of_decide_eq_true h3))).trans (if_pos (.inl (by omega)))
theorem due_proto2 (h3 : decide (gs.filter (fun g => decide (g < 3)) = []) = true) (h2 : ((gs.filter fun g => g == 4 || g == z + 8).length : Int) = 2) (hb : ((gs.filter fun g => decide (4 < g) && decide (g < z + 8)).length : Int) ≠ 2) : dueT gs z = Str.ofString "proto" :=
  (if_neg (fun h => h (of_decide_eq_true h3))).trans (if_pos (.inr ⟨by omega, by omega⟩))
theorem due_val1 (h3 : decide (gs.filter (fun g => decide (g < 3)) = []) = true) (h2 : ((gs.filter fun g => g == 4 || g == z + 8).length : Int) = 2) (hb : ((gs.filter fun g => decide (4 < g) && decide (g < z + 8)).length : Int) = 2) : dueT gs z = Str.ofString "value" :=
  (if_neg (fun h => h (of_decide_eq_true h3))).trans ((if_neg (by rintro (h | h) <;> omega)).trans (if_pos (.inl (by omega))))
theorem due_val2 (h3 : decide (gs.filter (fun g => decide (g < 3)) = []) = true) (h1 : ((gs.filter fun g => g == 4 || g == z + 8).length : Int) ≠ 1) (h2 : ((gs.filter fun g => g == 4 || g == z + 8).length : Int) ≠ 2) (h6 : decide ((gs.filter fun g => decide (4 < g) && decide (g < z + 8)).filter (fun g => decide (g > 6)) = []) = false) : dueT gs z = Str.ofString "value" :=
  (if_neg (fun h => h (of_decide_eq_true h3))).trans ((if_neg (by rintro (h | h) <;> omega)).trans (if_pos (.inr (of_decide_eq_false h6))))
theorem due_port (h3 : decide (gs.filter (fun g => decide (g < 3)) = []) = true) (h1 : ((gs.filter fun g => g == 4 || g == z + 8).length : Int) ≠ 1) (h2 : ((gs.filter fun g => g == 4 || g == z + 8).length : Int) ≠ 2) (h6 : decide ((gs.filter fun g => decide (4 < g) && decide (g < z + 8)).filter (fun g => decide (g > 6)) = []) = true) : dueT gs z = Str.ofString "port" :=
  (if_neg (fun h => h (of_decide_eq_true h3))).trans ((if_neg (by rintro (h | h) <;> omega)).trans (if_neg (by rintro (h | h); omega; exact h (of_decide_eq_true h6))))
end
theorem news_cons3 {h₀ h : Heap} {L a : Addr} {o : Obj} {l r : List (Addr × Obj)} (N : News h₀ L h l) (hm : (a, o) ∈ l) (R : News h₀ L h r) : News h₀ L h ((a, o) :: r) := by
  intro p hp
  rcases List.mem_cons.mp hp with rfl | hp
  · exact N _ hm
  · exact R p hp
theorem ints_get {us : List Value} {gs : List Int} (h : IntsAre us gs) : ∀ {i : Nat} {v : Value}, us[i]? = some v → ∃ n t, v = .int n t ∧ gs[i]? = some n := by
  induction h with
  | nil => intro i v e; cases e
  | cons n t _ ih =>
    intro i v e
    cases i with
    | zero => cases e; exact ⟨n, t, rfl, rfl⟩
    | succ i => exact ih e
theorem ints_snoc {us : List Value} {gs : List Int} (h : IntsAre us gs) (n : Int) (t : Tok) : IntsAre (us ++ [.int n t]) (gs ++ [n]) := by
  induction h with
  | nil => exact .cons _ _ .nil
  | cons a u _ ih => exact .cons _ _ ih
section
open LCg
variable {prog : Program} {w : World} {A : Around} {E : Value → Shared → Prop} {s : Shared} {h₀ : Heap} {L : Addr} {m : Str → Option Value} {env : Env}
theorem size_of {us : List Value} {gs : List Int} (h : IntsAre us gs) (hl : gs.length ≤ 100) : us.toArray.size ≤ sizeLine := by
  rw [List.size_toArray, sizeLine_eq, IntsAre.length h]; omega
theorem len_ints9 {D : Addr} {ys : List Value} {ks : List Int} {news : List (Addr × Obj)} {Q : Value → Shared → Prop} (N : News h₀ L s.heap news) (hm : (D, LCg.lst ys) ∈ news) (hI : IntsAre ys ks) (hs : ks.length ≤ 1000) (h : ∀ t tk, Q (.int (ks.length : Int) t) { s with toks := tk }) : wpAny (model prog w) A (call (.builtin "len") [.ref D]) Q E s := by
  have hl : Heap.IsList s.heap D ys.toArray := News.isList (n := ys.length) (fun p hp => by rw [List.mem_singleton.mp hp]; exact N _ hm) List.mem_cons_self
  have e := IntsAre.length hI
  refine PyProof.Rows.len_list hl ?_ ?_
  · rw [List.size_toArray]; omega
  · rw [List.size_toArray, e]; exact h _ _
/-- a comprehension with a test over a made list of ints -/
theorem rest_ints {ct elt : Expr} {x : Str} {scope : Scope} {cl : List (Str × Addr)} {us : List Value} {gs : List Int} {S : List (Addr × Obj) → Prop} {news : List (Addr × Obj)} {Fin : List Value → List (Addr × Obj) → Prop} (q : Int → Bool) (hS : S news) (hI : IntsAre us gs)
    (turn : ∀ n t I oI C oC D m₂ ys h tk (E' : Value → Shared → Prop), n ∈ gs → LCg.NsObj oC m₂ → m₂ x = some (.int n t) → Fr h₀ L h m → News h₀ L h ((I, oI) :: (C, oC) :: (D, LCg.lst ys) :: news) → LCg.Off3 I C D news → ((@Ne Nat I C) ∧ (@Ne Nat I D) ∧ (@Ne Nat C D)) →
      wpAny (model prog w) A (isTrue ct (compEnvC scope cl C env) (eval ct (compEnvC scope cl C env))) (fun b s' => if b = true then wpAny (model prog w) A (eval elt (compEnvC scope cl C env)) (LCg.CompEnd h₀ L m { s with heap := h, toks := tk } I oI C oC D (LCg.lst ys) S (fun y news' => news' = news ∧ q n = true ∧ ∃ t', y = .int n t')) E' s'
        else LCg.CompEnd h₀ L m { s with heap := h, toks := tk } I oI C oC D (LCg.lst ys) S (fun _ news' => news' = news ∧ q n = false) Value.none s') E' { s with heap := h, toks := tk })
    (fin : ∀ ys, IntsAre ys (gs.filter q) → Fin ys news) : LCt.CompRestT prog w A h₀ L m env ct elt x scope cl s S (fun i v => us.toArray[i]? = some v) Fin us.toArray.size 0 [] news := by
  have key : ∀ (j i : Nat) (ys : List Value), i + j = gs.length → IntsAre ys ((gs.take i).filter q) → LCt.CompRestT prog w A h₀ L m env ct elt x scope cl s S (fun i v => us.toArray[i]? = some v) Fin j i ys news := by
    intro j
    induction j with
    | zero =>
      intro i ys hi hy
      refine LCt.CompRestT.zero (fin ys ?_)
      rw [List.take_of_length_le (by omega)] at hy
      exact hy
    | succ j ih =>
      intro i ys hi hy
      refine LCt.CompRestT.succ ?_
      intro v I oI C oC D m₂ h tk E' hv hC hx F N off ne
      obtain ⟨n, t, rfl, hn⟩ := ints_get hI (by simpa using hv)
      have hs : gs.take (i + 1) = gs.take i ++ [n] := by rw [List.take_add_one, hn]; rfl
      refine wpAny_mono (turn n t I oI C oC D m₂ ys h tk E' (List.mem_of_getElem? hn) hC hx F N off ne) (fun b s₂ hq => ?_) fun _ _ e => e
      cases b with
      | true =>
        simp only [if_true] at hq ⊢
        refine wpAny_mono hq (fun y' s₃ hr => ?_) fun _ _ e => e
        obtain ⟨h', tk', nw, e, F', N', off', hS', hn', hp, t', rfl⟩ := hr
        rw [hn'] at N' off' hS'
        refine ⟨h', tk', news, e, F', N', off', hS', ih (i + 1) _ (by omega) ?_⟩
        rw [hs, List.filter_append]
        simp only [List.filter_cons, hp, if_true, List.filter_nil]
        exact ints_snoc hy n t'
      | false =>
        simp only [Bool.false_eq_true, if_false] at hq ⊢
        obtain ⟨h', tk', nw, e, F', N', off', hS', hn', hp⟩ := hq
        rw [hn'] at N' off' hS'
        refine ⟨h', tk', news, e, F', N', off', hS', ih (i + 1) _ (by omega) ?_⟩
        rw [hs, List.filter_append]
        simp only [List.filter_cons, hp, Bool.false_eq_true, if_false, List.filter_nil, List.append_nil]
        exact hy
  have hl := IntsAre.length hI
  rw [List.size_toArray, hl]
  exact key gs.length 0 [] (by omega) .nil
end
set_option maxHeartbeats 8000000 in
theorem C_due {w : World} {loose : List Str} {mean : ExcName → Option Value} {mg mb : Str → Option Value} {dp un : Nat} {gd : Option (List Code)} {cn : Str} {cs : Scope} {ca : Addr} {ccd : Value} {cl : List (Str × Addr)} {outer : List Env} {A₀ : Around} {base h₀ : Heap} {L : Addr} {m : Str → Option Value} {s : Shared} {Q E : Value → Shared → Prop} {news : List (Addr × Obj)}
    (B : Below A₀ base outer h₀) (F : Fr h₀ L s.heap m) (X : (T49.K w.params).In h₀) (N : News h₀ L s.heap news) (T : Top T49.vw loose mean mg mb h₀) (hk : cs.kind = .function) (hd : dp + 12 < recursionLimit) (hu : un + 300 < cLine)
    {D : Addr} {us : List Value} {gs : List Int} {c : Nat} {z : Int} {tz : Tok} (hD : (D, listOf us.toArray c) ∈ news) (hI : IntsAre us gs) (hz0 : 0 ≤ z) (hz1 : z ≤ 100) (hgl : gs.length ≤ 100)
    (hret : ∀ (t : Tok) (h' : Heap) (tk' : Nat), Fr h₀ L h' m → News h₀ L h' news → Q (.str (dueT gs z) t) { s with heap := h', toks := tk' }) :
    wpAny (model PySem.Challenge.rw_tp0049_02.row.prog w) (ktrTop dp un gd cn cs L ca ccd cl outer) (call (.ref 155) [.ref D, .int z tz]) Q E s := by
  k_with_none
  (k_with "eval ListComp" => ((k_here; (with_reducible show wpAny _ _ (eval (Expr.ListComp (Expr.Name _ _) _ _ _) _) _ _ _); lcg_calm; k_dflt (refine LCt.ListComp_T (F₀ := by k_asm) (by with_unfolding_all rfl) (by decide) (by rfl) (by decide) (by rfl) ?_))))
  (k_with "CompSrcT" => ((k_here; (with_reducible show LCt.CompSrcT _ _ _ _ _ _ _ (Expr.BoolOp _ _ _) _ _ _ _ _ _ _); k_dflt (refine LCt.CompSrcT.ledger (by rfl) (by k_asm) (by k_asm) (by k_mem) (size_of hI hgl) ?_); intro g'; k_dflt (refine rest_ints (fun g => g == 4 || g == z + 8) (by exact Or.inr ⟨_, by k_mem, rfl, _, rfl⟩) hI ?_ ?_); (first | (intro n9 t9 I oI C oC D m₂ ys h tk E' hM9 hC hx F N off ne) | (intro ys9 hys9)))))
  (k_with "CompSrcT" => ((k_here; (with_reducible show LCt.CompSrcT _ _ _ _ _ _ _ (Expr.Compare _ [_, _] _ _) _ _ _ _ _ _ _); k_dflt (refine LCt.CompSrcT.ledger (by rfl) (by k_asm) (by k_asm) (by k_mem) (size_of hI hgl) ?_); intro g'; k_dflt (refine rest_ints (fun g => decide (4 < g) && decide (g < z + 8)) (by exact Or.inr ⟨_, by k_mem, rfl, _, rfl⟩) hI ?_ ?_); (first | (intro n9 t9 I oI C oC D m₂ ys h tk E' hM9 hC hx F N off ne) | (intro ys9 hys9)))))
  (k_with "CompSrcT" => ((k_here; (with_reducible show LCt.CompSrcT _ _ _ _ _ _ _ (Expr.Compare _ [CmpOp.Lt] [_] _) _ _ _ _ _ _ _); k_dflt (refine LCt.CompSrcT.ledger (by rfl) (by k_asm) (by k_asm) (by k_mem) (size_of hI hgl) ?_); intro g'; k_dflt (refine rest_ints (fun g => decide (g < 3)) (by exact Or.inr ⟨_, by k_mem, rfl, _, rfl⟩) hI ?_ ?_); (first | (intro n9 t9 I oI C oC D m₂ ys h tk E' hM9 hC hx F N off ne) | (intro ys9 hys9)))))
  (k_with "CompSrcT" => ((k_here; (with_reducible show LCt.CompSrcT _ _ _ _ _ _ _ (Expr.Compare _ [CmpOp.Gt] [_] _) _ _ _ _ _ _ _); k_dflt (refine LCt.CompSrcT.ledger (by rfl) (by k_asm) (by k_asm) (by k_mem) (size_of (by assumption) (Nat.le_trans (List.length_filter_le _ _) hgl)) ?_); intro g'; k_dflt (refine rest_ints (fun g => decide (g > 6)) (by exact Or.inr ⟨_, by k_mem, rfl, _, rfl⟩) (by assumption) ?_ ?_); (first | (intro n9 t9 I oI C oC D m₂ ys h tk E' hM9 hC hx F N off ne) | (intro ys9 hys9)))))
  (k_with "CompEnd" => ((k_here; k_dflt (refine LCg.CompEnd.intro (by assumption) (by assumption) _ (fun p hp => hp) (by assumption) (by exact Or.inr ⟨_, by k_mem, rfl, _, rfl⟩) ?_); first | (k_dflt (exact ⟨rfl, by simp; omega, _, rfl⟩)) | (k_dflt (exact ⟨rfl, by simp; omega⟩)))))
  (k_with "exec Assign cons ListComp" => ((k_here; lcg_calm; k_dflt (refine LCt.Assign_ListComp_T (F₀ := by k_asm) (by rfl) (by with_unfolding_all rfl) (by with_unfolding_all rfl) (by decide) (by rfl) (by decide) (by rfl) (by rfl) (by rfl) ?_); k_dflt lct_toSrc)))
  (k_with "call builtin:len" => ((k_here; k_dflt (refine len_ints9 (by k_asm) (by k_mem) (by assumption) (Nat.le_trans (List.length_filter_le _ _) (by omega)) ?_); intro t9 tk9; (try dsimp only); (try k_fold))))
  replace N := news_cons3 N hD N
  refine wpAny_call ?_
  k_dflt (refine' code_defC ?k1 ?k2 ?k3 ?k4 ?k5 ?kA ?kF ?kK ?k6 ?k7 ?k8 ?k9 ?kB ?kD ?_ ?c2 ?c3 ?c4; (case kA => exact rfl); (case kF => exact rfl); (case kK => assumption); (case k1 => k_asm); (case k2 => k_asm); (case k3 => k_asm); (case k4 => k_asm); (case k5 => k_asm); (case k6 => k_is); (case k7 => k_is); (case k8 => ktr_room); (case k9 => exact BindsTo.of_eq rfl); (case kB => exact rfl); (case kD => decide +kernel); (case c2 => exact rfl); (case c3 => exact rfl); (case c4 => exact rfl); k_whole; intro g' L' h' tk' cells' FG' F' N' Y' B' X' T' l1; (try k_lt l1); k_cells Y'; (try simp only [List.cons_append, List.nil_append] at N'); (try dsimp only); (try k_lift B'); (try k_fold))
  k_steps
  all_goals first
    | (exfalso; omega)
    | (rw [due_code (by assumption)] at hret; exact hret _ _ _ (by k_asm) (by (refine' cb_drop ?cbN ?cbS; (case cbN => assumption); (case cbS => kcj_all))))
    | (rw [due_proto1 (by assumption) (by assumption)] at hret; exact hret _ _ _ (by k_asm) (by (refine' cb_drop ?cbN ?cbS; (case cbN => assumption); (case cbS => kcj_all))))
    | (rw [due_proto2 (by assumption) (by assumption) (by assumption)] at hret; exact hret _ _ _ (by k_asm) (by (refine' cb_drop ?cbN ?cbS; (case cbN => assumption); (case cbS => kcj_all))))
    | (rw [due_val1 (by assumption) (by assumption) (by assumption)] at hret; exact hret _ _ _ (by k_asm) (by (refine' cb_drop ?cbN ?cbS; (case cbN => assumption); (case cbS => kcj_all))))
    | (rw [due_val2 (by assumption) (by assumption) (by assumption) (by assumption)] at hret; exact hret _ _ _ (by k_asm) (by (refine' cb_drop ?cbN ?cbS; (case cbN => assumption); (case cbS => kcj_all))))
    | (rw [due_port (by assumption) (by assumption) (by assumption) (by assumption)] at hret; exact hret _ _ _ (by k_asm) (by (refine' cb_drop ?cbN ?cbS; (case cbN => assumption); (case cbS => kcj_all))))
end
section
open PySem.NumText
theorem step_bad {c : Nat} (h : ¬ (48 ≤ c ∧ c ≤ 57)) (h2 : c ≠ 95) (p : Array Nat × Bool) : NumText.step 10 p c = none := by
  unfold NumText.step
  rw [if_neg (by simpa using h2)]
  unfold digit?
  rw [if_neg (by simpa using h)]
  split
  · rename_i d hd
    split at hd
    · rename_i h3
      simp only [Bool.and_eq_true, decide_eq_true_eq] at h3
      cases hd
      exact if_neg (by omega)
    · split at hd
      · rename_i h3
        simp only [Bool.and_eq_true, decide_eq_true_eq] at h3
        cases hd
        exact if_neg (by omega)
      · cases hd
  · rfl
theorem fold_bad : ∀ (cs : List Nat) (p : Array Nat × Bool), (∃ c ∈ cs, ¬ (48 ≤ c ∧ c ≤ 57) ∧ c ≠ 95) → cs.foldlM (NumText.step 10) p = none
  | [], _, h => by obtain ⟨c, hc, _⟩ := h; cases hc
  | c :: cs, p, h => by
    rw [List.foldlM_cons]
    cases e : NumText.step 10 p c with
    | none => rfl
    | some p' =>
      show cs.foldlM (NumText.step 10) p' = none
      obtain ⟨b, hb, h1, h2⟩ := h
      rcases List.mem_cons.mp hb with rfl | hb
      · rw [step_bad h1 h2] at e; cases e
      · exact fold_bad cs p' ⟨b, hb, h1, h2⟩
noncomputable def OkC (c : Nat) : Prop := 33 ≤ c ∧ c ≠ 43 ∧ c ≠ 45 ∧ c ≠ 95
theorem core_ok {t : List Nat} (h : ∀ c ∈ t, OkC c) : core t = t := by
  have drop : ∀ l : List Nat, (∀ c ∈ l, OkC c) → l.dropWhile blank = l := by
    intro l hl
    cases l with
    | nil => rfl
    | cons c l => exact dropWhile_of (hl c List.mem_cons_self).1
  unfold core
  rw [drop t h]
  have e : (sign t).2 = t := by
    cases t with
    | nil => rfl
    | cons c t =>
      have := h c List.mem_cons_self
      rw [sign_of this.2.2.1 this.2.1]
  rw [e, drop t.reverse (fun c hc => h c (List.mem_reverse.mp hc)), List.reverse_reverse]
noncomputable def Foreign (c : Nat) : Prop := 127 ≤ c ∧ Unicode.isSpace c = false ∧ Unicode.decimalValue? c = none
theorem number_ok : ∀ {l : List Nat}, (∀ c ∈ l, (OkC c ∧ c < 127) ∨ Foreign c) → (∃ c ∈ l, ¬ (48 ≤ c ∧ c ≤ 57)) → (∀ c ∈ Unicode.numberText l, OkC c) ∧ ∃ c ∈ Unicode.numberText l, ¬ (48 ≤ c ∧ c ≤ 57)
  | [], _, h => by obtain ⟨c, hc, _⟩ := h; cases hc
  | c :: l, hl, h => by
    rw [Unicode.numberText]
    rcases hl c List.mem_cons_self with ⟨hc, hlt⟩ | ⟨h1, h2, h3⟩
    · rw [if_pos hlt]
      by_cases hd : 48 ≤ c ∧ c ≤ 57
      · obtain ⟨b, hb, hnb⟩ := h
        rcases List.mem_cons.mp hb with rfl | hb
        · exact absurd hd hnb
        · obtain ⟨i1, b', i2, i3⟩ := number_ok (l := l) (fun c hc => hl c (List.mem_cons_of_mem _ hc)) ⟨b, hb, hnb⟩
          refine ⟨fun d hd => ?_, b', List.mem_cons_of_mem _ i2, i3⟩
          rcases List.mem_cons.mp hd with rfl | hd
          · exact hc
          · exact i1 d hd
      · refine ⟨fun d hd' => ?_, c, List.mem_cons_self, hd⟩
        rcases List.mem_cons.mp hd' with rfl | hd'
        · exact hc
        · by_cases he : ∃ c ∈ l, ¬ (48 ≤ c ∧ c ≤ 57)
          · exact (number_ok (l := l) (fun c hc => hl c (List.mem_cons_of_mem _ hc)) he).1 d hd'
          · have hall : ∀ c ∈ l, 48 ≤ c ∧ c ≤ 57 := fun c hc => Classical.byContradiction fun hn => he ⟨c, hc, hn⟩
            have same : ∀ l : List Nat, (∀ c ∈ l, 48 ≤ c ∧ c ≤ 57) → Unicode.numberText l = l := by
              intro l
              induction l with
              | nil => intro _; rfl
              | cons c l ih =>
                intro h
                have := h c List.mem_cons_self
                rw [Unicode.numberText, if_pos (by omega), ih fun c hc => h c (List.mem_cons_of_mem _ hc)]
            rw [same l hall] at hd'
            have := hall d hd'
            exact ⟨by omega, by omega, by omega, by omega⟩
    · rw [if_neg (by omega), h2, h3]
      refine ⟨fun d hd => ?_, 63, by simp, by decide⟩
      have : d = 63 := by simpa using hd
      subst this
      exact ⟨by decide, by decide, by decide, by decide⟩
theorem noNum {y : Str} (h1 : y.length ≤ 100) (h2 : ∀ c ∈ y.cps.toList, (OkC c ∧ c < 127) ∨ Foreign c) (h3 : ∃ c ∈ y.cps.toList, ¬ (48 ≤ c ∧ c ≤ 57)) (h4 : ∀ c ∈ y.cps.toList, c < 1114112) : NoNum y := by
  refine ⟨by omega, ?_, ?_⟩
  · have := StrLaws.reprText_len y (fun c hc => Nat.lt_of_lt_of_le (h4 c hc) (by decide))
    rw [sizeLine_eq]; omega
  · have key : (∀ c ∈ numTextOf y, OkC c) ∧ ∃ c ∈ numTextOf y, ¬ (48 ≤ c ∧ c ≤ 57) := by
      show (∀ c ∈ (if y.cps.all (· < 128) then y.cps.toList else Unicode.numberText y.cps.toList), OkC c) ∧ ∃ c ∈ (if y.cps.all (· < 128) then y.cps.toList else Unicode.numberText y.cps.toList), ¬ (48 ≤ c ∧ c ≤ 57)
      split
      · rename_i hall
        rw [← Array.all_toList, List.all_eq_true] at hall
        refine ⟨fun c hc => ?_, h3⟩
        have hlt := of_decide_eq_true (hall c hc)
        rcases h2 c hc with h | h
        · exact h.1
        · have := h.1
          have e : c = 127 := by omega
          subst e
          exact ⟨by decide, by decide, by decide, by decide⟩
      · exact number_ok h2 h3
    have hs : numSeenOf y = numTextOf y := takeWhile_all fun c hc => bne_iff_ne.mpr (by have := (key.1 c hc).1; omega)
    rw [readNumeral_ten, hs, core_ok key.1]
    obtain ⟨c, hc, hn⟩ := key.2
    have hd : digits? 10 (numTextOf y) = none := by
      unfold digits?
      rw [fold_bad _ _ ⟨c, hc, hn, (key.1 c hc).2.2.2⟩]
      rfl
    rw [hd]
    rfl
end
section
theorem par40 : Str.ofString "(" = ⟨#[40]⟩ := by decide +kernel
theorem par41 : Str.ofString ")" = ⟨#[41]⟩ := by decide +kernel
theorem s229 : Str.ofString "229" = ⟨#[50, 50, 57]⟩ := by decide +kernel
section
variable {x : Str} {pre inner post : List Nat}
theorem g_len (hx : x.cps.toList = pre ++ 40 :: (inner ++ 41 :: post)) : x.length = pre.length + 2 + inner.length + post.length := by
  rw [← len_list, hx]
  simp only [List.length_append, List.length_cons]
  omega
theorem g_at (hx : x.cps.toList = pre ++ 40 :: (inner ++ 41 :: post)) (j : Nat) : x.cps.toList[pre.length + 1 + j]? = (inner ++ 41 :: post)[j]? := by
  rw [hx, List.getElem?_append_right (by omega), show pre.length + 1 + j - pre.length = j + 1 by omega, List.getElem?_cons_succ]
theorem g_find (hx : x.cps.toList = pre ++ 40 :: (inner ++ 41 :: post)) (h40 : 40 ∉ pre) : Txt.find x (Str.ofString "(") = (pre.length : Int) := by
  rw [par40]
  refine find_first x 40 pre.length ?_ fun i hi e => ?_
  · rw [hx, List.getElem?_append_right (Nat.le_refl _), Nat.sub_self, List.getElem?_cons_zero]
  · rw [hx, List.getElem?_append_left hi] at e
    exact h40 (List.mem_of_getElem? e)
theorem g_find3 (hx : x.cps.toList = pre ++ 40 :: (inner ++ 41 :: post)) (h41 : 41 ∉ inner) : Txt.find3 x (Str.ofString ")") ((pre.length : Int) + 1) = ((pre.length + 1 + inner.length : Nat) : Int) := by
  rw [par41]
  refine find3_first x 41 (pre.length + 1 + inner.length) _ (by omega) (by omega) ?_ fun j h1 h2 e => ?_
  · rw [g_at hx, List.getElem?_append_right (Nat.le_refl _), Nat.sub_self, List.getElem?_cons_zero]
  · rw [show j = pre.length + 1 + (j - (pre.length + 1)) by omega, g_at hx, List.getElem?_append_left (by omega)] at e
    exact h41 (List.mem_of_getElem? e)
theorem g_item (hx : x.cps.toList = pre ++ 40 :: (inner ++ 41 :: post)) {a : Nat} {rest : List Nat} (hi : inner = a :: rest) : Txt.item x ((pre.length : Int) + 1) = ⟨#[a]⟩ := by
  have hl := g_len hx
  have h := g_at hx 0
  subst hi
  rw [show ((pre.length : Int) + 1) = ((pre.length + 1 : Nat) : Int) by omega, item_get (by simp only [List.length_cons] at hl; omega), List.getD_eq_getElem?_getD, show pre.length + 1 = pre.length + 1 + 0 by omega, h]
  rfl
theorem g_last (hx : x.cps.toList = pre ++ 40 :: (inner ++ 41 :: post)) {d : Nat} {front : List Nat} (hi : inner = front ++ [d]) : Txt.item x (((pre.length + 1 + inner.length : Nat) : Int) - 1) = ⟨#[d]⟩ := by
  have hl := g_len hx
  have h := g_at hx front.length
  subst hi
  simp only [List.length_append, List.length_singleton] at hl ⊢
  rw [show (((pre.length + 1 + (front.length + 1) : Nat) : Int) - 1) = ((pre.length + 1 + front.length : Nat) : Int) by omega, item_get (by omega), List.getD_eq_getElem?_getD, h, List.append_assoc, List.getElem?_append_right (Nat.le_refl _), Nat.sub_self]
  rfl
theorem g_slice (hx : x.cps.toList = pre ++ 40 :: (inner ++ 41 :: post)) : (Txt.slice x (some ((pre.length : Int) + 1)) (some ((pre.length + 1 + inner.length : Nat) : Int))).cps.toList = inner := by
  have hl := g_len hx
  rw [slice_mid (by omega) (by omega) (by omega), hx, show ((pre.length : Int) + 1).toNat = pre.length + 1 by omega, show (((pre.length + 1 + inner.length : Nat) : Int) - ((pre.length : Int) + 1)).toNat = inner.length by omega]
  rw [List.drop_append, List.drop_of_length_le (by omega), show pre.length + 1 - pre.length = 1 by omega]
  simp
theorem g_three (hx : x.cps.toList = pre ++ 40 :: (inner ++ 41 :: post)) (h3 : 3 ≤ pre.length) : (Txt.slice x none (some 3) != Str.ofString "229") = (pre.take 3 != [50, 50, 57]) := by
  have hl := g_len hx
  have e : (Txt.slice x none (some 3)).cps.toList = pre.take 3 := by
    rw [slice_to (by decide) (by omega), hx, List.take_append_of_le_length (by simpa using h3)]
    rfl
  rw [s229]
  by_cases h : pre.take 3 = [50, 50, 57]
  · have : Txt.slice x none (some 3) = ⟨#[50, 50, 57]⟩ := Str.ext' (Array.toList_inj.mp (by rw [e, h]))
    rw [this, h]; decide
  · have h1 : Txt.slice x none (some 3) ≠ ⟨#[50, 50, 57]⟩ := fun q => h (by rw [← e, q])
    rw [bne_iff_ne.mpr h1, bne_iff_ne.mpr h]
end
/-- what _law_told tells of x: the premises of C_told, arm by arm -/
structure Meant (x : Str) (port : Int) (due : Str) : Prop where
  ex : ∃ l r : Int, Txt.find x (Str.ofString "(") = l ∧ Txt.find3 x (Str.ofString ")") (l + 1) = r ∧ 0 ≤ l ∧ l + 2 ≤ r ∧ r < (x.length : Int) ∧ x.length ≤ 600 ∧
    ((Txt.slice x none (some 3) != Str.ofString "229") = true → due = Str.ofString "code") ∧
    ((Txt.slice x none (some 3) != Str.ofString "229") = false → (Txt.item x (l + 1) ≠ Txt.item x (r - 1) ∨ (Txt.split (Txt.slice x (some (l + 1)) (some r)) (Txt.item x (l + 1))).length ≠ 5) → due = Str.ofString "proto") ∧
    (∀ y, (Txt.split (Txt.slice x (some (l + 1)) (some r)) (Txt.item x (l + 1)))[3]? = some y → (∃ n, PySem.intText? y = some n) ∨ NoNum y) ∧
    ((Txt.slice x none (some 3) != Str.ofString "229") = false → Txt.item x (l + 1) = Txt.item x (r - 1) → (Txt.split (Txt.slice x (some (l + 1)) (some r)) (Txt.item x (l + 1))).length = 5 → ∀ y, (Txt.split (Txt.slice x (some (l + 1)) (some r)) (Txt.item x (l + 1)))[3]? = some y → NoNum y → due = Str.ofString "value") ∧
    ((Txt.slice x none (some 3) != Str.ofString "229") = false → Txt.item x (l + 1) = Txt.item x (r - 1) → (Txt.split (Txt.slice x (some (l + 1)) (some r)) (Txt.item x (l + 1))).length = 5 → ∀ y n, (Txt.split (Txt.slice x (some (l + 1)) (some r)) (Txt.item x (l + 1)))[3]? = some y → PySem.intText? y = some n → due = Str.ofString "port" ∧ n = port)
end
section
noncomputable def has (gs : List Int) (i : Nat) : Bool := gs.contains (i : Int)
noncomputable def opt (gs : List Int) (s i : Nat) : List Nat := if has gs i = true then [s] else []
noncomputable def strewP (gs : List Int) (s : Nat) : List Nat → Nat → List Nat
  | [], _ => []
  | c :: r, i => opt gs s i ++ c :: strewP gs s r (i + 1)
noncomputable def strewL (gs : List Int) (s : Nat) : List Nat → Nat → List Nat
  | [], i => opt gs s i
  | c :: r, i => opt gs s i ++ c :: strewL gs s r (i + 1)
theorem strewL_app (gs : List Int) (s : Nat) : ∀ (a b : List Nat) (i : Nat), strewL gs s (a ++ b) i = strewP gs s a i ++ strewL gs s b (i + a.length)
  | [], b, i => rfl
  | c :: a, b, i => by
    rw [List.cons_append, strewL, strewL_app gs s a b (i + 1), strewP, List.length_cons, show i + (a.length + 1) = i + 1 + a.length by omega, List.append_assoc, List.cons_append]
theorem strewN_pre (x : Str) (gs : List Int) (sg : Str) (s : Nat) (hs : sg.cps.toList = [s]) : ∀ n, n ≤ x.length → (strewN x gs sg n).cps.toList ++ strewL gs s (x.cps.toList.drop n) n = strewL gs s x.cps.toList 0 := by
  intro n
  induction n with
  | zero => intro _; rfl
  | succ n ih =>
    intro hn
    rw [← ih (by omega)]
    have hl : n < x.cps.toList.length := by rw [len_list]; omega
    have e1 := slice_one x (n : Int) (by omega) (by omega)
    rw [if_pos (by omega)] at e1
    rw [List.drop_eq_getElem_cons hl, strewL]
    show (strewN x gs sg n ++ ((if gs.contains (n : Int) then sg else Str.ofString "") ++ Txt.slice x (some (n : Int)) (some ((n : Int) + 1)))).cps.toList ++ _ = _
    rw [cps_toList_append, cps_toList_append, e1]
    have e2 : (if gs.contains (n : Int) = true then sg else Str.ofString "").cps.toList = opt gs s n := by
      unfold opt has
      split
      · exact hs
      · rfl
    have e3 : x.cps.toList.getD (n : Int).toNat 0 = x.cps.toList[n] := by
      rw [Int.toNat_natCast, List.getD_eq_getElem?_getD, List.getElem?_eq_getElem hl]
      rfl
    rw [e2, e3]
    simp only [List.append_assoc, List.cons_append, List.nil_append]
theorem strewN_list (x : Str) (gs : List Int) (sg : Str) (s : Nat) (hs : sg.cps.toList = [s]) : (strewN x gs sg (x.length + 1)).cps.toList = strewL gs s x.cps.toList 0 := by
  rw [← strewN_pre x gs sg s hs x.length (Nat.le_refl _), List.drop_of_length_le (by rw [len_list]; exact Nat.le_refl _)]
  have e1 := slice_one x (x.length : Int) (by omega) (by omega)
  rw [if_neg (by omega)] at e1
  show (strewN x gs sg x.length ++ ((if gs.contains (x.length : Int) then sg else Str.ofString "") ++ Txt.slice x (some (x.length : Int)) (some ((x.length : Int) + 1)))).cps.toList = _
  rw [cps_toList_append, cps_toList_append, e1, List.append_nil]
  congr 1
  show _ = opt gs s x.length
  unfold opt has
  split
  · exact hs
  · rfl
/-- counts of gaps -/
theorem countP_or (gs : List Int) (p q : Int → Bool) (h : ∀ g, p g = true → q g = true → False) : gs.countP (fun g => p g || q g) = gs.countP p + gs.countP q := by
  induction gs with
  | nil => rfl
  | cons g gs ih =>
    rw [List.countP_cons, List.countP_cons, List.countP_cons, ih]
    have := h g
    cases hp : p g <;> cases hq : q g <;> simp_all <;> omega
theorem count_one (a : Int) : ∀ gs : List Int, gs.Nodup → a ∈ gs → List.count a gs = 1
  | [], _, h => nomatch h
  | g :: gs, hd, h => by
    obtain ⟨h1, h2⟩ := List.nodup_cons.mp hd
    rw [List.count_cons]
    by_cases e : g = a
    · subst e
      rw [List.count_eq_zero.mpr h1]; simp
    · rw [count_one a gs h2 ((List.mem_cons.mp h).resolve_left fun q => e q.symm)]
      simp [e]
theorem count_has (gs : List Int) (hd : gs.Nodup) (i : Nat) : gs.countP (fun g => g == (i : Int)) = if has gs i = true then 1 else 0 := by
  show List.count (i : Int) gs = _
  unfold has
  by_cases h : (i : Int) ∈ gs
  · rw [if_pos (List.contains_iff_mem.mpr h)]
    exact count_one _ gs hd h
  · rw [if_neg (fun q => h (List.contains_iff_mem.mp q))]
    exact List.count_eq_zero.mpr h
noncomputable def cntR (gs : List Int) (a : Nat) : Nat → Nat
  | 0 => 0
  | n + 1 => cntR gs a n + if has gs (a + n) = true then 1 else 0
theorem count_range (gs : List Int) (hd : gs.Nodup) (a : Nat) : ∀ n : Nat, gs.countP (fun g => decide ((a : Int) ≤ g) && decide (g < (a : Int) + n)) = cntR gs a n := by
  intro n
  induction n with
  | zero =>
    show _ = 0
    rw [List.countP_eq_zero]
    intro g _
    simp
    try omega
  | succ n ih =>
    show _ = cntR gs a n + _
    rw [← ih, ← count_has gs hd (a + n), ← countP_or]
    · congr 1
      funext g
      rw [Bool.eq_iff_iff]
      simp
      omega
    · intro g h1 h2
      simp at h1 h2
      omega
end
section
theorem cntR_front (gs : List Int) (a : Nat) : ∀ n, cntR gs a (n + 1) = (if has gs a = true then 1 else 0) + cntR gs (a + 1) n := by
  intro n
  induction n with
  | zero => show 0 + _ = _ + 0; rw [Nat.add_zero, Nat.zero_add, Nat.add_zero]
  | succ n ih =>
    show cntR gs a (n + 1) + _ = _ + (cntR gs (a + 1) n + _)
    rw [ih, show a + (n + 1) = a + 1 + n by omega]
    omega
section
variable {gs : List Int} {z : Nat}
theorem d_code (h0 : ∀ g ∈ gs, 0 ≤ g) : (gs.filter (fun g => decide (g < 3)) = []) ↔ has gs 0 = false ∧ has gs 1 = false ∧ has gs 2 = false := by
  unfold has
  simp only [List.filter_eq_nil_iff, decide_eq_true_eq, Bool.eq_false_iff, ne_eq, List.contains_iff_mem]
  constructor
  · intro h
    exact ⟨fun q => h _ q (by decide), fun q => h _ q (by decide), fun q => h _ q (by decide)⟩
  · rintro ⟨a, b, c⟩ g hg hlt
    have := h0 g hg
    rcases (show g = 0 ∨ g = 1 ∨ g = 2 by omega) with rfl | rfl | rfl
    · exact a hg
    · exact b hg
    · exact c hg
theorem d_ends (hd : gs.Nodup) : (gs.filter fun g => g == 4 || g == (z : Int) + 8).length = (if has gs 4 = true then 1 else 0) + (if has gs (z + 8) = true then 1 else 0) := by
  rw [← List.countP_eq_length_filter, ← count_has gs hd 4, ← count_has gs hd (z + 8), ← countP_or]
  · rfl
  · intro g h1 h2
    simp at h1 h2
    omega
theorem d_btw (hd : gs.Nodup) : (gs.filter fun g => decide (4 < g) && decide (g < (z : Int) + 8)).length = (if has gs 5 = true then 1 else 0) + ((if has gs 6 = true then 1 else 0) + cntR gs 7 (z + 1)) := by
  rw [← cntR_front, ← cntR_front, ← count_range gs hd, ← List.countP_eq_length_filter]
  congr 1
  funext g
  rw [Bool.eq_iff_iff]
  simp
  omega
theorem d_six (hd : gs.Nodup) : ((gs.filter fun g => decide (4 < g) && decide (g < (z : Int) + 8)).filter (fun g => decide (g > 6)) = []) ↔ cntR gs 7 (z + 1) = 0 := by
  rw [← count_range gs hd, List.filter_filter, ← List.length_eq_zero_iff, ← List.countP_eq_length_filter]
  have e : (fun g : Int => decide (g > 6) && (decide (4 < g) && decide (g < (z : Int) + 8))) = fun g => decide (((7 : Nat) : Int) ≤ g) && decide (g < ((7 : Nat) : Int) + ((z + 1 : Nat) : Int)) := by
    funext g
    rw [Bool.eq_iff_iff]
    simp
    omega
  rw [e]
end
section
variable {gs : List Int} {s : Nat}
theorem count_opt (i : Nat) : List.count s (opt gs s i) = if has gs i = true then 1 else 0 := by
  unfold opt
  split <;> simp
theorem count_strewP : ∀ (ds : List Nat) (i : Nat), s ∉ ds → List.count s (strewP gs s ds i) = cntR gs i ds.length
  | [], _, _ => rfl
  | c :: r, i, h => by
    have hc : c ≠ s := fun q => h (q ▸ List.mem_cons_self)
    rw [strewP, List.count_append, count_opt, List.count_cons, count_strewP r (i + 1) fun q => h (List.mem_cons_of_mem _ q), List.length_cons, cntR_front]
    simp [hc]
theorem opt_nil {i : Nat} (h : has gs i = false) : opt gs s i = [] := if_neg (by rw [h]; decide)
theorem opt_one {i : Nat} (h : has gs i = true) : opt gs s i = [s] := if_pos h
theorem strewP_none : ∀ (ds : List Nat) (i : Nat), cntR gs i (ds.length + 1) = 0 → strewP gs s ds i ++ opt gs s (i + ds.length) = ds
  | [], i, h => by
    rw [cntR_front] at h
    cases hh : has gs i with
    | false => exact opt_nil hh
    | true => rw [hh] at h; simp at h
  | c :: r, i, h => by
    rw [cntR_front] at h
    have ih := strewP_none r (i + 1) (by simp only [List.length_cons] at h; omega)
    cases hh : has gs i with
    | true => rw [hh] at h; simp at h
    | false =>
      rw [strewP, opt_nil hh, List.nil_append, List.length_cons, show i + (r.length + 1) = i + 1 + r.length by omega, List.cons_append, ih]
theorem opt_sub (i : Nat) : ∀ c ∈ opt gs s i, c = s := by
  intro c hc
  unfold opt at hc
  split at hc
  · simpa using hc
  · cases hc
theorem opt_len (i : Nat) : (opt gs s i).length ≤ 1 := by
  unfold opt
  split <;> simp
theorem strewP_sub : ∀ (ds : List Nat) (i : Nat), ∀ c ∈ strewP gs s ds i, c = s ∨ c ∈ ds
  | [], _, _, h => nomatch h
  | a :: r, i, c, h => by
    rw [strewP] at h
    rcases List.mem_append.mp h with h | h
    · exact .inl (opt_sub i c h)
    · rcases List.mem_cons.mp h with rfl | h
      · exact .inr List.mem_cons_self
      · exact (strewP_sub r (i + 1) c h).imp id (List.mem_cons_of_mem _)
theorem strewP_len : ∀ (ds : List Nat) (i : Nat), (strewP gs s ds i).length ≤ 2 * ds.length
  | [], _ => Nat.le_refl _
  | a :: r, i => by
    have h1 := strewP_len r (i + 1)
    have h2 := opt_len (gs := gs) (s := s) i
    rw [strewP, List.length_append, List.length_cons, List.length_cons]
    omega
end
/-- parts of a glued list -/
theorem joinL_count (c : Nat) : ∀ l : List (List Nat), l ≠ [] → (∀ y ∈ l, c ∉ y) → List.count c (joinL c l) + 1 = l.length
  | [], h, _ => absurd rfl h
  | [x], _, hf => by
    show List.count c x + 1 = 1
    rw [List.count_eq_zero.mpr (hf x List.mem_cons_self)]
  | x :: y :: r, _, hf => by
    show List.count c (x ++ c :: joinL c (y :: r)) + 1 = _
    have := joinL_count c (y :: r) (by simp) fun w hw => hf w (List.mem_cons_of_mem _ hw)
    rw [List.count_append, List.count_eq_zero.mpr (hf x List.mem_cons_self), List.count_cons_self, List.length_cons, ← this]
    omega
theorem joinL_mem (c : Nat) : ∀ (l : List (List Nat)), ∀ y ∈ l, ∀ a ∈ y, a ∈ joinL c l
  | [], _, h, _, _ => nomatch h
  | [x], y, h, a, ha => by
    obtain rfl := List.mem_singleton.mp h
    exact ha
  | x :: z :: r, y, h, a, ha => by
    show a ∈ x ++ c :: joinL c (z :: r)
    rcases List.mem_cons.mp h with rfl | h
    · exact List.mem_append_left _ ha
    · exact List.mem_append_right _ (List.mem_cons_of_mem _ (joinL_mem c (z :: r) y h a ha))
theorem glast (a : List Nat) {b : List Nat} (h : b ≠ []) : (a ++ b).getLast? = b.getLast? := by
  rw [List.getLast?_append, List.getLast?_eq_some_getLast h]
  rfl
theorem last_of_app {a b : List Nat} {x : Nat} (h : b ≠ []) (e : (a ++ b).getLast? = some x) : x ∈ b := by
  rw [glast _ h] at e
  exact List.mem_of_getLast? e
/-- five parts, the glued list ends with m and the glue: the fourth part holds m -/
theorem fourth_has {c m : Nat} {a0 a1 a2 a3 a4 front : List Nat} (hne : m ≠ c) (h4 : c ∉ a4) (e : joinL c [a0, a1, a2, a3, a4] = front ++ [m, c]) : m ∈ a3 := by
  have e0 : (a0 ++ c :: (a1 ++ c :: (a2 ++ c :: a3))) ++ c :: a4 = front ++ [m] ++ [c] := by
    have : joinL c [a0, a1, a2, a3, a4] = (a0 ++ c :: (a1 ++ c :: (a2 ++ c :: a3))) ++ c :: a4 := by simp [joinL]
    rw [← this, e]; simp
  have h : a4 = [] := Classical.byContradiction fun hn => by
    have hl := congrArg List.getLast? e0
    rw [glast _ (by simp), glast (front ++ [m]) (by simp)] at hl
    rw [show c :: a4 = [c] ++ a4 from rfl, glast _ hn] at hl
    exact h4 (List.mem_of_getLast? hl)
  subst h
  have e1 := List.append_inj_left' e0 rfl
  have hl := congrArg List.getLast? e1
  rw [glast front (by simp)] at hl
  by_cases hn : a3 = []
  · subst hn
    rw [show a0 ++ c :: (a1 ++ c :: (a2 ++ c :: [])) = (a0 ++ c :: (a1 ++ c :: a2)) ++ [c] by simp, glast _ (by simp)] at hl
    exact absurd (Option.some.inj hl).symm hne
  · rw [show a0 ++ c :: (a1 ++ c :: (a2 ++ c :: a3)) = (a0 ++ c :: (a1 ++ c :: (a2 ++ [c]))) ++ a3 by simp] at hl
    exact last_of_app hn hl
end
section
open PySem.NumText PySem.StrLaws
noncomputable def SignOk (s : Nat) : Prop := Foreign s ∧ s < 1114112
noncomputable def MarkOk (m : Nat) : Prop := ((OkC m ∧ m < 127) ∨ Foreign m) ∧ m < 1114112 ∧ ¬ (48 ≤ m ∧ m ≤ 57) ∧ m ≠ 40 ∧ m ≠ 41
theorem num_or {y : Str} (h1 : y.length ≤ 100) (h2 : ∀ c ∈ y.cps.toList, (OkC c ∧ c < 127) ∨ Foreign c) (h4 : ∀ c ∈ y.cps.toList, c < 1114112) : (∃ n, PySem.intText? y = some n) ∨ NoNum y := by
  by_cases h3 : ∃ c ∈ y.cps.toList, ¬ (48 ≤ c ∧ c ≤ 57)
  · exact .inr (noNum h1 h2 h3 h4)
  · have hd : AllDigits y.cps.toList := fun c hc => Classical.byContradiction fun hn => h3 ⟨c, hc, hn⟩
    by_cases h0 : y.cps.toList = []
    · have e : y = ⟨#[]⟩ := Str.ext' (Array.toList_inj.mp h0)
      subst e
      exact .inr ⟨by decide, by decide +kernel, by rw [readNumeral_ten, show numSeenOf ⟨#[]⟩ = [] by decide +kernel]; rfl⟩
    · exact .inl ⟨_, intText_digits hd h0 (by omega)⟩
theorem num_not {y : Str} {n : Int} (h : PySem.intText? y = some n) (hn : NoNum y) : False := by
  rcases read0 y (Nat.le_trans (seen_length y) hn.few) with ⟨k, _, _, h3⟩ | ⟨h1, _⟩
  · rw [hn.bad] at h3
    cases h3
  · rw [h] at h1
    cases h1
theorem part_of {x y : Str} {c : Nat} (h : y ∈ Txt.split x ⟨#[c]⟩) : ∀ a ∈ y.cps.toList, a ∈ x.cps.toList := by
  intro a ha
  have h1 := join_list c (Txt.split x ⟨#[c]⟩)
  rw [join_split] at h1
  rw [h1]
  exact joinL_mem c _ _ (List.mem_map_of_mem h) a ha
theorem split_count (x : Str) (c : Nat) : (Txt.split x ⟨#[c]⟩).length = List.count c x.cps.toList + 1 := by
  have h1 := join_list c (Txt.split x ⟨#[c]⟩)
  rw [join_split] at h1
  rw [h1, joinL_count c _ (fun h => split_ne x c (List.map_eq_nil_iff.mp h)) (fun y hy => ?_), List.length_map]
  obtain ⟨z, hz, rfl⟩ := List.mem_map.mp hy
  exact split_free x c z hz
section
variable {gs : List Int} {z s m : Nat} {ds : List Nat} {x : Str} {port : Int}
noncomputable def preT (gs : List Int) (s : Nat) : List Nat := opt gs s 0 ++ 50 :: (opt gs s 1 ++ 50 :: (opt gs s 2 ++ 57 :: opt gs s 3))
noncomputable def midT (gs : List Int) (s : Nat) (ds : List Nat) : List Nat := strewP gs s ds 7 ++ opt gs s (7 + ds.length)
noncomputable def innerT (gs : List Int) (s m : Nat) (ds : List Nat) : List Nat := opt gs s 4 ++ m :: (opt gs s 5 ++ m :: (opt gs s 6 ++ m :: (midT gs s ds ++ m :: opt gs s (ds.length + 8))))
theorem strewT_eq : strewL gs s ([50, 50, 57, 40, m, m, m] ++ (ds ++ [m, 41])) 0 = preT gs s ++ 40 :: (innerT gs s m ds ++ 41 :: opt gs s (ds.length + 9)) := by
  rw [strewL_app, strewL_app]
  simp only [strewP, strewL, preT, innerT, midT, List.length_cons, List.length_nil, Nat.zero_add, List.append_assoc, List.cons_append, List.nil_append]
  rw [show (1 + 1 + 1 + 1 + 1 + 1 + 1 : Nat) = 7 from rfl, show 7 + ds.length + 1 = ds.length + 8 by omega, show ds.length + 8 + 1 = ds.length + 9 by omega]
theorem midT_count (hs : s ∉ ds) : List.count s (midT gs s ds) = cntR gs 7 (ds.length + 1) := by
  unfold midT
  rw [List.count_append, count_strewP ds 7 hs, count_opt]
  rfl
theorem midT_sub : ∀ c ∈ midT gs s ds, c = s ∨ c ∈ ds := by
  intro c hc
  rcases List.mem_append.mp hc with h | h
  · exact strewP_sub ds 7 c h
  · exact .inl (opt_sub _ c h)
theorem innerT_sub : ∀ c ∈ innerT gs s m ds, c = s ∨ c = m ∨ c ∈ ds := by
  intro c hc
  unfold innerT at hc
  simp only [List.mem_append, List.mem_cons] at hc
  rcases hc with h | h | h | h | h | h | h | h | h
  · exact .inl (opt_sub _ c h)
  · exact .inr (.inl h)
  · exact .inl (opt_sub _ c h)
  · exact .inr (.inl h)
  · exact .inl (opt_sub _ c h)
  · exact .inr (.inl h)
  · exact (midT_sub c h).imp id .inr
  · exact .inr (.inl h)
  · exact .inl (opt_sub _ c h)
theorem innerT_len : 4 ≤ (innerT gs s m ds).length ∧ (innerT gs s m ds).length ≤ 10 + 2 * ds.length := by
  have l4 := opt_len (gs := gs) (s := s) 4
  have l5 := opt_len (gs := gs) (s := s) 5
  have l6 := opt_len (gs := gs) (s := s) 6
  have l7 := opt_len (gs := gs) (s := s) (7 + ds.length)
  have l8 := opt_len (gs := gs) (s := s) (ds.length + 8)
  have lp := strewP_len (gs := gs) (s := s) ds 7
  unfold innerT midT
  simp only [List.length_append, List.length_cons]
  omega
theorem preT_len : 3 ≤ (preT gs s).length ∧ (preT gs s).length ≤ 7 := by
  have l0 := opt_len (gs := gs) (s := s) 0
  have l1 := opt_len (gs := gs) (s := s) 1
  have l2 := opt_len (gs := gs) (s := s) 2
  have l3 := opt_len (gs := gs) (s := s) 3
  unfold preT
  simp only [List.length_append, List.length_cons]
  omega
theorem preT_sub : ∀ c ∈ preT gs s, c = s ∨ c = 50 ∨ c = 57 := by
  intro c hc
  unfold preT at hc
  simp only [List.mem_append, List.mem_cons] at hc
  rcases hc with h | h | h | h | h | h | h
  · exact .inl (opt_sub _ c h)
  · exact .inr (.inl h)
  · exact .inl (opt_sub _ c h)
  · exact .inr (.inl h)
  · exact .inl (opt_sub _ c h)
  · exact .inr (.inr h)
  · exact .inl (opt_sub _ c h)
theorem preT_code (hs : 127 ≤ s) : (preT gs s).take 3 = [50, 50, 57] ↔ has gs 0 = false ∧ has gs 1 = false ∧ has gs 2 = false := by
  unfold preT
  cases h0 : has gs 0 <;> cases h1 : has gs 1 <;> cases h2 : has gs 2 <;> simp [opt, h0, h1, h2] <;> omega
end
end
section
open PySem.NumText PySem.StrLaws
theorem str_of {y : Str} {l : List Nat} (h : y.cps.toList = l) : y = ⟨l.toArray⟩ := Str.ext' (Array.toList_inj.mp (by rw [h]))
theorem five {α : Type} {l : List α} (h : l.length = 5) : ∃ a b c d e, l = [a, b, c, d, e] := by
  match l, h with
  | [a, b, c, d, e], _ => exact ⟨a, b, c, d, e, rfl⟩
theorem joinL_len (c : Nat) : ∀ (l : List (List Nat)), ∀ y ∈ l, y.length ≤ (joinL c l).length
  | [], _, h => nomatch h
  | [x], y, h => by
    obtain rfl := List.mem_singleton.mp h
    exact Nat.le_refl _
  | x :: z :: r, y, h => by
    show _ ≤ (x ++ c :: joinL c (z :: r)).length
    rw [List.length_append, List.length_cons]
    rcases List.mem_cons.mp h with rfl | h
    · omega
    · have := joinL_len c (z :: r) y h
      omega
theorem split_len_le {x y : Str} {c : Nat} (h : y ∈ Txt.split x ⟨#[c]⟩) : y.length ≤ x.length := by
  have h1 := join_list c (Txt.split x ⟨#[c]⟩)
  rw [join_split] at h1
  rw [← len_list, ← len_list, h1]
  exact joinL_len c _ _ (List.mem_map_of_mem h)
/-- what _law_told tells of the strewn reply -/
theorem meant_strewn {gs : List Int} {s m : Nat} {ds : List Nat} {port : Int} {x : Str} (hd : gs.Nodup) (h0 : ∀ g ∈ gs, 0 ≤ g) (hz1 : ds.length ≤ 20) (hm : MarkOk m) (hs : SignOk s) (hne : s ≠ m)
    (hds : ∀ c ∈ ds, 48 ≤ c ∧ c ≤ 57) (hport : PySem.intText? ⟨ds.toArray⟩ = some port) (hx : x.cps.toList = strewL gs s ([50, 50, 57, 40, m, m, m] ++ (ds ++ [m, 41])) 0) : Meant x port (dueT gs (ds.length : Int)) := by
  rw [strewT_eq] at hx
  obtain ⟨hsF, hsL⟩ := hs
  obtain ⟨hm1, hm2, hm3, hm40, hm41⟩ := hm
  have hs127 := hsF.1
  have hsd : s ∉ ds := fun q => by have := hds s q; omega
  have hmd : m ∉ ds := fun q => hm3 (hds m q)
  have hlp := preT_len (gs := gs) (s := s)
  have hli := innerT_len (gs := gs) (s := s) (m := m) (ds := ds)
  have hlx := g_len hx
  have lpost := opt_len (gs := gs) (s := s) (ds.length + 9)
  have h40 : 40 ∉ preT gs s := fun q => by
    rcases preT_sub 40 q with h | h | h <;> omega
  have h41 : 41 ∉ innerT gs s m ds := fun q => by
    rcases innerT_sub 41 q with h | h | h
    · omega
    · exact hm41 h.symm
    · have := hds 41 h; omega
  have okc : ∀ c ∈ innerT gs s m ds, ((OkC c ∧ c < 127) ∨ Foreign c) ∧ c < 1114112 := by
    intro c hc
    rcases innerT_sub c hc with rfl | rfl | h
    · exact ⟨.inr hsF, hsL⟩
    · exact ⟨hm1, hm2⟩
    · have := hds c h
      exact ⟨.inl ⟨⟨by omega, by omega, by omega, by omega⟩, by omega⟩, by omega⟩
  have hfind := g_find hx h40
  have hfind3 := g_find3 hx h41
  have hthree := g_three hx hlp.1
  have hslice := g_slice hx
  -- every part is a number or none
  have hpart : ∀ (c : Nat) (y : Str), y ∈ Txt.split (Txt.slice x (some (((preT gs s).length : Int) + 1)) (some (((preT gs s).length + 1 + (innerT gs s m ds).length : Nat) : Int))) ⟨#[c]⟩ → (∀ a ∈ y.cps.toList, a ∈ innerT gs s m ds) ∧ y.length ≤ 100 := by
    intro c y hy
    have h1 : ∀ a ∈ y.cps.toList, a ∈ innerT gs s m ds := fun a ha => hslice ▸ part_of hy a ha
    refine ⟨h1, ?_⟩
    have h2 := split_len_le hy
    have e2 := congrArg List.length hslice
    rw [len_list] at e2
    omega
  have hnum : ∀ (c : Nat) (y : Str), y ∈ Txt.split (Txt.slice x (some (((preT gs s).length : Int) + 1)) (some (((preT gs s).length + 1 + (innerT gs s m ds).length : Nat) : Int))) ⟨#[c]⟩ → (∃ n, PySem.intText? y = some n) ∨ NoNum y := fun c y hy =>
    num_or (hpart c y hy).2 (fun a ha => (okc a ((hpart c y hy).1 a ha)).1) fun a ha => (okc a ((hpart c y hy).1 a ha)).2
  refine ⟨⟨(preT gs s).length, ((preT gs s).length + 1 + (innerT gs s m ds).length : Nat), hfind, hfind3, by omega, by omega, by omega, by omega, ?_⟩⟩
  by_cases hc : has gs 0 = false ∧ has gs 1 = false ∧ has gs 2 = false
  · have ht : (Txt.slice x none (some 3) != Str.ofString "229") = false := by
      rw [hthree, (preT_code hs127).mpr hc]; decide
    have D3 : decide (gs.filter (fun g => decide (g < 3)) = []) = true := decide_eq_true ((d_code h0).mpr hc)
    have hE := d_ends (z := ds.length) hd
    have hB := d_btw (z := ds.length) hd
    have h6 := d_six (z := ds.length) hd
    have hK := midT_count (gs := gs) hsd
    refine ⟨fun h => (by rw [ht] at h; cases h), ?_⟩
    cases h4 : has gs 4 <;> cases h8 : has gs (ds.length + 8)
    · -- no sign at the ends: split by the mark
      rw [h4, h8] at hE
      have hin : innerT gs s m ds = m :: (opt gs s 5 ++ m :: (opt gs s 6 ++ m :: (midT gs s ds ++ [m]))) := by
        unfold innerT; rw [opt_nil h4, opt_nil h8]; rfl
      have i1 := g_item hx hin
      have i2 := g_last hx (d := m) (front := m :: (opt gs s 5 ++ m :: (opt gs s 6 ++ m :: midT gs s ds))) (by rw [hin]; simp)
      have mo : ∀ i, m ∉ opt gs s i := fun i q => hne (opt_sub i m q).symm
      have mD : m ∉ midT gs s ds := fun q => by
        rcases midT_sub m q with h | h
        · exact hne h.symm
        · exact hmd h
      have sp := split_is (Txt.slice x (some (((preT gs s).length : Int) + 1)) (some (((preT gs s).length + 1 + (innerT gs s m ds).length : Nat) : Int))) m [[], opt gs s 5, opt gs s 6, midT gs s ds, []] (by simp) (by
        intro y hy
        simp only [List.mem_cons, List.not_mem_nil, or_false] at hy
        rcases hy with rfl | rfl | rfl | rfl | rfl
        · simp
        · exact mo 5
        · exact mo 6
        · exact mD
        · simp) (by rw [hslice, hin]; simp [joinL])
      rw [i1, i2]
      have len5 : (Txt.split (Txt.slice x (some (((preT gs s).length : Int) + 1)) (some (((preT gs s).length + 1 + (innerT gs s m ds).length : Nat) : Int))) ⟨#[m]⟩).length = 5 := by
        have := congrArg List.length sp
        simpa using this
      have at3 : ∀ y, (Txt.split (Txt.slice x (some (((preT gs s).length : Int) + 1)) (some (((preT gs s).length + 1 + (innerT gs s m ds).length : Nat) : Int))) ⟨#[m]⟩)[3]? = some y → y.cps.toList = midT gs s ds := by
        intro y hy
        have := congrArg (fun l => l[3]?) sp
        simp only [List.getElem?_map, hy] at this
        exact Option.some.inj this
      refine ⟨fun _ h => absurd h (by rintro (h | h); exact h rfl; exact h len5), fun y hy => hnum m y (List.mem_of_getElem? hy), ?_⟩
      by_cases hk : cntR gs 7 (ds.length + 1) = 0
      · have e1 : midT gs s ds = ds := strewP_none ds 7 hk
        have isP : ∀ y, (Txt.split (Txt.slice x (some (((preT gs s).length : Int) + 1)) (some (((preT gs s).length + 1 + (innerT gs s m ds).length : Nat) : Int))) ⟨#[m]⟩)[3]? = some y → PySem.intText? y = some port := fun y hy => by
          rw [str_of ((at3 y hy).trans e1)]; exact hport
        refine ⟨fun _ _ _ y hy hn => (num_not (isP y hy) hn).elim, fun _ _ _ y n hy hn => ⟨due_port D3 (by rw [hE]; decide) (by rw [hE]; decide) (decide_eq_true (h6.mpr hk)), ?_⟩⟩
        rw [isP y hy] at hn
        exact (Option.some.inj hn).symm
      · have hno : ∀ y, (Txt.split (Txt.slice x (some (((preT gs s).length : Int) + 1)) (some (((preT gs s).length + 1 + (innerT gs s m ds).length : Nat) : Int))) ⟨#[m]⟩)[3]? = some y → NoNum y := fun y hy => by
          have hp := hpart m y (List.mem_of_getElem? hy)
          refine noNum hp.2 (fun a ha => (okc a (hp.1 a ha)).1) ⟨s, ?_, by omega⟩ fun a ha => (okc a (hp.1 a ha)).2
          rw [at3 y hy]
          exact List.count_pos_iff.mp (by omega)
        exact ⟨fun _ _ _ y hy _ => due_val2 D3 (by rw [hE]; decide) (by rw [hE]; decide) (decide_eq_false fun q => hk (h6.mp q)), fun _ _ _ y n hy hn => (num_not hn (hno y hy)).elim⟩
    · -- a sign behind the last mark alone
      rw [h4, h8] at hE
      have hdue := due_proto1 (z := (ds.length : Int)) D3 (by rw [hE]; rfl)
      have hin : innerT gs s m ds = m :: (opt gs s 5 ++ m :: (opt gs s 6 ++ m :: (midT gs s ds ++ [m, s]))) := by
        unfold innerT; rw [opt_nil h4, opt_one h8]; rfl
      have i1 := g_item hx hin
      have i2 := g_last hx (d := s) (front := m :: (opt gs s 5 ++ m :: (opt gs s 6 ++ m :: (midT gs s ds ++ [m])))) (by rw [hin]; simp)
      rw [i1, i2]
      have nn : ¬ ((⟨#[m]⟩ : Str) = ⟨#[s]⟩) := fun q => hne (by simpa using q.symm)
      exact ⟨fun _ _ => hdue, fun y hy => hnum m y (List.mem_of_getElem? hy), fun _ he => absurd he nn, fun _ he => absurd he nn⟩
    · -- a sign ahead of the first mark alone
      rw [h4, h8] at hE
      have hdue := due_proto1 (z := (ds.length : Int)) D3 (by rw [hE]; rfl)
      have hin : innerT gs s m ds = s :: (m :: (opt gs s 5 ++ m :: (opt gs s 6 ++ m :: (midT gs s ds ++ [m])))) := by
        unfold innerT; rw [opt_one h4, opt_nil h8]; rfl
      have i1 := g_item hx hin
      have i2 := g_last hx (d := m) (front := s :: (m :: (opt gs s 5 ++ m :: (opt gs s 6 ++ m :: midT gs s ds)))) (by rw [hin]; simp)
      rw [i1, i2]
      have nn : ¬ ((⟨#[s]⟩ : Str) = ⟨#[m]⟩) := fun q => hne (by simpa using q)
      exact ⟨fun _ _ => hdue, fun y hy => hnum s y (List.mem_of_getElem? hy), fun _ he => absurd he nn, fun _ he => absurd he nn⟩
    · -- signs at both ends: split by the sign
      rw [h4, h8] at hE
      have hin : innerT gs s m ds = s :: (m :: (opt gs s 5 ++ m :: (opt gs s 6 ++ m :: (midT gs s ds ++ [m, s])))) := by
        unfold innerT; rw [opt_one h4, opt_one h8]; rfl
      have hfr : innerT gs s m ds = (s :: (m :: (opt gs s 5 ++ m :: (opt gs s 6 ++ m :: midT gs s ds)))) ++ [m, s] := by rw [hin]; simp
      have i1 := g_item hx hin
      have i2 := g_last hx (d := s) (front := s :: (m :: (opt gs s 5 ++ m :: (opt gs s 6 ++ m :: (midT gs s ds ++ [m]))))) (by rw [hin]; simp)
      rw [i1, i2]
      have hcnt := split_count (Txt.slice x (some (((preT gs s).length : Int) + 1)) (some (((preT gs s).length + 1 + (innerT gs s m ds).length : Nat) : Int))) s
      have e1 : (m == s) = false := beq_eq_false_iff_ne.mpr fun q => hne q.symm
      have hci : List.count s (innerT gs s m ds) = 2 + ((if has gs 5 = true then 1 else 0) + ((if has gs 6 = true then 1 else 0) + cntR gs 7 (ds.length + 1))) := by
        rw [hin]
        simp only [List.count_cons, List.count_append, count_opt, hK, List.count_nil, e1, beq_self_eq_true, Bool.false_eq_true, if_false, if_true]
        omega
      rw [hslice, hci] at hcnt
      by_cases hb : (gs.filter fun g => decide (4 < g) && decide (g < (ds.length : Int) + 8)).length = 2
      · have hdue := due_val1 (z := (ds.length : Int)) D3 (by rw [hE]; rfl) (by omega)
        have len5 : (Txt.split (Txt.slice x (some (((preT gs s).length : Int) + 1)) (some (((preT gs s).length + 1 + (innerT gs s m ds).length : Nat) : Int))) ⟨#[s]⟩).length = 5 := by omega
        have hno : ∀ y, (Txt.split (Txt.slice x (some (((preT gs s).length : Int) + 1)) (some (((preT gs s).length + 1 + (innerT gs s m ds).length : Nat) : Int))) ⟨#[s]⟩)[3]? = some y → NoNum y := fun y hy => by
          have hp := hpart s y (List.mem_of_getElem? hy)
          refine noNum hp.2 (fun a ha => (okc a (hp.1 a ha)).1) ⟨m, ?_, hm3⟩ fun a ha => (okc a (hp.1 a ha)).2
          obtain ⟨a0, a1, a2, a3, a4, hl⟩ := five len5
          rw [hl] at hy
          obtain rfl : a3 = y := Option.some.inj hy
          have hj := join_list s (Txt.split (Txt.slice x (some (((preT gs s).length : Int) + 1)) (some (((preT gs s).length + 1 + (innerT gs s m ds).length : Nat) : Int))) ⟨#[s]⟩)
          rw [join_split, hslice, hl, hfr] at hj
          exact fourth_has (fun q => hne q.symm) (split_free (Txt.slice x (some (((preT gs s).length : Int) + 1)) (some (((preT gs s).length + 1 + (innerT gs s m ds).length : Nat) : Int))) s a4 (by rw [hl]; simp)) hj.symm
        exact ⟨fun _ h => absurd h (by rintro (h | h); exact h rfl; exact h len5), fun y hy => hnum s y (List.mem_of_getElem? hy), fun _ _ _ _ _ _ => hdue, fun _ _ _ y n hy hn => (num_not hn (hno y hy)).elim⟩
      · have hdue := due_proto2 (z := (ds.length : Int)) D3 (by rw [hE]; rfl) (by omega)
        have len5 : (Txt.split (Txt.slice x (some (((preT gs s).length : Int) + 1)) (some (((preT gs s).length + 1 + (innerT gs s m ds).length : Nat) : Int))) ⟨#[s]⟩).length ≠ 5 := by omega
        exact ⟨fun _ _ => hdue, fun y hy => hnum s y (List.mem_of_getElem? hy), fun _ _ h => absurd h len5, fun _ _ h => absurd h len5⟩
  · have ht : (Txt.slice x none (some 3) != Str.ofString "229") = true := by
      rw [hthree]
      exact bne_iff_ne.mpr fun q => hc ((preT_code hs127).mp q)
    have D3 : decide (gs.filter (fun g => decide (g < 3)) = []) = false := decide_eq_false fun q => hc ((d_code h0).mp q)
    have no : ∀ {P : Prop}, (Txt.slice x none (some 3) != Str.ofString "229") = false → P := fun h => by rw [ht] at h; cases h
    obtain ⟨a, rest, hin⟩ : ∃ a rest, innerT gs s m ds = a :: rest := by
      cases e : innerT gs s m ds with
      | nil => rw [e] at hli; simp at hli
      | cons a rest => exact ⟨a, rest, rfl⟩
    rw [g_item hx hin]
    exact ⟨fun _ => due_code D3, fun h => no h, fun y hy => hnum a y (List.mem_of_getElem? hy), fun h => no h, fun h => no h⟩
end
section
theorem strip_len {a b : Str} {p q : Int} (h1 : PreEnd a b p) (h2 : PostEnd (Txt.slice a (some p) none) (Txt.slice b (some p) none) q) :
    ∃ k : Nat, (sliceTo (Txt.slice a (some p) none) q).length + k = a.length ∧ (sliceTo (Txt.slice b (some p) none) q).length + k = b.length := by
  obtain ⟨⟨hp0, hpa, hpb, _⟩, _⟩ := h1
  obtain ⟨⟨hq0, hqa, hqb, _⟩, _⟩ := h2
  have la := congrArg List.length (slice_from (x := a) hp0 hpa)
  have lb := congrArg List.length (slice_from (x := b) hp0 hpb)
  have ta := congrArg List.length (sliceTo_list hq0 hqa)
  have tb := congrArg List.length (sliceTo_list hq0 hqb)
  simp only [len_list, List.length_drop, List.length_take] at la lb ta tb
  exact ⟨p.toNat + (-q).toNat, by omega, by omega⟩
/-- the distance of a strewn text and the plain one, with one less for its bound -/
theorem lev_many {a b : Str} {mc r : Int} {n : Nat} (hl : a.length = b.length + n) (h0 : n = 0 → a = b) (hmc : mc = 2 * (n : Int) - 1) (h : LevR a b mc r) : r = 2 * (n : Int) := by
  rcases h with ⟨e, rfl⟩ | ⟨ne, p, q, h1, h2, h3⟩
  · subst e; omega
  · have hn : n ≠ 0 := fun q => ne (h0 q)
    obtain ⟨k, lx, ly⟩ := strip_len h1 h2
    rcases h3 with ⟨hz, hr⟩ | ⟨_, _, u, v, huv, h3⟩
    · omega
    · rw [if_pos (by omega)] at huv
      cases huv
      rcases h3 with ⟨_, hr⟩ | ⟨hno, _⟩ <;> omega
section
variable {c : Nat → Nat → Int}
theorem DT_two (h0 : ∀ j i, 0 ≤ c j i) (h1 : ∀ j, j < 3 → c j 0 = 2) : ∀ j i, j ≤ 3 → 1 ≤ i → 2 ≤ DT c j i := by
  intro j
  induction j with
  | zero => intro i _ hi; rw [DT_zero]; omega
  | succ j ihj =>
    intro i
    induction i with
    | zero => intro _ h; omega
    | succ i ih =>
      intro hj _
      rw [DT_succ]
      have a := ihj (i + 1) (by omega) (by omega)
      have d : 2 ≤ DT c j i + c j i := by
        by_cases hi : i = 0
        · subst hi
          rw [DT_col, h1 j (by omega)]; omega
        · have := ihj i (by omega) (by omega)
          have := h0 j i
          omega
      have b : 0 ≤ DT c (j + 1) i := by
        by_cases hi : i = 0
        · subst hi; rw [DT_col]; omega
        · have := ih hj (by omega); omega
      simp only [Int.min_def]
      (repeat' split) <;> omega
theorem DT_four (h0 : ∀ j i, 0 ≤ c j i) (h1 : ∀ j, j < 3 → c j 0 = 2) (h2 : ∀ i, 1 ≤ i → i < 4 → c 3 i = 2) : ∀ i, i ≤ 4 → 4 ≤ DT c 4 i := by
  intro i
  induction i with
  | zero => intro _; rw [DT_col]; omega
  | succ i ih =>
    intro hi
    show 4 ≤ DT c (3 + 1) (i + 1)
    rw [DT_succ]
    have a : 4 ≤ DT c (3 + 1) i := ih (by omega)
    have b := DT_two h0 h1 3 (i + 1) (Nat.le_refl _) (by omega)
    have d : 4 ≤ DT c 3 i + c 3 i := by
      by_cases hz : i = 0
      · subst hz
        have := h0 3 0
        rw [DT_col]; omega
      · have := DT_two h0 h1 3 i (Nat.le_refl _) (by omega)
        have := h2 i (by omega) (by omega)
        omega
    simp only [Int.min_def]
    (repeat' split) <;> omega
theorem DT_step_le (j i : Nat) : DT c (j + 1) (i + 1) ≤ DT c j i + c j i := by
  rw [DT_succ]
  simp only [Int.min_def]
  (repeat' split) <;> omega
theorem DT_down_le (j i : Nat) : DT c (j + 1) (i + 1) ≤ DT c j (i + 1) + 2 := by
  rw [DT_succ]
  simp only [Int.min_def]
  (repeat' split) <;> omega
theorem DT_diag (e0 : c 0 1 = 0) (e1 : c 1 2 = 0) (e2 : c 2 3 = 0) : DT c 1 2 ≤ 2 ∧ DT c 2 3 ≤ 2 ∧ DT c 3 4 ≤ 2 ∧ DT c 4 4 ≤ 4 := by
  have a : DT c 1 2 ≤ DT c 0 1 + c 0 1 := DT_step_le 0 1
  have b : DT c 2 3 ≤ DT c 1 2 + c 1 2 := DT_step_le 1 2
  have d : DT c 3 4 ≤ DT c 2 3 + c 2 3 := DT_step_le 2 3
  have f : DT c 4 4 ≤ DT c 3 4 + 2 := DT_down_le 3 3
  have z : DT c 0 1 = 2 := rfl
  refine ⟨by omega, by omega, by omega, by omega⟩
end
theorem pre_exact {l m : List Nat} {k : Nat} {x y : Nat} (hk : l.take k = m.take k) (hl : l[k]? = some x) (hm : m[k]? = some y) (hne : x ≠ y) {n : Nat} (ht : l.take n = m.take n) (he : n = l.length ∨ n = m.length ∨ l[n]? ≠ m[n]?) : n = k := by
  have h1 : n ≤ k := Classical.byContradiction fun hn => by
    have e := congrArg (fun t => t[k]?) ht
    simp only [List.getElem?_take_of_lt (show k < n by omega), hl, hm] at e
    exact hne (Option.some.inj e)
  rcases Nat.lt_or_ge n k with h2 | h2
  · exfalso
    have kl : k < l.length := (List.getElem?_eq_some_iff.mp hl).1
    have km : k < m.length := (List.getElem?_eq_some_iff.mp hm).1
    rcases he with h | h | h
    · omega
    · omega
    · apply h
      have e := congrArg (fun t => t[n]?) hk
      simpa only [List.getElem?_take_of_lt h2] using e
  · omega
end
section
theorem take_eq_of_app {α : Type} (p : List α) (a b : List α) : (p ++ a).take p.length = (p ++ b).take p.length := by simp
theorem at_app {α : Type} (p : List α) (x : α) (a : List α) : (p ++ x :: a)[p.length]? = some x := by simp
/-- one sign taken out and put in three signs on: the distance is 4 -/
theorem lev_one {u v : Str} {pfx sfx : List Nat} {s r0 r1 r2 : Nat} {r : Int} (hu : u.cps.toList = pfx ++ s :: r0 :: r1 :: r2 :: sfx) (hv : v.cps.toList = pfx ++ r0 :: r1 :: r2 :: s :: sfx) (n0 : r0 ≠ s) (n2 : r2 ≠ s)
    (k0 : cost ⟨#[r0]⟩ ⟨#[s]⟩ = 2) (k1 : cost ⟨#[r1]⟩ ⟨#[s]⟩ = 2) (k2 : cost ⟨#[r2]⟩ ⟨#[s]⟩ = 2) (d0 : cost ⟨#[s]⟩ ⟨#[r0]⟩ = 2) (d1 : cost ⟨#[s]⟩ ⟨#[r1]⟩ = 2) (d2 : cost ⟨#[s]⟩ ⟨#[r2]⟩ = 2) (h : LevR u v 4 r) : r = 4 := by
  rcases h with ⟨e, _⟩ | ⟨_, p, q, h1, h2, h3⟩
  · exfalso
    rw [e, hv] at hu
    have := List.append_cancel_left hu
    simp only [List.cons.injEq] at this
    exact n0 this.1
  · obtain ⟨⟨hp0, hpa, hpb, hpe⟩, hpx⟩ := h1
    obtain ⟨⟨hq0, hqa, hqb, hqe⟩, hqx⟩ := h2
    have ep : p.toNat = pfx.length := by
      refine pre_exact (l := u.cps.toList) (m := v.cps.toList) (x := s) (y := r0) (by rw [hu, hv]; exact take_eq_of_app _ _ _) (by rw [hu]; exact at_app _ _ _) (by rw [hv]; exact at_app _ _ _) (fun q => n0 q.symm) hpe ?_
      rcases hpx with h | h | h
      · left; rw [len_list]; omega
      · right; left; rw [len_list]; omega
      · right; right; exact h
    have la : (Txt.slice u (some p) none).cps.toList = s :: r0 :: r1 :: r2 :: sfx := by
      rw [slice_from hp0 hpa, ep, hu, List.drop_left]
    have lb : (Txt.slice v (some p) none).cps.toList = r0 :: r1 :: r2 :: s :: sfx := by
      rw [slice_from hp0 hpb, ep, hv, List.drop_left]
    have na := congrArg List.length la
    have nb := congrArg List.length lb
    simp only [len_list, List.length_cons] at na nb
    have ra : (Txt.slice u (some p) none).cps.toList.reverse = sfx.reverse ++ r2 :: r1 :: r0 :: s :: [] := by rw [la]; simp
    have rb : (Txt.slice v (some p) none).cps.toList.reverse = sfx.reverse ++ s :: r2 :: r1 :: r0 :: [] := by rw [lb]; simp
    have eq : (-q).toNat = sfx.reverse.length := by
      refine pre_exact (l := (Txt.slice u (some p) none).cps.toList.reverse) (m := (Txt.slice v (some p) none).cps.toList.reverse) (x := r2) (y := s) (by rw [ra, rb]; exact take_eq_of_app _ _ _) (by rw [ra]; exact at_app _ _ _) (by rw [rb]; exact at_app _ _ _) n2 hqe ?_
      rcases hqx with h | h | h
      · left; rw [List.length_reverse, len_list]; omega
      · right; left; rw [List.length_reverse, len_list]; omega
      · right; right; exact h
    rw [List.length_reverse] at eq
    have tx : (sliceTo (Txt.slice u (some p) none) q).cps.toList = [s, r0, r1, r2] := by
      rw [sliceTo_list hq0 hqa, la, eq, na, show sfx.length + 1 + 1 + 1 + 1 - sfx.length = 4 by omega]
      rfl
    have ty : (sliceTo (Txt.slice v (some p) none) q).cps.toList = [r0, r1, r2, s] := by
      rw [sliceTo_list hq0 hqb, lb, eq, nb, show sfx.length + 1 + 1 + 1 + 1 - sfx.length = 4 by omega]
      rfl
    revert h3
    generalize sliceTo (Txt.slice u (some p) none) q = x at tx
    generalize sliceTo (Txt.slice v (some p) none) q = y at ty
    intro h3
    have lx : x.length = 4 := by rw [← len_list, tx]; rfl
    have ly : y.length = 4 := by rw [← len_list, ty]; rfl
    have ix : ∀ i, at1 x i = ⟨#[[s, r0, r1, r2].getD i 0]⟩ := fun i => by unfold at1; rw [tx]
    have iy : ∀ i, at1 y i = ⟨#[[r0, r1, r2, s].getD i 0]⟩ := fun i => by unfold at1; rw [ty]
    have cc : ∀ j i, j < 4 → i < 4 → CC x y j i = c1 x y j i := fun j i hj hi => CC_c1 (by omega) (by omega)
    have e01 : CC x y 0 1 = 0 := by rw [cc 0 1 (by decide) (by decide)]; unfold c1; rw [ix, iy]; exact cost_self _
    have e12 : CC x y 1 2 = 0 := by rw [cc 1 2 (by decide) (by decide)]; unfold c1; rw [ix, iy]; exact cost_self _
    have e23 : CC x y 2 3 = 0 := by rw [cc 2 3 (by decide) (by decide)]; unfold c1; rw [ix, iy]; exact cost_self _
    have pos : ∀ j i, 0 ≤ CC x y j i := fun j i => (cost_le _ _).1
    have col : ∀ j, j < 3 → CC x y j 0 = 2 := by
      intro j hj
      rw [cc j 0 (by omega) (by decide)]; unfold c1; rw [ix, iy]
      rcases (show j = 0 ∨ j = 1 ∨ j = 2 by omega) with rfl | rfl | rfl
      · exact k0
      · exact k1
      · exact k2
    have row : ∀ i, 1 ≤ i → i < 4 → CC x y 3 i = 2 := by
      intro i hi hi4
      rw [cc 3 i (by decide) hi4]; unfold c1; rw [ix, iy]
      rcases (show i = 1 ∨ i = 2 ∨ i = 3 by omega) with rfl | rfl | rfl
      · exact d0
      · exact d1
      · exact d2
    obtain ⟨b12, b23, b34, b44⟩ := DT_diag e01 e12 e23
    have low := DT_four pos col row 4 (Nat.le_refl _)
    rcases h3 with ⟨hz, _⟩ | ⟨_, _, a, b, hab, h3⟩
    · omega
    · rw [if_neg (by omega)] at hab
      cases hab
      rcases h3 with ⟨hlt, _⟩ | ⟨_, ⟨_, j, hj, hrow⟩ | hr⟩
      · omega
      · exfalso
        rcases (show j = 0 ∨ j = 1 ∨ j = 2 ∨ j = 3 by omega) with rfl | rfl | rfl | rfl
        · have : 4 < DT (CC x y) 1 2 := hrow 1 (by omega)
          omega
        · have : 4 < DT (CC x y) 2 3 := hrow 2 (by omega)
          omega
        · have : 4 < DT (CC x y) 3 4 := hrow 3 (by omega)
          omega
        · have : 4 < DT (CC x y) 4 4 := hrow 3 (by omega)
          omega
      · rw [hr, ly, lx]; omega
end
section
theorem ne_strs2 {prog : Program} {w : World} {A : Around} {E : Value → Shared → Prop} {s : Shared} {h₀ : Heap} {L la lb : Addr} {d x : Str} {t u t' u' : Tok} {news : List (Addr × Obj)} {Q : Value → Shared → Prop} (N : News h₀ L s.heap news) (ha : (la, W.listOf #[.str d t, .str x u] 0) ∈ news) (hb : (lb, W.listOf #[.str d t', .str x u'] 0) ∈ news) (hd : PyData.strOk d = true) (hx : PyData.strOk x = true) (hu : A.units + 64 < cLine) (h : Q (.bool false) s) : wpAny (model prog w) A (compareOp .NotEq (.ref la) (.ref lb)) Q E s := by
  have e : PyData.eqv (.list [.str d, .str x]) (.list [.str d, .str x]) = true := by simp [PyData.eqv, PyData.eqvAll]
  refine ne_dataH (reads_list_at (News.get N ha) rfl rfl (ReadsAll.cons (Reads.str _ _) (ReadsAll.cons (Reads.str _ _) ReadsAll.nil))) (reads_list_at (News.get N hb) rfl rfl (ReadsAll.cons (Reads.str _ _) (ReadsAll.cons (Reads.str _ _) ReadsAll.nil))) ?_ ?_ hu ?_
  · simp [SeqAt.shaped, PyData.canLay0, PyData.depth, PyData.canLayAll0, PyData.depthAll, hx, hd]
  · simp [SeqAt.shaped, PyData.canLay0, PyData.depth, PyData.canLayAll0, PyData.depthAll, hx, hd]
  · rw [e]; exact h
noncomputable def IfCut (h₀ : Heap) (L : Addr) (m₀ : Str → Option Value) (news : List (Addr × Obj)) (s : Shared) (f : Flow) (s₃ : Shared) : Prop :=
  f = .next ∧ ∃ h tk, s₃ = { s with heap := h, toks := tk } ∧ Fr h₀ L h m₀ ∧ News h₀ L h news
theorem IfCut.intro {h₀ : Heap} {L : Addr} {m₀ : Str → Option Value} {news : List (Addr × Obj)} {s : Shared} {h : Heap} {tk : Nat} {news' : List (Addr × Obj)} (F : Fr h₀ L h m₀) (N : News h₀ L h news') (hn : ∀ p ∈ news, p ∈ news') : IfCut h₀ L m₀ news s .next { s with heap := h, toks := tk } :=
  ⟨rfl, h, tk, rfl, F, fun p hp => N p (hn p hp)⟩
theorem fr_is {h₀ h : Heap} {L : Addr} {m : Str → Option Value} {a : Str} {v : Value} (F : Fr h₀ L h m) (e : m a = some v) : Fr h₀ L h (fun y => if y = a then some v else m y) := by
  have : (fun y => if y = a then some v else m y) = m := by
    funext y
    by_cases hy : y = a
    · rw [if_pos hy, hy, e]
    · rw [if_neg hy]
  rw [this]; exact F
noncomputable def forA : List Stmt := match dLaw.body.getD 11 default with | .For _ _ b _ _ => b | _ => []
noncomputable def forB : List Stmt := match dLaw.body.getD 14 default with | .For _ _ b _ _ => b | _ => []
set_option maxHeartbeats 8000000 in
theorem C_cmpA {w : World} {loose : List Str} {mean : ExcName → Option Value} {mg mb : Str → Option Value} {fa : Addr} {cd : Value} {h₀ : Heap} {L : Addr} {m : Str → Option Value} {s : Shared} {E : Value → Shared → Prop} {news : List (Addr × Obj)} {x due : Str} {tx td tp : Tok} {port : Int}
    (B : Below callerA h₀ [] h₀) (X : (T49.K w.params).In h₀) (T : Top T49.vw loose mean mg mb h₀)
    (F : Fr h₀ L s.heap (fun y => if y = Str.ofString "strewn" then some (.str x tx) else if y = Str.ofString "due" then some (.str due td) else if y = Str.ofString "port" then some (.int port tp) else m y)) (N : News h₀ L s.heap news)
    (H : Meant x port due) (ok : PyData.strOk x = true) :
    wpC (model PySem.Challenge.rw_tp0049_02.row.prog w) (callerA.deeper (envOfC (Str.ofString "law") dLaw.scope L fa cd)) (exec (forA.getD 2 default) (envOfC (Str.ofString "law") dLaw.scope L fa cd))
      (IfCut h₀ L (fun y => if y = Str.ofString "strewn" then some (.str x tx) else if y = Str.ofString "due" then some (.str due td) else if y = Str.ofString "port" then some (.int port tp) else m y) news s) E s := by
  k_with_none
  (k_with "compareOp NotEq ref ref" => ((k_here; (with_reducible show wpAny _ _ (compareOp CmpOp.NotEq (Value.ref _) (Value.ref _)) _ _ _); k_dflt (refine ne_strs2 (by k_asm) (by k_mem) (by k_mem) (by decide +kernel) (by assumption) (by ke_room) ?_))))
  (k_with "IfCut" => ((k_dflt (exact IfCut.intro (by assumption) (by assumption) (by kcj_all)))))
  obtain ⟨l, r, e1, e2, hl0, hlr, hrl, hx, a1, a2, a3, a4, a5⟩ := H
  dsimp only [forA, dLaw, List.getD, List.getElem?_cons_zero, List.getElem?_cons_succ, Option.getD]
  refine wpC.If (wpC.isTrue_Compare1 (wpC.Call_Name ?_))
  k_steps
  refine wpC.callWith_def ?_
  k_steps
  refine AtDef.intro (K := T49.K _) (by k_in) (by k_is) ?_
  k_dflt (refine C_told (by k_asm) (by k_asm) (by k_asm) (by k_asm) (by k_asm) (by first | exact rfl | assumption) (by ktr_room) (by ktr_units) (by k_asm) (by k_asm) e1 e2 hl0 hlr hrl hx ?_ ?_ a3 ?_ ?_)
  · intro hs l9 h9 tk9 t91 t92 F9 N9 g9
    obtain rfl := a1 hs
    (try k_lt g9)
    (try dsimp only); (try k_fold)
    k_steps
    all_goals (refine wpC.any ?_; k_steps)
  · intro hs hb l9 h9 tk9 t91 t92 F9 N9 g9
    obtain rfl := a2 hs hb
    (try k_lt g9)
    (try dsimp only); (try k_fold)
    k_steps
    all_goals (refine wpC.any ?_; k_steps)
  · intro hs he h5 y hy hn l9 h9 tk9 t91 t92 F9 N9 g9
    obtain rfl := a4 hs he h5 y hy hn
    (try k_lt g9)
    (try dsimp only); (try k_fold)
    k_steps
    all_goals (refine wpC.any ?_; k_steps)
  · intro hs he h5 y n hy hn l9 h9 tk9 t91 t92 F9 N9 g9
    obtain ⟨rfl, rfl⟩ := a5 hs he h5 y n hy hn
    (try k_lt g9)
    (try dsimp only); (try k_fold)
    k_steps
    all_goals (refine wpC.any ?_; k_steps)
end
section
theorem wpC.isTrue_or2 {M : Model} {A : Around} {E : Value → Shared → Prop} {s : Shared} {env : Env} {x y : PySem.Expr} {pos : Pos} {whole : Sem Value} {Q : Bool → Shared → Prop}
    (h : wpAny M A (isTrue x env (eval x env)) (fun c s' => if c then Q true s' else wpC M A (isTrue y env (eval y env)) Q E s') E s) : wpC M A (isTrue (.BoolOp .Or [x, y] pos) env whole) Q E s := by
  show wpC M A (do
    match BoolOp.Or, ← isTrue x env (eval x env) with
    | .And, false => Pure.pure false
    | .Or, true => Pure.pure true
    | _, _ => allTrue .Or [y] env) Q E s
  refine wpC.bindA (wpAny_mono h (fun c s' h' => ?_) fun _ _ e => e)
  cases c with
  | true => exact wpC.pure h'
  | false =>
    show wpC M A (do
      match BoolOp.Or, ← isTrue y env (eval y env) with
      | .And, false => Pure.pure false
      | .Or, true => Pure.pure true
      | _, _ => allTrue .Or [] env) Q E s'
    refine wpC.bind (wpC.mono h' (fun c s'' q => ?_) fun _ _ e => e)
    cases c <;> exact wpC.pure q
set_option maxHeartbeats 8000000 in
theorem C_cmpB {w : World} {loose : List Str} {mean : ExcName → Option Value} {mg mb : Str → Option Value} {fa : Addr} {cd : Value} {h₀ : Heap} {L : Addr} {m : Str → Option Value} {s : Shared} {E : Value → Shared → Prop} {news : List (Addr × Obj)} {x due : Str} {tx td tp : Tok} {port : Int}
    (B : Below callerA h₀ [] h₀) (X : (T49.K w.params).In h₀) (T : Top T49.vw loose mean mg mb h₀)
    (F : Fr h₀ L s.heap (fun y => if y = Str.ofString "strewn" then some (.str x tx) else if y = Str.ofString "due" then some (.str due td) else if y = Str.ofString "port" then some (.int port tp) else m y)) (N : News h₀ L s.heap news)
    (H : Meant x port due) (ok : PyData.strOk x = true) :
    wpC (model PySem.Challenge.rw_tp0049_02.row.prog w) (callerA.deeper (envOfC (Str.ofString "law") dLaw.scope L fa cd)) (exec (forB.getD 2 default) (envOfC (Str.ofString "law") dLaw.scope L fa cd))
      (IfCut h₀ L (fun y => if y = Str.ofString "strewn" then some (.str x tx) else if y = Str.ofString "due" then some (.str due td) else if y = Str.ofString "port" then some (.int port tp) else m y) news s) E s := by
  k_with_none
  (k_with "compareOp NotEq ref ref" => ((k_here; (with_reducible show wpAny _ _ (compareOp CmpOp.NotEq (Value.ref _) (Value.ref _)) _ _ _); k_dflt (refine ne_strs2 (by k_asm) (by k_mem) (by k_mem) (by decide +kernel) (by assumption) (by ke_room) ?_))))
  (k_with "IfCut" => ((k_dflt (exact IfCut.intro (by assumption) (by assumption) (by kcj_all)))))
  obtain ⟨l, r, e1, e2, hl0, hlr, hrl, hx, a1, a2, a3, a4, a5⟩ := H
  dsimp only [forB, dLaw, List.getD, List.getElem?_cons_zero, List.getElem?_cons_succ, Option.getD]
  refine wpC.If (wpC.isTrue_Compare1 (wpC.Call_Name ?_))
  k_steps
  refine wpC.callWith_def ?_
  k_steps
  refine AtDef.intro (K := T49.K _) (by k_in) (by k_is) ?_
  k_dflt (refine C_told (by k_asm) (by k_asm) (by k_asm) (by k_asm) (by k_asm) (by first | exact rfl | assumption) (by ktr_room) (by ktr_units) (by k_asm) (by k_asm) e1 e2 hl0 hlr hrl hx ?_ ?_ a3 ?_ ?_)
  · intro hs l9 h9 tk9 t91 t92 F9 N9 g9
    obtain rfl := a1 hs
    (try k_lt g9)
    (try dsimp only); (try k_fold)
    k_steps
    all_goals (refine wpC.any ?_; k_steps)
  · intro hs hb l9 h9 tk9 t91 t92 F9 N9 g9
    obtain rfl := a2 hs hb
    (try k_lt g9)
    (try dsimp only); (try k_fold)
    k_steps
    all_goals (refine wpC.any ?_; k_steps)
  · intro hs he h5 y hy hn l9 h9 tk9 t91 t92 F9 N9 g9
    obtain rfl := a4 hs he h5 y hy hn
    (try k_lt g9)
    (try dsimp only); (try k_fold)
    k_steps
    all_goals (refine wpC.any ?_; k_steps)
  · intro hs he h5 y n hy hn l9 h9 tk9 t91 t92 F9 N9 g9
    obtain ⟨rfl, rfl⟩ := a5 hs he h5 y n hy hn
    (try k_lt g9)
    (try dsimp only); (try k_fold)
    k_steps
    all_goals (refine wpC.any ?_; k_steps)
set_option maxHeartbeats 8000000 in
theorem C_cmpP {w : World} {loose : List Str} {mean : ExcName → Option Value} {mg mb : Str → Option Value} {fa : Addr} {cd : Value} {h₀ : Heap} {L : Addr} {m : Str → Option Value} {s : Shared} {E : Value → Shared → Prop} {news : List (Addr × Obj)} {x : Str} {tx ty tp : Tok} {port : Int}
    (B : Below callerA h₀ [] h₀) (X : (T49.K w.params).In h₀) (T : Top T49.vw loose mean mg mb h₀)
    (F : Fr h₀ L s.heap (fun y => if y = Str.ofString "prepared" then some (.str x tx) else if y = Str.ofString "plain" then some (.str x ty) else if y = Str.ofString "port" then some (.int port tp) else m y)) (N : News h₀ L s.heap news)
    (H : Meant x port (Str.ofString "port")) (ok : PyData.strOk x = true) :
    wpC (model PySem.Challenge.rw_tp0049_02.row.prog w) (callerA.deeper (envOfC (Str.ofString "law") dLaw.scope L fa cd)) (exec (forB.getD 6 default) (envOfC (Str.ofString "law") dLaw.scope L fa cd))
      (IfCut h₀ L (fun y => if y = Str.ofString "prepared" then some (.str x tx) else if y = Str.ofString "plain" then some (.str x ty) else if y = Str.ofString "port" then some (.int port tp) else m y) news s) E s := by
  k_with_none
  (k_with "IfCut" => ((k_dflt (exact IfCut.intro (by assumption) (by assumption) (by kcj_all)))))
  obtain ⟨l, r, e1, e2, hl0, hlr, hrl, hx, a1, a2, a3, a4, a5⟩ := H
  dsimp only [forB, dLaw, List.getD, List.getElem?_cons_zero, List.getElem?_cons_succ, Option.getD]
  refine wpC.If (wpC.isTrue_or2 ?_)
  k_steps
  · exact absurd (by assumption) (by simp)
  refine wpC.isTrue_Compare1 (wpC.Call_Name ?_)
  k_steps
  refine wpC.callWith_def ?_
  k_steps
  refine AtDef.intro (K := T49.K _) (by k_in) (by k_is) ?_
  k_dflt (refine C_told (by k_asm) (by k_asm) (by k_asm) (by k_asm) (by k_asm) (by first | exact rfl | assumption) (by ktr_room) (by ktr_units) (by k_asm) (by k_asm) e1 e2 hl0 hlr hrl hx ?_ ?_ a3 ?_ ?_)
  · intro hs
    exact absurd (a1 hs) (by decide +kernel)
  · intro hs hb
    exact absurd (a2 hs hb) (by decide +kernel)
  · intro hs he h5 y hy hn
    exact absurd (a4 hs he h5 y hy hn) (by decide +kernel)
  · intro hs he h5 y n hy hn l9 h9 tk9 t91 t92 F9 N9 g9
    obtain ⟨_, rfl⟩ := a5 hs he h5 y n hy hn
    (try k_lt g9)
    (try dsimp only); (try k_fold)
    k_steps
    all_goals (refine wpC.any ?_; k_steps)
end
section
noncomputable def marksL : List Nat := [124, 33, 120, 88, 119831, 65336]
noncomputable def smallsL : List Nat := [124, 33, 120, 120, 120, 65368]
noncomputable def charsL : List Nat := [50, 57, 40, 41, 48, 49, 51, 52, 53, 54, 55, 56, 124, 33, 120, 88, 119831, 65336, 65368]
noncomputable def hidL : List Nat := [173, 847, 6150, 6155, 6156, 6157, 8203, 8204, 8205, 8288, 65279, 65024, 65025, 65026, 65027, 65028, 65029, 65030, 65031, 65032, 65033, 65034, 65035, 65036, 65037, 65038, 65039]
noncomputable def lowC (c : Nat) : Nat := if c = 88 then 120 else if c = 119831 then 120 else if c = 65336 then 65368 else c
theorem hid_mem : ∀ k, k < 27 → (hiddens.getD k 0).toNat ∈ hidL := by decide +kernel
theorem mark_mem : ∀ k, k < 6 → marksL.getD k 0 ∈ charsL ∧ smallsL.getD k 0 ∈ charsL ∧ lowC (marksL.getD k 0) = smallsL.getD k 0 := by decide +kernel
theorem dig_mem {c : Nat} (h : 48 ≤ c ∧ c ≤ 57) : c ∈ charsL ∧ lowC c = c := by
  have key : ∀ i, i < 10 → 48 + i ∈ charsL ∧ lowC (48 + i) = 48 + i := by decide +kernel
  have := key (c - 48) (by omega)
  rwa [show 48 + (c - 48) = c by omega] at this
theorem sign_ok : ∀ s ∈ hidL, SignOk s := by unfold SignOk Foreign; decide +kernel
theorem mark_ok : ∀ k, k < 6 → MarkOk (marksL.getD k 0) ∧ MarkOk (smallsL.getD k 0) := by unfold MarkOk OkC Foreign; decide +kernel
theorem hid_not : ∀ s ∈ hidL, s ∉ charsL ∧ 127 ≤ s ∧ s < 1114112 := by decide +kernel
theorem hid_low : ∀ s ∈ hidL, (Txt.lower ⟨#[s]⟩).cps.toList = [s] := by decide +kernel
theorem char_low : ∀ r ∈ charsL, (Txt.lower ⟨#[r]⟩).cps.toList.all (fun c => !hidL.contains c) = true := by decide +kernel
theorem hid_b1 : ∀ s ∈ hidL, b1B (s : Int) = true := by decide +kernel
theorem char_b1 : ∀ s ∈ charsL, b1B (s : Int) = false := by decide +kernel
theorem char_b3 : ∀ s ∈ charsL, (b3 s).cps.toList = [lowC s] := by decide +kernel
theorem char_lt : ∀ s ∈ charsL, s < 1114112 := by decide +kernel
theorem cost_two {r s : Nat} (hr : r ∈ charsL) (hs : s ∈ hidL) : cost ⟨#[r]⟩ ⟨#[s]⟩ = 2 ∧ cost ⟨#[s]⟩ ⟨#[r]⟩ = 2 := by
  have ne : (⟨#[r]⟩ : Str) ≠ ⟨#[s]⟩ := fun e => by
    have := congrArg (fun x : Str => x.cps.toList) e
    simp at this
    exact (hid_not s hs).1 (this ▸ hr)
  have nl : Txt.lower ⟨#[r]⟩ ≠ Txt.lower ⟨#[s]⟩ := fun e => by
    have h1 := List.all_eq_true.mp (char_low r hr) s (by rw [e, hid_low s hs]; exact List.mem_singleton.mpr rfl)
    rw [List.contains_iff_mem.mpr hs] at h1
    cases h1
  unfold cost
  exact ⟨by rw [if_neg ne, if_neg nl], by rw [if_neg fun q => ne q.symm, if_neg fun q => nl q.symm]⟩
noncomputable def replyL (m : Nat) (P : List Nat) : List Nat := [50, 50, 57, 40, m, m, m] ++ (P ++ [m, 41])
theorem replyL_len (m : Nat) (P : List Nat) : (replyL m P).length = P.length + 9 := by simp [replyL]
theorem replyL_sub {m : Nat} {P : List Nat} (hm : m ∈ charsL) (hP : ∀ c ∈ P, 48 ≤ c ∧ c ≤ 57) : ∀ c ∈ replyL m P, c ∈ charsL := by
  have h0 : ∀ c ∈ [50, 50, 57, 40], c ∈ charsL := by decide
  have h1 : 41 ∈ charsL := by decide
  intro c hc
  simp only [replyL, List.mem_append, List.mem_cons, List.not_mem_nil, or_false] at hc
  rcases hc with (rfl | rfl | rfl | rfl | rfl | rfl | rfl) | hc | rfl | rfl
  · decide
  · decide
  · decide
  · decide
  · exact hm
  · exact hm
  · exact hm
  · exact (dig_mem (hP c hc)).1
  · exact hm
  · exact h1
theorem map_low {m m' : Nat} {P : List Nat} (hP : ∀ c ∈ P, 48 ≤ c ∧ c ≤ 57) (hm : lowC m = m') : (replyL m P).map lowC = replyL m' P := by
  have e : P.map lowC = P := by
    rw [List.map_congr_left (g := id) fun c hc => (dig_mem (hP c hc)).2, List.map_id]
  have h : lowC 50 = 50 ∧ lowC 57 = 57 ∧ lowC 40 = 40 ∧ lowC 41 = 41 := by decide
  simp only [replyL, List.map_append, List.map_cons, List.map_nil, e, hm, h.1, h.2.1, h.2.2.1, h.2.2.2]
theorem strewL_len (gs : List Int) (s : Nat) : ∀ (l : List Nat) (i : Nat), (strewL gs s l i).length = l.length + cntR gs i (l.length + 1)
  | [], i => by
    simp only [strewL, opt, cntR, List.length_nil, Nat.add_zero]
    split <;> simp
  | c :: l, i => by
    rw [strewL, List.length_append, List.length_cons, List.length_cons, strewL_len gs s l (i + 1), cntR_front gs i (l.length + 1)]
    have : (opt gs s i).length = if has gs i = true then 1 else 0 := by unfold opt; split <;> rfl
    omega
theorem strewL_full {gs : List Int} (s : Nat) (l : List Nat) (hd : gs.Nodup) (h0 : ∀ g ∈ gs, 0 ≤ g ∧ g ≤ (l.length : Int)) : (strewL gs s l 0).length = l.length + gs.length := by
  rw [strewL_len, ← count_range gs hd 0 (l.length + 1)]
  congr 1
  rw [List.countP_eq_length]
  intro g hg
  have := h0 g hg
  simp
  omega
theorem strewL_none (s : Nat) : ∀ (l : List Nat) (i : Nat), strewL [] s l i = l
  | [], i => rfl
  | c :: l, i => by rw [strewL, strewL_none s l (i + 1)]; rfl
theorem strewL_filter {gs : List Int} {s : Nat} (p : Nat → Bool) (hs : p s = false) : ∀ (l : List Nat) (i : Nat), (∀ c ∈ l, p c = true) → (strewL gs s l i).filter p = l
  | [], i, _ => by
    show (opt gs s i).filter p = []
    unfold opt
    split
    · rw [List.filter_cons_of_neg (by rw [hs]; decide)]; rfl
    · rfl
  | c :: l, i, h => by
    rw [strewL, List.filter_append, List.filter_cons_of_pos (h c List.mem_cons_self), strewL_filter p hs l (i + 1) fun c hc => h c (List.mem_cons_of_mem _ hc)]
    have : (opt gs s i).filter p = [] := by
      unfold opt
      split
      · rw [List.filter_cons_of_neg (by rw [hs]; decide)]; rfl
      · rfl
    rw [this]; rfl
theorem strewL_late (g : Int) (s : Nat) : ∀ (l : List Nat) (i : Nat), g < i → strewL [g] s l i = l
  | [], i, h => by
    show opt [g] s i = []
    refine if_neg fun q => ?_
    have := List.mem_singleton.mp (List.contains_iff_mem.mp q)
    omega
  | c :: l, i, h => by
    rw [strewL, strewL_late g s l (i + 1) (by omega)]
    have : opt [g] s i = [] := by
      refine if_neg fun q => ?_
      have := List.mem_singleton.mp (List.contains_iff_mem.mp q)
      omega
    rw [this]; rfl
theorem strewL_one (s : Nat) : ∀ (l : List Nat) (i j : Nat), j ≤ l.length → strewL [((i + j : Nat) : Int)] s l i = l.take j ++ s :: l.drop j
  | [], i, j, h => by
    have : j = 0 := by simpa using h
    subst this
    show opt _ s i = _
    exact if_pos (List.contains_iff_mem.mpr (List.mem_singleton.mpr (by omega)))
  | c :: l, i, 0, h => by
    rw [strewL, strewL_late _ s l (i + 1) (by omega)]
    have : opt [((i + 0 : Nat) : Int)] s i = [s] := if_pos (List.contains_iff_mem.mpr (List.mem_singleton.mpr (by omega)))
    rw [this]; rfl
  | c :: l, i, j + 1, h => by
    have e := strewL_one s l (i + 1) j (by simpa using h)
    rw [show i + 1 + j = i + (j + 1) by omega] at e
    rw [strewL, e]
    have : opt [((i + (j + 1) : Nat) : Int)] s i = [] := by
      refine if_neg fun q => ?_
      have := List.mem_singleton.mp (List.contains_iff_mem.mp q)
      omega
    rw [this]; rfl
theorem join_singles : ∀ l : List Nat, (Txt.join (Str.ofString "") (l.map fun c => (⟨#[c]⟩ : Str))).cps.toList = l := by
  have e : (Str.ofString "").cps = #[] := by decide +kernel
  have key : ∀ l : List Nat, (Builtin.Str.glued (Str.ofString "") (l.map fun c => (⟨#[c]⟩ : Str))).cps.toList = l := by
    intro l
    rw [StrLaws.glued_eq_join]
    induction l with
    | nil => rfl
    | cons a l ih =>
      cases l with
      | nil => rfl
      | cons b l =>
        rw [List.map_cons, List.map_cons] at *
        simp only [Str.join, Str.cps_append, e, Array.append_empty, Array.toList_append] at *
        rw [ih]; rfl
  exact key
theorem portS_ok (port : Int) (h0 : 0 ≤ port) (h1 : port < 1000) : (1 ≤ (Str.ofString (toString port)).cps.toList.length ∧ (Str.ofString (toString port)).cps.toList.length ≤ 3 ∧ ∀ x ∈ (Str.ofString (toString port)).cps.toList, 48 ≤ x ∧ x ≤ 57) ∧ PySem.intText? (Str.ofString (toString port)) = some port := by
  have h : ∀ n : Nat, n < 1000 → (Nat.ble 1 (Str.ofString (toString (n : Int))).cps.toList.length = true ∧ Nat.ble (Str.ofString (toString (n : Int))).cps.toList.length 3 = true ∧ (Str.ofString (toString (n : Int))).cps.toList.all (fun x => Nat.ble 48 x && Nat.ble x 57) = true) ∧ (PySem.intText? (Str.ofString (toString (n : Int))) == some (n : Int)) = true := by decide +kernel
  obtain ⟨⟨e1, e2, e3⟩, e4⟩ := h port.toNat (by omega)
  rw [show ((port.toNat : Nat) : Int) = port by omega] at e1 e2 e3 e4
  refine ⟨⟨Nat.le_of_ble_eq_true e1, Nat.le_of_ble_eq_true e2, fun x hx => ?_⟩, eq_of_beq e4⟩
  have := List.all_eq_true.mp e3 x hx
  simp only [Bool.and_eq_true, Nat.ble_eq] at this
  exact this
end
section
noncomputable def mkC (a : Int) : Nat := marksL.getD (a.fmod 6).toNat 0
noncomputable def smC (a : Int) : Nat := smallsL.getD (a.fmod 6).toNat 0
noncomputable def sgC (a : Int) : Nat := (hiddens.getD ((a.fdiv 6).fmod 27).toNat 0).toNat
noncomputable def repT (c : Nat) (p : Int) : Str := ⟨(replyL c (Str.ofString (toString p)).cps.toList).toArray⟩
noncomputable def zz (b : Int) : Nat := (Str.ofString (toString (b.fmod 1000))).length
noncomputable def strT (a b : Int) (gs : List Int) : Str := strewN (repT (mkC a) (b.fmod 1000)) gs ⟨#[sgC a]⟩ ((repT (mkC a) (b.fmod 1000)).length + 1)
theorem rep_eq (c : Nat) (p : Int) : Str.ofString "229(" ++ (⟨#[c, c, c]⟩ : Str) ++ Str.ofString (toString p) ++ (⟨#[c]⟩ : Str) ++ Str.ofString ")" = repT c p := by
  have e1 : Str.ofString "229(" = ⟨#[50, 50, 57, 40]⟩ := by decide +kernel
  have e2 : Str.ofString ")" = ⟨#[41]⟩ := by decide +kernel
  refine str_of ?_
  rw [e1, e2]
  simp [Str.cps_append, replyL]
theorem fm6 (a : Int) : (a.fmod 6).toNat < 6 := by
  have h2 := Int.fmod_nonneg_of_pos a (show (0 : Int) < 6 by decide)
  have h3 := Int.fmod_lt_of_pos a (show (0 : Int) < 6 by decide)
  omega
theorem fm27 (n : Int) : (n.fmod 27).toNat < 27 := by
  have h2 := Int.fmod_nonneg_of_pos n (show (0 : Int) < 27 by decide)
  have h3 := Int.fmod_lt_of_pos n (show (0 : Int) < 27 by decide)
  omega
theorem fm1000 (b : Int) : 0 ≤ b.fmod 1000 ∧ b.fmod 1000 < 1000 :=
  ⟨Int.fmod_nonneg_of_pos b (by decide), Int.fmod_lt_of_pos b (by decide)⟩
theorem mkC_ok (a : Int) : MarkOk (mkC a) ∧ mkC a ∈ charsL := ⟨(mark_ok _ (fm6 a)).1, (mark_mem _ (fm6 a)).1⟩
theorem smC_ok (a : Int) : MarkOk (smC a) ∧ smC a ∈ charsL ∧ lowC (mkC a) = smC a := ⟨(mark_ok _ (fm6 a)).2, (mark_mem _ (fm6 a)).2⟩
theorem sgC_mem (a : Int) : sgC a ∈ hidL := hid_mem _ (fm27 _)
theorem sgC_ne {a : Int} {c : Nat} (h : c ∈ charsL) : sgC a ≠ c := fun e => (hid_not _ (sgC_mem a)).1 (e ▸ h)
theorem portD (b : Int) : (∀ c ∈ (Str.ofString (toString (b.fmod 1000))).cps.toList, 48 ≤ c ∧ c ≤ 57) ∧ PySem.intText? ⟨(Str.ofString (toString (b.fmod 1000))).cps.toList.toArray⟩ = some (b.fmod 1000) := by
  have h := portS_ok _ (fm1000 b).1 (fm1000 b).2
  exact ⟨h.1.2.2, h.2⟩
theorem zz_len (b : Int) : (Str.ofString (toString (b.fmod 1000))).cps.toList.length = zz b := Array.length_toList ..
theorem zz_b (b : Int) : 1 ≤ zz b ∧ zz b ≤ 3 := by
  have h := portS_ok _ (fm1000 b).1 (fm1000 b).2
  rw [zz_len] at h
  exact ⟨h.1.1, h.1.2.1⟩
theorem rep_list (c : Nat) (p : Int) : (repT c p).cps.toList = replyL c (Str.ofString (toString p)).cps.toList := rfl
theorem rep_len (c : Nat) (b : Int) : (repT c (b.fmod 1000)).length = zz b + 9 := by
  rw [← len_list, rep_list, replyL_len, zz_len]
theorem strT_list (a b : Int) (gs : List Int) : (strT a b gs).cps.toList = strewL gs (sgC a) (replyL (mkC a) (Str.ofString (toString (b.fmod 1000))).cps.toList) 0 :=
  strewN_list _ gs _ (sgC a) rfl
theorem rep_sub {c : Nat} (hc : c ∈ charsL) (b : Int) : ∀ x ∈ (repT c (b.fmod 1000)).cps.toList, x ∈ charsL := replyL_sub hc (portD b).1
theorem strT_meant {a b : Int} {gs : List Int} (hd : gs.Nodup) (h0 : ∀ g ∈ gs, 0 ≤ g) : Meant (strT a b gs) (b.fmod 1000) (dueT gs (zz b)) := by
  have hz := zz_b b
  have := meant_strewn (gs := gs) (s := sgC a) (m := mkC a) (ds := (Str.ofString (toString (b.fmod 1000))).cps.toList) (port := b.fmod 1000) (x := strT a b gs) hd h0 (by rw [zz_len]; omega) (mkC_ok a).1 (sign_ok _ (sgC_mem a)) (sgC_ne (mkC_ok a).2) (portD b).1 (portD b).2 (strT_list a b gs)
  rwa [zz_len] at this
theorem due_none (z : Int) : dueT [] z = Str.ofString "port" := by unfold dueT; simp
theorem plain_meant (a b : Int) : Meant (repT (smC a) (b.fmod 1000)) (b.fmod 1000) (Str.ofString "port") := by
  have hz := zz_b b
  have := meant_strewn (gs := []) (s := sgC a) (m := smC a) (ds := (Str.ofString (toString (b.fmod 1000))).cps.toList) (port := b.fmod 1000) (x := repT (smC a) (b.fmod 1000)) List.nodup_nil (fun _ h => nomatch h) (by rw [zz_len]; omega) (smC_ok a).1 (sign_ok _ (sgC_mem a)) (sgC_ne (smC_ok a).2.1) (portD b).1 (portD b).2 (by rw [strewL_none]; rfl)
  rwa [due_none] at this
theorem strT_none (a b : Int) : strT a b [] = repT (mkC a) (b.fmod 1000) := by
  rw [str_of (strT_list a b []), strewL_none]; rfl
theorem strT_len {a b : Int} {gs : List Int} (hd : gs.Nodup) (h0 : ∀ g ∈ gs, 0 ≤ g ∧ g < (zz b : Int) + 10) : (strT a b gs).length = (repT (mkC a) (b.fmod 1000)).length + gs.length := by
  rw [← len_list, strT_list, strewL_full _ _ hd, ← rep_list, len_list]
  intro g hg
  have := h0 g hg
  rw [replyL_len, zz_len]
  omega
theorem strT_many {a b mc r : Int} {gs : List Int} (hd : gs.Nodup) (h0 : ∀ g ∈ gs, 0 ≤ g ∧ g < (zz b : Int) + 10) (hm : mc = 2 * (gs.length : Int) - 1) (h : LevR (strT a b gs) (repT (mkC a) (b.fmod 1000)) mc r) : r = 2 * (gs.length : Int) := by
  refine lev_many (strT_len hd h0) (fun e => ?_) hm h
  rw [List.length_eq_zero_iff.mp e, strT_none]
theorem strT_prep (a b : Int) (gs : List Int) : Txt.join (Str.ofString "") (prepL (strT a b gs)) = repT (smC a) (b.fmod 1000) := by
  unfold prepL
  have e1 : ∀ c ∈ replyL (mkC a) (Str.ofString (toString (b.fmod 1000))).cps.toList, (!b1B (c : Int)) = true := fun c hc => by rw [char_b1 c (rep_sub (mkC_ok a).2 b c hc)]; rfl
  rw [strT_list, strewL_filter (fun c => !b1B (c : Int)) (by rw [hid_b1 _ (sgC_mem a)]; rfl) _ _ e1]
  have e2 : (replyL (mkC a) (Str.ofString (toString (b.fmod 1000))).cps.toList).map b3 = (replyL (smC a) (Str.ofString (toString (b.fmod 1000))).cps.toList).map fun c => (⟨#[c]⟩ : Str) := by
    rw [← map_low (portD b).1 (smC_ok a).2.2, List.map_map]
    exact List.map_congr_left fun c hc => str_of (char_b3 c (rep_sub (mkC_ok a).2 b c hc))
  rw [e2]
  exact str_of (join_singles _)
theorem three_of (l : List Nat) (j : Nat) (h : j + 3 ≤ l.length) : ∃ r0 r1 r2, l.drop j = r0 :: r1 :: r2 :: l.drop (j + 3) ∧ l.take (j + 3) = l.take j ++ [r0, r1, r2] ∧ r0 ∈ l ∧ r1 ∈ l ∧ r2 ∈ l := by
  refine ⟨l[j], l[j + 1], l[j + 2], ?_, ?_, List.getElem_mem _, List.getElem_mem _, List.getElem_mem _⟩
  · rw [List.drop_eq_getElem_cons (show j < l.length by omega), List.drop_eq_getElem_cons (show j + 1 < l.length by omega), List.drop_eq_getElem_cons (show j + 1 + 1 < l.length by omega)]
  · rw [List.take_succ_eq_append_getElem (show j + 2 < l.length by omega), List.take_succ_eq_append_getElem (show j + 1 < l.length by omega), List.take_succ_eq_append_getElem (show j < l.length by omega), List.append_assoc, List.append_assoc]
    rfl
theorem strT_one {a b r : Int} {g : Int} (h3 : 3 ≤ g) (hg : g < (zz b : Int) + 10) (h : LevR (strT a b [g - 3]) (strT a b [g]) 4 r) : r = 4 := by
  have hl : (replyL (mkC a) (Str.ofString (toString (b.fmod 1000))).cps.toList).length = zz b + 9 := by rw [replyL_len, zz_len]
  obtain ⟨j, rfl⟩ : ∃ j : Nat, g = (j : Int) + 3 := ⟨g.toNat - 3, by omega⟩
  rw [show (j : Int) + 3 - 3 = ((0 + j : Nat) : Int) by omega, show (j : Int) + 3 = ((0 + (j + 3) : Nat) : Int) by omega] at h
  obtain ⟨r0, r1, r2, e1, e2, m0, m1, m2⟩ := three_of (replyL (mkC a) (Str.ofString (toString (b.fmod 1000))).cps.toList) j (by omega)
  have hs := replyL_sub (mkC_ok a).2 (portD b).1
  have u := strT_list a b [((0 + j : Nat) : Int)]
  have v := strT_list a b [((0 + (j + 3) : Nat) : Int)]
  rw [strewL_one _ _ _ _ (by omega), e1] at u
  rw [strewL_one _ _ _ _ (by omega), e2, List.append_assoc] at v
  have c0 := cost_two (hs r0 m0) (sgC_mem a)
  have c1 := cost_two (hs r1 m1) (sgC_mem a)
  have c2 := cost_two (hs r2 m2) (sgC_mem a)
  exact lev_one u v (fun e => sgC_ne (hs r0 m0) e.symm) (fun e => sgC_ne (hs r2 m2) e.symm) c0.1 c1.1 c2.1 c0.2 c1.2 c2.2 h
theorem strT_ok (a b : Int) (gs : List Int) : PyData.strOk (strT a b gs) = true := by
  unfold PyData.strOk
  rw [← Array.all_toList, strT_list, List.all_eq_true]
  have hs := replyL_sub (mkC_ok a).2 (portD b).1
  have key : ∀ (l : List Nat) (i : Nat), (∀ c ∈ l, c < 1114112) → ∀ c ∈ strewL gs (sgC a) l i, c < 1114112 := by
    have ho : ∀ i, ∀ c ∈ opt gs (sgC a) i, c < 1114112 := fun i c hc => by rw [opt_sub i c hc]; exact (hid_not _ (sgC_mem a)).2.2
    intro l
    induction l with
    | nil => intro i _ c hc; exact ho i c hc
    | cons x l ih =>
      intro i hl c hc
      rcases List.mem_append.mp hc with h | h
      · exact ho i c h
      · rcases List.mem_cons.mp h with rfl | h
        · exact hl _ List.mem_cons_self
        · exact ih (i + 1) (fun y hy => hl y (List.mem_cons_of_mem _ hy)) c h
  exact fun c hc => decide_eq_true (key _ 0 (fun c hc => char_lt c (hs c hc)) c hc)
theorem rep_ok {c : Nat} (hc : c ∈ charsL) (b : Int) : PyData.strOk (repT c (b.fmod 1000)) = true := by
  unfold PyData.strOk
  rw [← Array.all_toList, List.all_eq_true]
  exact fun x hx => decide_eq_true (char_lt x (rep_sub hc b x hx))
theorem strT_le {a b : Int} {gs : List Int} (hd : gs.Nodup) (h0 : ∀ g ∈ gs, 0 ≤ g ∧ g < (zz b : Int) + 10) : (strT a b gs).length ≤ 12 + gs.length := by
  have := zz_b b
  rw [strT_len hd h0, rep_len]
  omega
end
section
section
variable {prog : Program} {w : World} {A : Around} {E : Value → Shared → Prop} {s : Shared}
theorem mul3 {c : Nat} {t u : Tok} {Q : Value → Shared → Prop} (h : ∀ t' k, Q (.str ⟨#[c, c, c]⟩ t') { s with toks := k }) : wpAny (model prog w) A (binaryOp .Mult (.int 3 u) (.str ⟨#[c]⟩ t)) Q E s := by
  refine lm_binaryOp_repeat_right (T := "str") (U := "int") (by decide) (fun s' => typeIs_int s' 3 u) (typeIs_str s _ t) F.fills_int_mul noFill_str_mul F.slot_int_mul lm_noRepeat_int repeat_str F.slot_int_index.lookup
    (call_gives F.slot_int_mul (typeIs_int s 3 u) F.entry_int_mul (F.args_int_mul_2 _ _) (AutoIntG3.int___mul___int_str_0 3 u ⟨#[c]⟩ t)
      ⟨rfl, typeIs_str _ _ _, call_gives F.slot_str_mul (typeIs_str s _ t) F.entry_str_mul (F.args_str_mul_2 _ _) (gives_str_mul ⟨#[c]⟩ 3 t u (by decide) (fun _ _ => ?_) (fun _ _ => ?_)) ?_⟩)
  · show ¬ (((1 : Nat) : Int) > (2 ^ 63 - 1) / 3)
    decide
  · show Builtin.Str.tooLong (1 * 3) = false
    decide +kernel
  · rw [if_neg (by decide)]
    have e : ((3 : Int) == 1 || (⟨#[c]⟩ : Str).length == 0) = false := rfl
    rw [e, if_neg (by decide)]
    exact ⟨by show (3 : Nat) ≤ _; decide +kernel, h _ _⟩
theorem item6 {value slice : Expr} {h₀ : Heap} {L D : Addr} {news : List (Addr × Obj)} {x0 x1 x2 x3 x4 x5 : Str} {t0 t1 t2 t3 t4 t5 tj : Tok} {j : Int} (l : List Nat) {Q : Value → Shared → Prop} (N : News h₀ L s.heap news) (hm : (D, listOf #[.str x0 t0, .str x1 t1, .str x2 t2, .str x3 t3, .str x4 t4, .str x5 t5] 0) ∈ news)
    (hx : [x0, x1, x2, x3, x4, x5] = [⟨#[l.getD 0 0]⟩, ⟨#[l.getD 1 0]⟩, ⟨#[l.getD 2 0]⟩, ⟨#[l.getD 3 0]⟩, ⟨#[l.getD 4 0]⟩, ⟨#[l.getD 5 0]⟩]) (hj0 : 0 ≤ j) (hj : j < 6)
    (h : ∀ t, Q (.str ⟨#[l.getD j.toNat 0]⟩ t) s)
    (hs : subscripted slice false (.ref D) (.int j tj) = operate [.ref D, .int j tj] (getItem (.ref D) (.int j tj)) := by with_unfolding_all rfl) :
    wpAny (model prog w) A (subscriptTail value slice (.ref D) (.int j tj)) Q E s := by
  have hl : s.heap.IsList D #[.str x0 t0, .str x1 t1, .str x2 t2, .str x3 t3, .str x4 t4, .str x5 t5] := PySem.IsL.isList (n := 0) (N _ hm).1
  simp only [List.cons.injEq, and_true] at hx
  obtain ⟨rfl, rfl, rfl, rfl, rfl, rfl⟩ := hx
  refine tail_any hl.typeIs slot_list_getitem.lookup ?_ hs
  have cases : j = 0 ∨ j = 1 ∨ j = 2 ∨ j = 3 ∨ j = 4 ∨ j = 5 := by omega
  rcases cases with rfl | rfl | rfl | rfl | rfl | rfl
  · exact wpAny_getItem_list hl (by decide) (by decide) rfl (h t0)
  · exact wpAny_getItem_list hl (by decide) (by decide) rfl (h t1)
  · exact wpAny_getItem_list hl (by decide) (by decide) rfl (h t2)
  · exact wpAny_getItem_list hl (by decide) (by decide) rfl (h t3)
  · exact wpAny_getItem_list hl (by decide) (by decide) rfl (h t4)
  · exact wpAny_getItem_list hl (by decide) (by decide) rfl (h t5)
end
noncomputable abbrev rngO (a b : Int) (t u v : Tok) : Obj := { cls := .type "range", dict := none, data := .fields #[.int a t, .int b u, .int 1 v], slots := #[] }
theorem range1_led {prog : Program} {w : World} {A : Around} {E : Value → Shared → Prop} {s : Shared} {h₀ : Heap} {L : Addr} {m : Str → Option Value} {Q : Value → Shared → Prop} {n : Int} {t : Tok} {news : List (Addr × Obj)} (F : Fr h₀ L s.heap m) (N : News h₀ L s.heap news)
    (h : ∀ D h' tk t₁ u₁ v₁, Fr h₀ L h' m → News h₀ L h' ((D, rngO 0 n t₁ u₁ v₁) :: news) → (∀ p ∈ news, p.1 < D) → Q (.ref D) { s with heap := h', toks := tk }) :
    wpAny (model prog w) A (call (.type "range") [.int n t]) Q E s :=
  range1_rows F N fun h' tk t₁ u₁ v₁ hR F' N' hk => h _ h' tk t₁ u₁ v₁ F' (news_pushed F N hk hR rfl) (fun p hp => Heap.lt_size (N p hp).1)
theorem fdiv_b {a : Int} (h0 : 0 ≤ a) (h1 : a < 1000000) : 0 ≤ a.fdiv 6 ∧ a.fdiv 6 < 1000000 := by
  rw [Int.fdiv_eq_ediv_of_nonneg _ (by decide)]
  omega
end
section
theorem nodup1 (g : Int) : [g].Nodup := List.nodup_cons.mpr ⟨List.not_mem_nil, List.nodup_nil⟩
noncomputable section
variable {prog : Program} {w : World} {A : Around} {E : Value → Shared → Prop} {s : Shared} {h₀ : Heap} {L : Addr} {m : Str → Option Value} {news : List (Addr × Obj)}
noncomputable def TextsAre (ws : List Value) (f : Nat → Str) (n : Nat) : Prop := ws.length = n ∧ ∀ i, i < n → ∃ t, ws[i]? = some (.str (f i) t)
theorem TextsAre.nil (f : Nat → Str) : TextsAre [] f 0 := ⟨rfl, fun _ h => absurd h (Nat.not_lt_zero _)⟩
theorem TextsAre.snoc {ws : List Value} {f : Nat → Str} {n : Nat} (H : TextsAre ws f n) (t : Tok) : TextsAre (ws ++ [.str (f n) t]) f (n + 1) := by
  refine ⟨by rw [List.length_append, H.1]; rfl, fun i hi => ?_⟩
  by_cases h : i < n
  · rw [List.getElem?_append_left (by rw [H.1]; exact h)]
    exact H.2 i h
  · obtain rfl : i = n := by omega
    exact ⟨t, by rw [List.getElem?_append_right (by rw [H.1]; exact Nat.le_refl _), H.1, Nat.sub_self]; rfl⟩
theorem item_texts {value slice : Expr} {D : Addr} {ws : List Value} {c n : Nat} {f : Nat → Str} {j : Int} {tj : Tok} {Q : Value → Shared → Prop} (N : News h₀ L s.heap news) (hm : (D, listOf ws.toArray c) ∈ news) (H : TextsAre ws f n) (hj0 : 0 ≤ j) (hj : j.toNat < n) (hj1 : j < 1000)
    (h : ∀ t, Q (.str (f j.toNat) t) s)
    (hs : subscripted slice false (.ref D) (.int j tj) = operate [.ref D, .int j tj] (getItem (.ref D) (.int j tj)) := by with_unfolding_all rfl) :
    wpAny (model prog w) A (subscriptTail value slice (.ref D) (.int j tj)) Q E s := by
  have hl : s.heap.IsList D ws.toArray := PySem.IsL.isList (n := c) (N _ hm).1
  refine tail_any hl.typeIs slot_list_getitem.lookup ?_ hs
  obtain ⟨t, e⟩ := H.2 _ hj
  exact wpAny_getItem_list hl hj0 (by omega) (by rw [List.getElem?_toArray]; exact e) (h t)
theorem append_led {D : Addr} {ws : List Value} {c : Nat} {x : Value} {rest : List (Addr × Obj)} {Q : Value → Shared → Prop} (F : Fr h₀ L s.heap m) (N : News h₀ L s.heap news) (hm : ∀ p ∈ (D, listOf ws.toArray c) :: rest, p ∈ news) (hap : ∀ p ∈ rest, p.1 ≠ D) (hsz : ws.length ≤ 1000)
    (h : ∀ h', Fr h₀ L h' m → News h₀ L h' ((D, listOf (ws ++ [x]).toArray (c + 1)) :: rest) → Q .none { s with heap := h' }) :
    wpAny (model prog w) A (call (.builtin "list.append") [.ref D, x]) Q E s :=
  append_head F (fun p hp => N p (hm p hp)) hap (fun h' F' N' => h h' F' (by
    have e : (ws ++ [x]).toArray = ws.toArray.push x := by simp
    rw [e]; exact N')) (by rw [List.size_toArray]; exact Nat.le_trans hsz (by decide +kernel))
end
noncomputable def lawNames : List Str := [Str.ofString "drawn", Str.ofString "alone", Str.ofString "rooms", Str.ofString "plain", Str.ofString "reply", Str.ofString "sign", Str.ofString "size", Str.ofString "port"]
structure LawM (a b : Int) (D R U : Addr) (m : Str → Option Value) : Prop where
  drawn : m (Str.ofString "drawn") = some (.ref D)
  alone : m (Str.ofString "alone") = some (.ref U)
  rooms : m (Str.ofString "rooms") = some (.ref R)
  plain : ∃ t, m (Str.ofString "plain") = some (.str (repT (smC a) (b.fmod 1000)) t)
  reply : ∃ t, m (Str.ofString "reply") = some (.str (repT (mkC a) (b.fmod 1000)) t)
  sign : ∃ t, m (Str.ofString "sign") = some (.str ⟨#[sgC a]⟩ t)
  size : ∃ t, m (Str.ofString "size") = some (.int (zz b) t)
  port : ∃ t, m (Str.ofString "port") = some (.int (b.fmod 1000) t)
theorem LawM.set {a b : Int} {D R U : Addr} {m : Str → Option Value} (H : LawM a b D R U m) (x : Str) (v : Option Value) (hx : lawNames.contains x = false) : LawM a b D R U (fun y => if y = x then v else m y) := by
  have key : ∀ n ∈ lawNames, (if n = x then v else m n) = m n := fun n hn => if_neg fun e => by
    rw [List.contains_iff_mem.mpr (e ▸ hn)] at hx
    cases hx
  constructor
  · rw [key _ (by decide +kernel)]; exact H.drawn
  · rw [key _ (by decide +kernel)]; exact H.alone
  · rw [key _ (by decide +kernel)]; exact H.rooms
  · rw [key _ (by decide +kernel)]; exact H.plain
  · rw [key _ (by decide +kernel)]; exact H.reply
  · rw [key _ (by decide +kernel)]; exact H.sign
  · rw [key _ (by decide +kernel)]; exact H.size
  · rw [key _ (by decide +kernel)]; exact H.port
theorem m_is {m : Str → Option Value} {a : Str} {v : Value} (e : m a = some v) : (fun y => if y = a then some v else m y) = m := by
  funext y
  by_cases hy : y = a
  · rw [if_pos hy, hy, e]
  · rw [if_neg hy]
theorem C_strT {w : World} {loose : List Str} {mean : ExcName → Option Value} {mg mb : Str → Option Value} {dp un : Nat} {gd : Option (List Code)} {cn : Str} {cs : Scope} {ca : Addr} {ccd : Value} {cl : List (Str × Addr)} {outer : List Env} {A₀ : Around} {base h₀ : Heap} {L : Addr} {m : Str → Option Value} {s : Shared} {Q E : Value → Shared → Prop} {news : List (Addr × Obj)}
    (B : Below A₀ base outer h₀) (F : Fr h₀ L s.heap m) (X : (T49.K w.params).In h₀) (N : News h₀ L s.heap news) (T : Top T49.vw loose mean mg mb h₀) (hk : cs.kind = .function) (hd : dp + 12 < recursionLimit) (hu : un + 300 < cLine)
    {a b : Int} {tx tg : Tok} {D : Addr} {us : List Value} {gs : List Int} {c : Nat} (hD : (D, listOf us.toArray c) ∈ news) (hI : IntsAre us gs) (hgl : gs.length ≤ 100)
    (hret : ∀ (t : Tok) (h' : Heap) (tk' : Nat), Fr h₀ L h' m → News h₀ L h' news → Q (.str (strT a b gs) t) { s with heap := h', toks := tk' }) :
    wpAny (model PySem.Challenge.rw_tp0049_02.row.prog w) (ktrTop dp un gd cn cs L ca ccd cl outer) (call (.ref 162) [.str (repT (mkC a) (b.fmod 1000)) tx, .ref D, .str ⟨#[sgC a]⟩ tg]) Q E s :=
  C_strewn B F X N T hk hd hu hD hI (by have := zz_b b; rw [rep_len]; omega) rfl hgl hret
theorem C_dueT {w : World} {loose : List Str} {mean : ExcName → Option Value} {mg mb : Str → Option Value} {dp un : Nat} {gd : Option (List Code)} {cn : Str} {cs : Scope} {ca : Addr} {ccd : Value} {cl : List (Str × Addr)} {outer : List Env} {A₀ : Around} {base h₀ : Heap} {L : Addr} {m : Str → Option Value} {s : Shared} {Q E : Value → Shared → Prop} {news : List (Addr × Obj)}
    (B : Below A₀ base outer h₀) (F : Fr h₀ L s.heap m) (X : (T49.K w.params).In h₀) (N : News h₀ L s.heap news) (T : Top T49.vw loose mean mg mb h₀) (hk : cs.kind = .function) (hd : dp + 12 < recursionLimit) (hu : un + 300 < cLine)
    {b : Int} {tz : Tok} {D : Addr} {us : List Value} {gs : List Int} {c : Nat} (hD : (D, listOf us.toArray c) ∈ news) (hI : IntsAre us gs) (hgl : gs.length ≤ 100)
    (hret : ∀ (t : Tok) (h' : Heap) (tk' : Nat), Fr h₀ L h' m → News h₀ L h' news → Q (.str (dueT gs (zz b)) t) { s with heap := h', toks := tk' }) :
    wpAny (model PySem.Challenge.rw_tp0049_02.row.prog w) (ktrTop dp un gd cn cs L ca ccd cl outer) (call (.ref 155) [.ref D, .int (zz b) tz]) Q E s :=
  C_due B F X N T hk hd hu hD hI (by omega) (by have := zz_b b; omega) hgl hret
theorem C_levA {w : World} {loose : List Str} {mean : ExcName → Option Value} {mg mb : Str → Option Value} {dp un : Nat} {gd : Option (List Code)} {cn : Str} {cs : Scope} {ca : Addr} {ccd : Value} {cl : List (Str × Addr)} {outer : List Env} {A₀ : Around} {base h₀ : Heap} {L : Addr} {m : Str → Option Value} {s : Shared} {Q E : Value → Shared → Prop} {news : List (Addr × Obj)}
    (B : Below A₀ base outer h₀) (F : Fr h₀ L s.heap m) (X : (T49.K w.params).In h₀) (N : News h₀ L s.heap news) (T : Top T49.vw loose mean mg mb h₀) (hk : cs.kind = .function) (hd : dp + 12 < recursionLimit) (hu : un + 300 < cLine)
    {a b g : Int} {ta tb tm : Tok} (h3 : 3 ≤ g) (hg : g < (zz b : Int) + 10)
    (hret : ∀ (t : Tok) (h' : Heap) (tk' : Nat), Fr h₀ L h' m → News h₀ L h' news → Q (.int 4 t) { s with heap := h', toks := tk' }) :
    wpAny (model PySem.Challenge.rw_tp0049_02.row.prog w) (ktrTop dp un gd cn cs L ca ccd cl outer) (call (.ref 136) [.str (strT a b [g - 3]) ta, .str (strT a b [g]) tb, .int 4 tm]) Q E s :=
  C_lev B F X N T hk hd hu (Nat.le_trans (strT_le (nodup1 _) fun x hx => by rw [List.mem_singleton.mp hx]; omega) (Nat.le_of_ble_eq_true rfl)) (Nat.le_trans (strT_le (nodup1 _) fun x hx => by rw [List.mem_singleton.mp hx]; omega) (Nat.le_of_ble_eq_true rfl)) (by decide) (by decide) fun t h' tk' r hr F' N' => by
    rw [strT_one h3 hg hr]
    exact hret t h' tk' F' N'
theorem C_levB {w : World} {loose : List Str} {mean : ExcName → Option Value} {mg mb : Str → Option Value} {dp un : Nat} {gd : Option (List Code)} {cn : Str} {cs : Scope} {ca : Addr} {ccd : Value} {cl : List (Str × Addr)} {outer : List Env} {A₀ : Around} {base h₀ : Heap} {L : Addr} {m : Str → Option Value} {s : Shared} {Q E : Value → Shared → Prop} {news : List (Addr × Obj)}
    (B : Below A₀ base outer h₀) (F : Fr h₀ L s.heap m) (X : (T49.K w.params).In h₀) (N : News h₀ L s.heap news) (T : Top T49.vw loose mean mg mb h₀) (hk : cs.kind = .function) (hd : dp + 12 < recursionLimit) (hu : un + 300 < cLine)
    {a b mc : Int} {gs : List Int} {ta tb tm : Tok} (hm : mc = 2 * (gs.length : Int) - 1) (hd9 : gs.Nodup) (h09 : ∀ g ∈ gs, 0 ≤ g ∧ g < (zz b : Int) + 10) (hl9 : gs.length ≤ 20)
    (hret : ∀ (t : Tok) (h' : Heap) (tk' : Nat), Fr h₀ L h' m → News h₀ L h' news → Q (.int (2 * (gs.length : Int)) t) { s with heap := h', toks := tk' }) :
    wpAny (model PySem.Challenge.rw_tp0049_02.row.prog w) (ktrTop dp un gd cn cs L ca ccd cl outer) (call (.ref 136) [.str (strT a b gs) ta, .str (repT (mkC a) (b.fmod 1000)) tb, .int mc tm]) Q E s :=
  C_lev B F X N T hk hd hu (Nat.le_trans (strT_le hd9 h09) (by omega)) (by have := zz_b b; rw [rep_len]; omega) (by omega) (by omega) fun t h' tk' r hr F' N' => by
    rw [strT_many hd9 h09 hm hr]
    exact hret t h' tk' F' N'
end
section
theorem strT_prepL (a b : Int) (gs : List Int) : prepL (strT a b gs) = (replyL (smC a) (Str.ofString (toString (b.fmod 1000))).cps.toList).map fun c => (⟨#[c]⟩ : Str) := by
  unfold prepL
  have e1 : ∀ c ∈ replyL (mkC a) (Str.ofString (toString (b.fmod 1000))).cps.toList, (!b1B (c : Int)) = true := fun c hc => by rw [char_b1 c (rep_sub (mkC_ok a).2 b c hc)]; rfl
  rw [strT_list, strewL_filter (fun c => !b1B (c : Int)) (by rw [hid_b1 _ (sgC_mem a)]; rfl) _ _ e1]
  rw [← map_low (portD b).1 (smC_ok a).2.2, List.map_map]
  exact List.map_congr_left fun c hc => str_of (char_b3 c (rep_sub (mkC_ok a).2 b c hc))
theorem ones_sum : ∀ l : List Nat, ((l.map fun c => (⟨#[c]⟩ : Str)).map (·.length)).sum = l.length
  | [] => rfl
  | c :: l => by
    rw [List.map_cons, List.map_cons, List.sum_cons, ones_sum l, List.length_cons]
    show 1 + l.length = _
    omega
theorem strT_wt (a b : Int) (gs : List Int) : ((prepL (strT a b gs)).map (·.length)).sum + (prepL (strT a b gs)).length ≤ 1048576 := by
  have := zz_b b
  rw [strT_prepL, ones_sum, List.length_map, replyL_len, zz_len]
  omega
theorem len_intsL {prog : Program} {w : World} {A : Around} {E : Value → Shared → Prop} {s : Shared} {h₀ : Heap} {L D : Addr} {us : List Value} {gs : List Int} {c : Nat} {news : List (Addr × Obj)} {Q : Value → Shared → Prop} (N : News h₀ L s.heap news) (hm : (D, listOf us.toArray c) ∈ news) (hI : IntsAre us gs) (hs : gs.length ≤ 1000) (h : ∀ t tk, Q (.int (gs.length : Int) t) { s with toks := tk }) : wpAny (model prog w) A (call (.builtin "len") [.ref D]) Q E s := by
  have hl : Heap.IsList s.heap D us.toArray := PySem.IsL.isList (n := c) (N _ hm).1
  have e := IntsAre.length hI
  refine PyProof.Rows.len_list hl ?_ ?_
  · rw [List.size_toArray]; omega
  · rw [List.size_toArray, e]; exact h _ _
theorem C_prepT {w : World} {loose : List Str} {mean : ExcName → Option Value} {mg mb : Str → Option Value} {dp un : Nat} {gd : Option (List Code)} {cn : Str} {cs : Scope} {ca : Addr} {ccd : Value} {cl : List (Str × Addr)} {outer : List Env} {A₀ : Around} {base h₀ : Heap} {L : Addr} {m : Str → Option Value} {s : Shared} {Q E : Value → Shared → Prop} {news : List (Addr × Obj)}
    (B : Below A₀ base outer h₀) (F : Fr h₀ L s.heap m) (X : (T49.K w.params).In h₀) (N : News h₀ L s.heap news) (T : Top T49.vw loose mean mg mb h₀) (hk : cs.kind = .function) (hd : dp + 12 < recursionLimit) (hu : un + 300 < cLine)
    {a b : Int} {gs : List Int} {tx : Tok} (hd9 : gs.Nodup) (h09 : ∀ g ∈ gs, 0 ≤ g ∧ g < (zz b : Int) + 10) (hl9 : gs.length ≤ 20)
    (hret : ∀ (t : Tok) (h' : Heap) (tk' : Nat), Fr h₀ L h' m → News h₀ L h' news → Q (.str (repT (smC a) (b.fmod 1000)) t) { s with heap := h', toks := tk' }) :
    wpAny (model PySem.Challenge.rw_tp0049_02.row.prog w) (ktrTop dp un gd cn cs L ca ccd cl outer) (call (.ref 167) [.str (strT a b gs) tx]) Q E s :=
  C_prep B F X N T hk hd hu (by have := strT_le (a := a) hd9 h09; rw [sizeLine_eq]; show (strT a b gs).length ≤ _; omega) (strT_wt a b gs) fun t h' tk' F' N' => by
    rw [strT_prep]
    exact hret t h' tk' F' N'
end
section
noncomputable def drawnL (gs : List Int) : List Int := (gs.take 6).map fun x => x.fmod 1000000
theorem drawnL_len (gs : List Int) : (drawnL gs).length ≤ 6 := by unfold drawnL; rw [List.length_map, List.length_take]; omega
theorem ints_two {ws : List Value} {a b : Int} (h : IntsAre ws [a, b]) : ∃ ta tb : Tok, ws = [.int a ta, .int b tb] := by
  cases h with
  | cons _ ta h => cases h with
    | cons _ tb h => cases h; exact ⟨ta, tb, rfl⟩
theorem bothL_two (xs : List Int) {ws : List Value} (h : IntsAre ws (List.take 2 (xs ++ List.drop ((xs.length : Int)).toNat [8, 80]))) : ∃ ta tb : Tok, ws = [.int (xs.getD 0 8) ta, .int (xs.getD 1 80) tb] := by
  match xs, h with
  | [], h => exact ints_two h
  | [x], h => exact ints_two h
  | x :: y :: l, h => exact ints_two (by simpa using h)
set_option maxHeartbeats 8000000 in
theorem C_law1 {w : World} {loose : List Str} {mean : ExcName → Option Value} {mg mb : Str → Option Value} {fa : Addr} {cd : Value} {h₀ : Heap} {L : Addr} {m : Str → Option Value} {s : Shared} {Q : Flow → Shared → Prop} {E : Value → Shared → Prop} {news : List (Addr × Obj)} {A : Addr} {vs : List Value} {gs : List Int}
    (B : Below callerA h₀ [] h₀) (X : (T49.K w.params).In h₀) (T : Top T49.vw loose mean mg mb h₀)
    (F : Fr h₀ L s.heap (fun y => if y = Str.ofString "script" then some (.ref A) else m y)) (N : News h₀ L s.heap news)
    (hL : h₀.IsList A vs.toArray) (hI : IntsAre vs gs) (hgl : ¬ (63 : Int) < (gs.length : Int))
    (hret : ∀ (a b : Int) (D : Addr) (ys : List Value) (ta tb : Tok) (h' : Heap) (tk' : Nat), IntsAre ys (drawnL gs) → a = (drawnL gs).getD 0 8 → b = (drawnL gs).getD 1 80 →
      Fr h₀ L h' (fun y => if y = Str.ofString "second" then some (.int b tb) else if y = Str.ofString "first" then some (.int a ta) else if y = Str.ofString "drawn" then some (.ref D) else if y = Str.ofString "script" then some (.ref A) else m y) →
      News h₀ L h' ((D, LCg.lst ys) :: news) → Q .next { s with heap := h', toks := tk' }) :
    wpAny (model PySem.Challenge.rw_tp0049_02.row.prog w) (callerA.deeper (envOfC (Str.ofString "law") dLaw.scope L fa cd)) (execs (dLaw.body.take 2) (envOfC (Str.ofString "law") dLaw.scope L fa cd))
      (fun f s' => NameKind.free = NameKind.free → Q f s') E s := by
  k_with_none
  (k_with "assign Tuple" => ((k_here; (with_reducible show wpAny _ _ (assign (Expr.Tuple _ _ _) _ (Value.ref _)) _ _ _); (rename IntsAre _ (List.take 2 _) => hI9); k_dflt (obtain ⟨ta9, tb9, e9⟩ := bothL_two _ hI9); (subst e9); k_dflt (refine' kun_list ?k1 ?k2 ?k3 ?k4 ?k5 ?k6 ?_; (case k1 => k_asm); (case k2 => k_asm); (case k3 => exact News.isList (by k_asm) (by k_mem)); (case k4 => exact rfl); (case k5 => exact rfl); (case k6 => exact rfl); k_whole); intro h9 F9 N9; (try dsimp only))))
  dsimp only [dLaw, List.take]
  k_steps
  all_goals ((rename IntsAre _ (List.map _ _) => hI8); refine hret _ _ _ _ _ _ _ _ hI8 rfl rfl (by k_asm) ?_; exact cb_drop (by assumption) (by kcj_all))
end
section
set_option maxHeartbeats 8000000 in
theorem C_law2 {w : World} {loose : List Str} {mean : ExcName → Option Value} {mg mb : Str → Option Value} {fa : Addr} {cd : Value} {h₀ : Heap} {L : Addr} {m : Str → Option Value} {s : Shared} {Q : Flow → Shared → Prop} {E : Value → Shared → Prop} {news : List (Addr × Obj)} {a b : Int} {ta tb : Tok}
    (B : Below callerA h₀ [] h₀) (X : (T49.K w.params).In h₀) (T : Top T49.vw loose mean mg mb h₀)
    (F : Fr h₀ L s.heap (fun y => if y = Str.ofString "second" then some (.int b tb) else if y = Str.ofString "first" then some (.int a ta) else m y)) (N : News h₀ L s.heap news)
    (ha0 : 0 ≤ a) (ha1 : a < 1000000) (hb0 : 0 ≤ b) (hb1 : b < 1000000)
    (hret : ∀ (R U : Addr) (t1 u1 v1 tr tq tg tz tp ts tm : Tok) (h' : Heap) (tk' : Nat), (∀ p ∈ news, p.1 < R) → R < U →
      Fr h₀ L h' (fun y => if y = Str.ofString "alone" then some (.ref U) else if y = Str.ofString "rooms" then some (.ref R) else if y = Str.ofString "plain" then some (.str (repT (smC a) (b.fmod 1000)) tr) else if y = Str.ofString "reply" then some (.str (repT (mkC a) (b.fmod 1000)) tq) else if y = Str.ofString "sign" then some (.str ⟨#[sgC a]⟩ tg) else if y = Str.ofString "size" then some (.int (zz b) tz) else if y = Str.ofString "port" then some (.int (b.fmod 1000) tp) else if y = Str.ofString "small" then some (.str ⟨#[smC a]⟩ ts) else if y = Str.ofString "mark" then some (.str ⟨#[mkC a]⟩ tm) else if y = Str.ofString "second" then some (.int b tb) else if y = Str.ofString "first" then some (.int a ta) else m y) →
      News h₀ L h' ((U, listOf #[] 0) :: (R, rngO 0 ((zz b : Int) + 10) t1 u1 v1) :: news) → Q .next { s with heap := h', toks := tk' }) :
    wpAny (model PySem.Challenge.rw_tp0049_02.row.prog w) (callerA.deeper (envOfC (Str.ofString "law") dLaw.scope L fa cd)) (execs ((dLaw.body.drop 2).take 9) (envOfC (Str.ofString "law") dLaw.scope L fa cd))
      (fun f s' => NameKind.free = NameKind.free → Q f s') E s := by
  k_with_none
  (k_with "subscriptTail" => ((k_here; (with_reducible show wpAny _ _ (subscriptTail _ _ (Value.ref _) (Value.int _ _)) _ _ _); k_dflt (first | (refine item6 marksL (by k_asm) (by k_mem) (by decide +kernel) (Int.fmod_nonneg_of_pos _ (by decide)) (Int.fmod_lt_of_pos _ (by decide)) ?_) | (refine item6 smallsL (by k_asm) (by k_mem) (by decide +kernel) (Int.fmod_nonneg_of_pos _ (by decide)) (Int.fmod_lt_of_pos _ (by decide)) ?_)); intro t9; (try dsimp only))))
  (k_with "call ref" => ((k_here; (with_reducible show wpAny _ _ (call (Value.ref 143) _) _ _ _); k_dflt (refine C_hidden (by k_asm) (by k_asm) (by k_asm) (by k_asm) (by k_asm) (by first | exact rfl | assumption) (by ktr_room) (by ktr_units) (fdiv_b ha0 ha1).1 (fdiv_b ha0 ha1).2 ?_); (intro t9 h9 tk9 F9 N9; (try dsimp only); (try k_fold)))))
  (k_with "call type:range" => ((k_here; (with_reducible show wpAny _ _ (call (Value.type _) [Value.int _ _]) _ _ _); k_dflt (refine range1_led (by k_asm) (by k_asm) ?_); (intro D' h' tk' t9 u9 v9 F' N' l1; (try k_lt l1); (try k_sweep)))))
  (k_with "binaryOp Mult int str" => ((k_here; k_dflt (refine mul3 ?_); (intro t9 k9; (try dsimp only)))))
  dsimp only [dLaw, List.take, List.drop]
  k_steps
  all_goals ((rename Fr _ _ _ _ => F9); rw [rep_eq, rep_eq] at F9; with_unfolding_all (refine hret _ _ t9 u9 v9 _ _ _ _ _ _ _ _ _ ?_ ?_ F9 ?_))
  all_goals first | (exact cb_drop (by assumption) (by kcj_all)) | (exact of_allLt l1.2.2) | ((rename D' < _ ∧ _ => hB); exact hB.1)
end
section
theorem cmpA {w : World} {loose : List Str} {mean : ExcName → Option Value} {mg mb : Str → Option Value} {fa : Addr} {cd : Value} {h₀ : Heap} {L : Addr} {m : Str → Option Value} {s : Shared} {Q : Flow → Shared → Prop} {E : Value → Shared → Prop} {news : List (Addr × Obj)} {x due : Str} {tx td tp : Tok} {port : Int}
    (B : Below callerA h₀ [] h₀) (X : (T49.K w.params).In h₀) (T : Top T49.vw loose mean mg mb h₀)
    (F : Fr h₀ L s.heap m) (e1 : m (Str.ofString "strewn") = some (.str x tx)) (e2 : m (Str.ofString "due") = some (.str due td)) (e3 : m (Str.ofString "port") = some (.int port tp)) (N : News h₀ L s.heap news)
    (H : Meant x port due) (ok : PyData.strOk x = true) (h : ∀ h' tk, Fr h₀ L h' m → News h₀ L h' news → Q .next { s with heap := h', toks := tk }) :
    wpC (model PySem.Challenge.rw_tp0049_02.row.prog w) (callerA.deeper (envOfC (Str.ofString "law") dLaw.scope L fa cd)) (exec (forA.getD 2 default) (envOfC (Str.ofString "law") dLaw.scope L fa cd)) Q E s := by
  have em : (fun y => if y = Str.ofString "strewn" then some (Value.str x tx) else if y = Str.ofString "due" then some (.str due td) else if y = Str.ofString "port" then some (.int port tp) else m y) = m := by
    rw [show (fun y => if y = Str.ofString "strewn" then some (Value.str x tx) else if y = Str.ofString "due" then some (.str due td) else if y = Str.ofString "port" then some (.int port tp) else m y) = fun y => if y = Str.ofString "strewn" then some (Value.str x tx) else if y = Str.ofString "due" then some (.str due td) else (fun y => if y = Str.ofString "port" then some (.int port tp) else m y) y from rfl, m_is e3]
    rw [show (fun y => if y = Str.ofString "strewn" then some (Value.str x tx) else if y = Str.ofString "due" then some (.str due td) else m y) = fun y => if y = Str.ofString "strewn" then some (Value.str x tx) else (fun y => if y = Str.ofString "due" then some (.str due td) else m y) y from rfl, m_is e2]
    exact m_is e1
  refine (C_cmpA B X T (m := m) (by rw [em]; exact F) N H ok).mono (fun f s' g => ?_) fun _ _ g => g
  obtain ⟨rfl, h', tk, rfl, F', N'⟩ := g
  rw [em] at F'
  exact h h' tk F' N'
set_option maxHeartbeats 8000000 in
theorem C_turnA1 {w : World} {loose : List Str} {mean : ExcName → Option Value} {mg mb : Str → Option Value} {fa : Addr} {cd : Value} {h₀ : Heap} {L : Addr} {m : Str → Option Value} {s : Shared} {Q : Flow → Shared → Prop} {E : Value → Shared → Prop} {rest : List (Addr × Obj)} {a b g : Int} {U : Addr} {ws : List Value} {c : Nat} {tg tq ts tz tp : Tok}
    (B : Below callerA h₀ [] h₀) (X : (T49.K w.params).In h₀) (T : Top T49.vw loose mean mg mb h₀)
    (F : Fr h₀ L s.heap (fun y => if y = Str.ofString "g" then some (.int g tg) else if y = Str.ofString "alone" then some (.ref U) else if y = Str.ofString "reply" then some (.str (repT (mkC a) (b.fmod 1000)) tq) else if y = Str.ofString "sign" then some (.str ⟨#[sgC a]⟩ ts) else if y = Str.ofString "size" then some (.int (zz b) tz) else if y = Str.ofString "port" then some (.int (b.fmod 1000) tp) else m y)) (N : News h₀ L s.heap ((U, listOf ws.toArray c) :: rest))
    (hret : ∀ (h' : Heap) (tk' : Nat) (ts' td' : Tok), Fr h₀ L h' (fun y => if y = Str.ofString "due" then some (.str (dueT [g] (zz b)) td') else if y = Str.ofString "strewn" then some (.str (strT a b [g]) ts') else if y = Str.ofString "g" then some (.int g tg) else if y = Str.ofString "alone" then some (.ref U) else if y = Str.ofString "reply" then some (.str (repT (mkC a) (b.fmod 1000)) tq) else if y = Str.ofString "sign" then some (.str ⟨#[sgC a]⟩ ts) else if y = Str.ofString "size" then some (.int (zz b) tz) else if y = Str.ofString "port" then some (.int (b.fmod 1000) tp) else m y) → News h₀ L h' ((U, listOf ws.toArray c) :: rest) → Q .next { s with heap := h', toks := tk' }) :
    wpAny (model PySem.Challenge.rw_tp0049_02.row.prog w) (callerA.deeper (envOfC (Str.ofString "law") dLaw.scope L fa cd)) (execs (forA.take 2) (envOfC (Str.ofString "law") dLaw.scope L fa cd)) Q E s := by
  k_with_none
  (k_with "call ref" => ((k_here; (with_reducible show wpAny _ _ (call (Value.ref 162) _) _ _ _); k_dflt (refine C_strT (by k_asm) (by k_asm) (by k_asm) (by k_asm) (by k_asm) (by first | exact rfl | assumption) (by ktr_room) (by ktr_units) (us := [.int g _]) (by k_mem) (IntsAre.cons _ _ .nil) (Nat.le_of_ble_eq_true rfl) ?_); (intro t9 h9 tk9 F9 N9; (try dsimp only); (try k_fold)))))
  (k_with "call ref" => ((k_here; (with_reducible show wpAny _ _ (call (Value.ref 155) _) _ _ _); k_dflt (refine C_dueT (by k_asm) (by k_asm) (by k_asm) (by k_asm) (by k_asm) (by first | exact rfl | assumption) (by ktr_room) (by ktr_units) (us := [.int g _]) (by k_mem) (IntsAre.cons _ _ .nil) (Nat.le_of_ble_eq_true rfl) ?_); (intro t9 h9 tk9 F9 N9; (try dsimp only); (try k_fold)))))
  dsimp only [forA, dLaw, List.getD, List.getElem?_cons_zero, List.getElem?_cons_succ, Option.getD, List.take, List.drop]
  k_steps
  all_goals exact hret _ _ _ _ (by assumption) (cb_drop (by assumption) (by kcj_all))
theorem three_le {g : Int} (h0 : 0 < g) (h1 : g.fmod 3 = 0) : 3 ≤ g := by
  rw [Int.fmod_eq_emod_of_nonneg _ (by decide)] at h1
  omega
set_option maxHeartbeats 8000000 in
theorem C_turnA2 {w : World} {loose : List Str} {mean : ExcName → Option Value} {mg mb : Str → Option Value} {fa : Addr} {cd : Value} {h₀ : Heap} {L : Addr} {m : Str → Option Value} {s : Shared} {Q : Flow → Shared → Prop} {E : Value → Shared → Prop} {rest : List (Addr × Obj)} {a b g : Int} {U : Addr} {ws : List Value} {c : Nat} {tg tq ts tz tp : Tok} {ts' td' : Tok}
    (B : Below callerA h₀ [] h₀) (X : (T49.K w.params).In h₀) (T : Top T49.vw loose mean mg mb h₀)
    (F : Fr h₀ L s.heap (fun y => if y = Str.ofString "due" then some (.str (dueT [g] (zz b)) td') else if y = Str.ofString "strewn" then some (.str (strT a b [g]) ts') else if y = Str.ofString "g" then some (.int g tg) else if y = Str.ofString "alone" then some (.ref U) else if y = Str.ofString "reply" then some (.str (repT (mkC a) (b.fmod 1000)) tq) else if y = Str.ofString "sign" then some (.str ⟨#[sgC a]⟩ ts) else if y = Str.ofString "size" then some (.int (zz b) tz) else if y = Str.ofString "port" then some (.int (b.fmod 1000) tp) else m y)) (N : News h₀ L s.heap ((U, listOf ws.toArray c) :: rest)) (hU : ∀ p ∈ rest, p.1 ≠ U) (hT : TextsAre ws (fun k => strT a b [(k : Int)]) g.toNat) (g0 : 0 ≤ g) (g1 : g < (zz b : Int) + 10)
    (hret : ∀ (h' : Heap) (tk' : Nat) (c' : Nat) (ws' : List Value), TextsAre ws' (fun k => strT a b [(k : Int)]) (g.toNat + 1) → Fr h₀ L h' (fun y => if y = Str.ofString "due" then some (.str (dueT [g] (zz b)) td') else if y = Str.ofString "strewn" then some (.str (strT a b [g]) ts') else if y = Str.ofString "g" then some (.int g tg) else if y = Str.ofString "alone" then some (.ref U) else if y = Str.ofString "reply" then some (.str (repT (mkC a) (b.fmod 1000)) tq) else if y = Str.ofString "sign" then some (.str ⟨#[sgC a]⟩ ts) else if y = Str.ofString "size" then some (.int (zz b) tz) else if y = Str.ofString "port" then some (.int (b.fmod 1000) tp) else m y) → News h₀ L h' ((U, listOf ws'.toArray c') :: rest) → Q .next { s with heap := h', toks := tk' }) :
    wpAny (model PySem.Challenge.rw_tp0049_02.row.prog w) (callerA.deeper (envOfC (Str.ofString "law") dLaw.scope L fa cd)) (execs (forA.drop 3) (envOfC (Str.ofString "law") dLaw.scope L fa cd)) Q E s := by
  k_with_none
  (k_with "call builtin:list.append" => ((k_here; (with_reducible show wpAny _ _ (call (Value.builtin _) [Value.ref _, _]) _ _ _); k_dflt (refine append_led (by k_asm) (by k_asm) (by kcj_all) (by assumption) (by have := zz_b b; rw [hT.1]; omega) ?_); (intro h9 F9 N9; (try dsimp only)))))
  (k_with "subscriptTail" => ((k_here; (with_reducible show wpAny _ _ (subscriptTail _ _ (Value.ref _) (Value.int _ _)) _ _ _); k_dflt (have g3 := three_le (g := g) (by assumption) (by assumption)); k_dflt (refine item_texts (by k_asm) (by k_mem) (hT9 _) (by omega) (by omega) (by have := zz_b b; omega) ?_); (intro t9; (try dsimp only); k_dflt (rw [Int.toNat_of_nonneg (show 0 ≤ g - 3 by omega)])))))
  (k_with "call ref" => ((k_here; (with_reducible show wpAny _ _ (call (Value.ref 136) _) _ _ _); k_dflt (refine C_levA (by k_asm) (by k_asm) (by k_asm) (by k_asm) (by k_asm) (by first | exact rfl | assumption) (by ktr_room) (by ktr_units) g3 (by omega) ?_); (intro t9 h9 tk9 F9 N9; (try dsimp only); (try k_fold)))))
  have hT9 : ∀ t : Tok, TextsAre (ws ++ [.str (strT a b [g]) t]) (fun k => strT a b [(k : Int)]) (g.toNat + 1) := fun t => by
    have := hT.snoc t
    rwa [Int.toNat_of_nonneg g0] at this
  dsimp only [forA, dLaw, List.getD, List.getElem?_cons_zero, List.getElem?_cons_succ, Option.getD, List.take, List.drop]
  k_steps
  all_goals first | exact hret _ _ _ _ (hT9 _) (by assumption) (cb_drop (by assumption) (by kcj_all))
end
section
theorem LawM.chainA {a b : Int} {D R U : Addr} {m : Str → Option Value} (H : LawM a b D R U m) : ∃ tq ts tz tp : Tok, (fun y => if y = Str.ofString "alone" then some (.ref U) else if y = Str.ofString "reply" then some (.str (repT (mkC a) (b.fmod 1000)) tq) else if y = Str.ofString "sign" then some (.str ⟨#[sgC a]⟩ ts) else if y = Str.ofString "size" then some (.int (zz b) tz) else if y = Str.ofString "port" then some (.int (b.fmod 1000) tp) else m y) = m := by
  obtain ⟨tq, e1⟩ := H.reply
  obtain ⟨ts, e2⟩ := H.sign
  obtain ⟨tz, e3⟩ := H.size
  obtain ⟨tp, e4⟩ := H.port
  refine ⟨tq, ts, tz, tp, ?_⟩
  funext y
  by_cases h0 : y = Str.ofString "alone"
  · rw [if_pos h0, h0, H.alone]
  rw [if_neg h0]
  by_cases h1 : y = Str.ofString "reply"
  · rw [if_pos h1, h1, e1]
  rw [if_neg h1]
  by_cases h2 : y = Str.ofString "sign"
  · rw [if_pos h2, h2, e2]
  rw [if_neg h2]
  by_cases h3 : y = Str.ofString "size"
  · rw [if_pos h3, h3, e3]
  rw [if_neg h3]
  by_cases h4 : y = Str.ofString "port"
  · rw [if_pos h4, h4, e4]
  rw [if_neg h4]
theorem forA_drop : forA.drop 2 = forA.getD 2 default :: forA.drop 3 := rfl
theorem turnA {w : World} {loose : List Str} {mean : ExcName → Option Value} {mg mb : Str → Option Value} {fa : Addr} {cd : Value} {h₀ : Heap} {L : Addr} {m : Str → Option Value} {s : Shared} {Q : Flow → Shared → Prop} {E : Value → Shared → Prop} {rest : List (Addr × Obj)} {a b g : Int} {D R U : Addr} {ws : List Value} {c : Nat} {tg : Tok}
    (B : Below callerA h₀ [] h₀) (X : (T49.K w.params).In h₀) (T : Top T49.vw loose mean mg mb h₀) (H : LawM a b D R U m)
    (F : Fr h₀ L s.heap (fun y => if y = Str.ofString "g" then some (.int g tg) else m y))
    (N : News h₀ L s.heap ((U, listOf ws.toArray c) :: rest)) (hU : ∀ p ∈ rest, p.1 ≠ U) (hT : TextsAre ws (fun k => strT a b [(k : Int)]) g.toNat) (g0 : 0 ≤ g) (g1 : g < (zz b : Int) + 10)
    (hret : ∀ (h' : Heap) (tk' : Nat) (c' : Nat) (ws' : List Value) (m' : Str → Option Value), TextsAre ws' (fun k => strT a b [(k : Int)]) (g.toNat + 1) → LawM a b D R U m' → Fr h₀ L h' m' → News h₀ L h' ((U, listOf ws'.toArray c') :: rest) → Q .next { s with heap := h', toks := tk' }) :
    wpC (model PySem.Challenge.rw_tp0049_02.row.prog w) (callerA.deeper (envOfC (Str.ofString "law") dLaw.scope L fa cd)) (execs forA (envOfC (Str.ofString "law") dLaw.scope L fa cd)) Q E s := by
  obtain ⟨tq, ts, tz, tp, e⟩ := H.chainA
  rw [← e] at F
  refine wpC.execs_at 2 (C_turnA1 B X T F N fun h1 tk1 ts' td' F1 N1 => ?_)
  show wpC _ _ (execs (forA.drop 2) _) _ _ _
  rw [forA_drop]
  obtain ⟨tp', ep⟩ := H.port
  refine wpC.execs_cons (cmpA B X T F1 (x := strT a b [g]) (due := dueT [g] (zz b)) (port := b.fmod 1000) (tx := ts') (td := td') (tp := tp) ?_ ?_ ?_ N1 (strT_meant (nodup1 g) fun x hx => by rw [List.mem_singleton.mp hx]; exact g0) (strT_ok _ _ _) fun h2 tk2 F2 N2 => ?_)
  · rw [if_neg (by decide +kernel), if_pos rfl]
  · rw [if_pos rfl]
  · have k : ∀ x ∈ [Str.ofString "due", Str.ofString "strewn", Str.ofString "g", Str.ofString "alone", Str.ofString "reply", Str.ofString "sign", Str.ofString "size"], Str.ofString "port" ≠ x := by decide +kernel
    rw [if_neg (k _ (by decide +kernel)), if_neg (k _ (by decide +kernel)), if_neg (k _ (by decide +kernel)), if_neg (k _ (by decide +kernel)), if_neg (k _ (by decide +kernel)), if_neg (k _ (by decide +kernel)), if_neg (k _ (by decide +kernel)), if_pos rfl]
  · refine wpC.any (C_turnA2 B X T F2 N2 hU hT g0 g1 fun h3 tk3 c3 ws3 hT3 F3 N3 => hret h3 tk3 c3 ws3 _ hT3 ?_ F3 N3)
    have e' : (fun y => if y = Str.ofString "due" then some (Value.str (dueT [g] (zz b)) td') else if y = Str.ofString "strewn" then some (.str (strT a b [g]) ts') else if y = Str.ofString "g" then some (.int g tg) else m y) = (fun y => if y = Str.ofString "due" then some (Value.str (dueT [g] (zz b)) td') else if y = Str.ofString "strewn" then some (.str (strT a b [g]) ts') else if y = Str.ofString "g" then some (.int g tg) else if y = Str.ofString "alone" then some (.ref U) else if y = Str.ofString "reply" then some (.str (repT (mkC a) (b.fmod 1000)) tq) else if y = Str.ofString "sign" then some (.str ⟨#[sgC a]⟩ ts) else if y = Str.ofString "size" then some (.int (zz b) tz) else if y = Str.ofString "port" then some (.int (b.fmod 1000) tp) else m y) := by
      conv => lhs; rw [← e]
    rw [← e']
    exact ((H.set (Str.ofString "g") _ (by decide +kernel)).set (Str.ofString "strewn") _ (by decide +kernel)).set (Str.ofString "due") _ (by decide +kernel)
theorem small_ones {a b : Int} (n : Nat) (hb : b = a + n) (h0 : 0 ≤ a) (ha : a ≤ 100000) (h1 : n ≤ 1000) : Builtin.Range.small a b 1 = true ∧ Builtin.Range.rangeSize a b 1 = ((n : Nat) : Int) := by
  subst hb
  have hn : Builtin.Range.rangeSize a (a + n) 1 = ((n : Nat) : Int) := by
    unfold Builtin.Range.rangeSize
    rw [if_pos (by decide)]
    split <;> omega
  refine ⟨?_, hn⟩
  unfold Builtin.Range.small
  rw [hn]
  simp only [Builtin.Range.rangeFitsLong, Bool.and_eq_true, Bool.or_eq_true, decide_eq_true_eq, beq_iff_eq, show (1 : Int) > 0 by decide, if_true]
  (try split) <;> omega
theorem news_left {h₀ h : Heap} {L : Addr} {q : Addr × Obj} {own rest : List (Addr × Obj)} (N : News h₀ L h (own ++ q :: rest)) : News h₀ L h (q :: (own ++ rest)) := fun p hp => by
  rcases List.mem_cons.mp hp with rfl | hp
  · exact N _ (List.mem_append_right _ List.mem_cons_self)
  · rcases List.mem_append.mp hp with h | h
    · exact N _ (List.mem_append_left _ h)
    · exact N _ (List.mem_append_right _ (List.mem_cons_of_mem _ h))
theorem news_right {h₀ h : Heap} {L : Addr} {q : Addr × Obj} {own rest : List (Addr × Obj)} (N : News h₀ L h (q :: (own ++ rest))) : News h₀ L h (own ++ q :: rest) := fun p hp => by
  rcases List.mem_append.mp hp with h | h
  · exact N _ (List.mem_cons_of_mem _ (List.mem_append_left _ h))
  · rcases List.mem_cons.mp h with rfl | h
    · exact N _ List.mem_cons_self
    · exact N _ (List.mem_cons_of_mem _ (List.mem_append_right _ h))
theorem loopA {w : World} {loose : List Str} {mean : ExcName → Option Value} {mg mb : Str → Option Value} {fa : Addr} {cd : Value} {h₀ : Heap} {L : Addr} {m : Str → Option Value} {s : Shared} {Q : Flow → Shared → Prop} {E : Value → Shared → Prop} {rest : List (Addr × Obj)} {a b : Int} {D R U : Addr} {t1 u1 v1 : Tok}
    (B : Below callerA h₀ [] h₀) (X : (T49.K w.params).In h₀) (T : Top T49.vw loose mean mg mb h₀) (H : LawM a b D R U m) (F : Fr h₀ L s.heap m)
    (N : News h₀ L s.heap ((U, listOf #[] 0) :: rest)) (hR : (R, rngO 0 ((zz b : Int) + 10) t1 u1 v1) ∈ rest) (hU : ∀ p ∈ rest, p.1 ≠ U)
    (hret : ∀ (h' : Heap) (tk' : Nat) (m' : Str → Option Value), LawM a b D R U m' → Fr h₀ L h' m' → News h₀ L h' rest → Q .next { s with heap := h', toks := tk' }) :
    wpC (model PySem.Challenge.rw_tp0049_02.row.prog w) (callerA.deeper (envOfC (Str.ofString "law") dLaw.scope L fa cd)) (exec (dLaw.body.getD 11 default) (envOfC (Str.ofString "law") dLaw.scope L fa cd)) Q E s := by
  obtain ⟨p1, p2, p3, hst⟩ : ∃ p1 p2 p3, dLaw.body.getD 11 default = .For (.Name (Str.ofString "g") p1) (.Name (Str.ofString "rooms") p2) forA [] p3 := ⟨_, _, _, rfl⟩
  rw [hst]
  have hz := zz_b b
  have hsm := small_ones (a := 0) (b := (zz b : Int) + 10) (zz b + 10) (by omega) (by decide) (by decide) (by omega)
  refine wpC.For (wpAny_Name (wpAny_loadName_local rfl (by with_unfolding_all rfl) F.ns H.rooms ?_) (by decide +kernel))
  refine wpAny_pyIter_range (N _ (List.mem_cons_of_mem _ hR)).1 hsm.1 ?_
  have hnew := next_is_new F
  have lt₀ : ∀ p ∈ (U, listOf #[] 0) :: rest, p.1 < s.heap.objs.size := fun p hp => Heap.lt_size (N p hp).1
  have hUI : U < s.heap.objs.size := lt₀ _ List.mem_cons_self
  have W := (Walks.range (prog := PySem.Challenge.rw_tp0049_02.row.prog) (w := w) (A := callerA.deeper (envOfC (Str.ofString "law") dLaw.scope L fa cd)) rfl s.heap.objs.size 0 1 (zz b + 10)).bound
  refine codeC.forWalk (R := fun r s' => match r with | .ok f => Q f s' | .error _ => False) (s := { s with heap := s.heap.push _ }) (m := m) (news := (U, listOf #[] 0) :: rest) W (by with_unfolding_all rfl) (by rfl) ?_ ?_ ?_ ?_ (F.push _) (fun p hp => ⟨Heap.get?_push_of_some _ (N p hp).1, (N p hp).2⟩)
    (fun i m₁ news₁ => ∃ ws c, LawM a b D R U m₁ ∧ TextsAre ws (fun k => strT a b [(k : Int)]) i ∧ news₁ = (U, listOf ws.toArray c) :: rest) ⟨[], 0, H, TextsAre.nil _, rfl⟩ ?_ ?_
  · intro hm
    exact absurd F.ns.lt ((List.mem_singleton.mp hm) ▸ Nat.lt_irrefl _)
  · intro b hb
    rw [List.mem_singleton.mp hb]
    exact hnew
  · exact fun p hp hI => Nat.ne_of_lt (lt₀ p hp) (List.mem_singleton.mp hI)
  · show IsRangeIter _ _ _ _ _
    rw [hsm.2]
    simpa using Heap.get?_push_size _ rfl
  · rintro i v m₁ news₁ s₁ own ⟨hh', tk', rfl⟩ hin ⟨_, t, rfl⟩ ⟨ws, c, H₁, hT, rfl⟩ hoff hown hget hall hst F₁ N₁
    have eg : (0 : Int) + (i : Int) * 1 = (i : Int) := by omega
    rw [eg] at F₁
    have notI : ∀ (x : List Value) (k : Nat), ∀ p ∈ (U, listOf x.toArray k) :: rest, p.1 ∉ [s.heap.objs.size] := fun x k p hp hI => by
      rcases List.mem_cons.mp hp with rfl | hp
      · exact Nat.ne_of_lt hUI (List.mem_singleton.mp hI)
      · exact Nat.ne_of_lt (lt₀ p (List.mem_cons_of_mem _ hp)) (List.mem_singleton.mp hI)
    refine turnA B X T H₁ F₁ (news_left N₁) (fun p hp => ?_) (by rw [Int.toNat_natCast]; exact hT) (by omega) (by omega) fun h2 tk2 c2 ws2 m2 hT2 H2 F2 N2 => ?_
    · rcases List.mem_append.mp hp with h | h
      · rw [List.mem_singleton.mp (hown p h)]
        exact fun e => Nat.ne_of_lt hUI e.symm
      · exact hU p h
    · rw [Int.toNat_natCast] at hT2
      exact LoopStepU.intro F2 (news_right N2) (notI _ _) ⟨ws2, c2, H2, hT2, rfl⟩
  · rintro h' tk' m' news' F' N' hn' ⟨ws, c, H', hT, rfl⟩
    exact hret h' tk' m' H' F' fun p hp => N' p (List.mem_cons_of_mem _ hp)
end
section
theorem rng_of {h₀ h : Heap} {L R : Addr} {a b : Int} {t u v : Tok} {news : List (Addr × Obj)} (N : News h₀ L h news) (hm : (R, rngO a b t u v) ∈ news) : IsRange h R a b 1 t u v := (N _ hm).1
set_option maxHeartbeats 8000000 in
theorem C_law12 {w : World} {loose : List Str} {mean : ExcName → Option Value} {mg mb : Str → Option Value} {fa : Addr} {cd : Value} {h₀ : Heap} {L : Addr} {m : Str → Option Value} {s : Shared} {Q : Flow → Shared → Prop} {E : Value → Shared → Prop} {rest : List (Addr × Obj)} {b : Int} {R : Addr} {t1 u1 v1 tz : Tok}
    (B : Below callerA h₀ [] h₀) (X : (T49.K w.params).In h₀) (T : Top T49.vw loose mean mg mb h₀)
    (F : Fr h₀ L s.heap (fun y => if y = Str.ofString "rooms" then some (.ref R) else if y = Str.ofString "size" then some (.int (zz b) tz) else m y)) (N : News h₀ L s.heap ((R, rngO 0 ((zz b : Int) + 10) t1 u1 v1) :: rest))
    (hret : ∀ (h' : Heap) (tk' : Nat) (S D0 D1 D2 D3 : Addr) (us0 us1 us2 us3 : List Value) (c0 : Nat), IntsAre us0 (rangeKs 0 (zz b + 10)) → IntsAre us1 [3, 5, 6, (zz b : Int) + 9] → IntsAre us2 [4, 5, (zz b : Int) + 8] → IntsAre us3 [4, 6, 7, (zz b : Int) + 8] → (R < S ∧ D0 < S ∧ D1 < S ∧ D2 < S ∧ D3 < S ∧ AllLt S rest) → (AllLt D0 rest ∧ AllLt D1 rest ∧ AllLt D2 rest ∧ AllLt D3 rest) →
      Fr h₀ L h' (fun y => if y = Str.ofString "sets" then some (.ref S) else if y = Str.ofString "rooms" then some (.ref R) else if y = Str.ofString "size" then some (.int (zz b) tz) else m y) →
      News h₀ L h' ((S, listOf [.ref D0, .ref D1, .ref D2, .ref D3].toArray 0) :: (D3, listOf us3.toArray 0) :: (D2, listOf us2.toArray 0) :: (D1, listOf us1.toArray 0) :: (D0, listOf us0.toArray c0) :: (R, rngO 0 ((zz b : Int) + 10) t1 u1 v1) :: rest) → Q .next { s with heap := h', toks := tk' }) :
    wpAny (model PySem.Challenge.rw_tp0049_02.row.prog w) (callerA.deeper (envOfC (Str.ofString "law") dLaw.scope L fa cd)) (execs [dLaw.body.getD 12 default] (envOfC (Str.ofString "law") dLaw.scope L fa cd)) Q E s := by
  k_with_none
  (k_with "call type:list" => ((k_here; (with_reducible show wpAny _ _ (call (Value.type _) [Value.ref _]) _ _ _); k_dflt (refine list_ones (zz b + 10) (by rfl) (by k_asm) (by k_asm) (rng_of (by k_asm) (by k_mem)) (by omega) (by decide) (by decide) (by have := zz_b b; omega) ?_); (intro D' vs' c' h' tk' F' N' l1 hI' hl'); (try k_lt l1); (try k_sweep))))
  have hz9 := zz_b b
  dsimp only [dLaw, List.getD, List.getElem?_cons_zero, List.getElem?_cons_succ, Option.getD]
  k_steps
  all_goals
    (rename _ < _ ∧ _ < _ ∧ _ < _ ∧ _ < _ ∧ _ < _ ∧ AllLt _ _ => l9)
    obtain ⟨a3, a2, a1, a0, aR, aA⟩ := l9
    (rename _ < _ ∧ AllLt _ _ => l5)
    (rename _ < _ ∧ _ < _ ∧ AllLt _ _ => l6)
    (rename _ < _ ∧ _ < _ ∧ _ < _ ∧ AllLt _ _ => l7)
    (rename _ < _ ∧ _ < _ ∧ _ < _ ∧ _ < _ ∧ AllLt _ _ => l8)
    (rename IntsAre _ _ => hI9)
    (rename News _ _ _ _ => N9)
    (rename Fr _ _ _ _ => F9)
    refine hret _ _ _ _ _ _ _ _ [_, _, _, _] [_, _, _] [_, _, _, _] _ hI9 (.cons _ _ (.cons _ _ (.cons _ _ (.cons _ _ .nil)))) (.cons _ _ (.cons _ _ (.cons _ _ .nil))) (.cons _ _ (.cons _ _ (.cons _ _ (.cons _ _ .nil)))) ⟨aR, a0, a1, a2, a3, aA⟩ ⟨l5.2, l6.2.2, l7.2.2.2, l8.2.2.2.2⟩ F9 N9
end
section
section
variable {prog : Program} {w : World} {A : Around} {E : Value → Shared → Prop} {s : Shared} {h₀ : Heap} {L : Addr} {m : Str → Option Value} {env : Env}
/-- a comprehension with a test over a range: some of its numbers -/
theorem rest_rng {ct elt : Expr} {x : Str} {scope : Scope} {cl : List (Str × Addr)} {N : Nat} {news : List (Addr × Obj)} {Fin : List Value → List (Addr × Obj) → Prop}
    (turn : ∀ n t I oI C oC D m₂ ys h tk (E' : Value → Shared → Prop), 0 ≤ n → n < (N : Int) → LCg.NsObj oC m₂ → m₂ x = some (.int n t) → Fr h₀ L h m → News h₀ L h ((I, oI) :: (C, oC) :: (D, LCg.lst ys) :: news) → LCg.Off3 I C D news → ((@Ne Nat I C) ∧ (@Ne Nat I D) ∧ (@Ne Nat C D)) →
      wpAny (model prog w) A (isTrue ct (compEnvC scope cl C env) (eval ct (compEnvC scope cl C env))) (fun b s' => if b = true then wpAny (model prog w) A (eval elt (compEnvC scope cl C env)) (LCg.CompEnd h₀ L m { s with heap := h, toks := tk } I oI C oC D (LCg.lst ys) (fun _ => True) (fun y news' => news' = news ∧ ∃ t', y = .int n t')) E' s'
        else LCg.CompEnd h₀ L m { s with heap := h, toks := tk } I oI C oC D (LCg.lst ys) (fun _ => True) (fun _ news' => news' = news) Value.none s') E' { s with heap := h, toks := tk })
    (fin : ∀ ys ks, IntsAre ys ks → ks.Sublist (rangeKs 0 N) → Fin ys news) : LCt.CompRestT prog w A h₀ L m env ct elt x scope cl s (fun _ => True) (fun i v => ∃ t, v = .int ((0 : Int) + (i : Int)) t) Fin N 0 [] news := by
  have key : ∀ (j i : Nat) (ys : List Value) (ks : List Int), i + j = N → IntsAre ys ks → ks.Sublist (rangeKs 0 i) → LCt.CompRestT prog w A h₀ L m env ct elt x scope cl s (fun _ => True) (fun i v => ∃ t, v = .int ((0 : Int) + (i : Int)) t) Fin j i ys news := by
    intro j
    induction j with
    | zero =>
      intro i ys ks hi hy hk
      refine LCt.CompRestT.zero (fin ys ks hy ?_)
      rw [← show i = N by omega]; exact hk
    | succ j ih =>
      intro i ys ks hi hy hk
      refine LCt.CompRestT.succ ?_
      intro v I oI C oC D m₂ h tk E' hv hC hx F N off ne
      obtain ⟨t, rfl⟩ := hv
      have hs : rangeKs 0 (i + 1) = rangeKs 0 i ++ [(0 : Int) + (i : Int)] := by
        rw [← rangeKs_map, ← rangeKs_map, List.range_succ, List.map_append]
        simp
      refine wpAny_mono (turn _ t I oI C oC D m₂ ys h tk E' (by omega) (by omega) hC hx F N off ne) (fun b s₂ hq => ?_) fun _ _ e => e
      cases b with
      | true =>
        simp only [if_true] at hq ⊢
        refine wpAny_mono hq (fun y' s₃ hr => ?_) fun _ _ e => e
        obtain ⟨h', tk', nw, e, F', N', off', hS', hn', t', rfl⟩ := hr
        rw [hn'] at N' off'
        refine ⟨h', tk', news, e, F', N', off', hS', ih (i + 1) _ (ks ++ [_]) (by omega) (ints_snoc hy _ t') ?_⟩
        rw [hs]
        exact hk.append (List.Sublist.refl _)
      | false =>
        simp only [Bool.false_eq_true, if_false] at hq ⊢
        obtain ⟨h', tk', nw, e, F', N', off', hS', hn'⟩ := hq
        rw [hn'] at N' off'
        refine ⟨h', tk', news, e, F', N', off', hS', ih (i + 1) _ ks (by omega) hy ?_⟩
        rw [hs]
        exact hk.trans (List.sublist_append_left _ _)
  exact key N 0 [] [] (by omega) .nil (List.Sublist.slnil)
end
theorem append_mid {prog : Program} {w : World} {A : Around} {E : Value → Shared → Prop} {s : Shared} {h₀ : Heap} {L : Addr} {m : Str → Option Value} {p1 p2 : Addr × Obj} {D : Addr} {ws : List Value} {c : Nat} {x : Value} {rest : List (Addr × Obj)} {Q : Value → Shared → Prop} (F : Fr h₀ L s.heap m) (N : News h₀ L s.heap (p1 :: p2 :: (D, listOf ws.toArray c) :: rest)) (h1 : p1.1 ≠ D) (h2 : p2.1 ≠ D) (hap : ∀ p ∈ rest, p.1 ≠ D) (hsz : ws.length ≤ 1000)
    (h : ∀ h', Fr h₀ L h' m → News h₀ L h' ((D, listOf (ws ++ [x]).toArray (c + 1)) :: p1 :: p2 :: rest) → Q .none { s with heap := h' }) :
    wpAny (model prog w) A (call (.builtin "list.append") [.ref D, x]) Q E s :=
  append_led F N (rest := p1 :: p2 :: rest) (fun p hp => by
    rcases List.mem_cons.mp hp with rfl | hp
    · exact List.mem_cons_of_mem _ (List.mem_cons_of_mem _ List.mem_cons_self)
    rcases List.mem_cons.mp hp with rfl | hp
    · exact List.mem_cons_self
    rcases List.mem_cons.mp hp with rfl | hp
    · exact List.mem_cons_of_mem _ List.mem_cons_self
    exact List.mem_cons_of_mem _ (List.mem_cons_of_mem _ (List.mem_cons_of_mem _ hp)))
    (List.forall_mem_cons.mpr ⟨h1, List.forall_mem_cons.mpr ⟨h2, hap⟩⟩) hsz h
theorem off1_mem {D : Addr} {l : List (Addr × Obj)} (h : LCg.Off1 D l) : ∀ p ∈ l, p.1 ≠ D := by
  induction l with
  | nil => exact fun _ h => nomatch h
  | cons p r ih =>
    have h : p.1 ≠ D ∧ LCg.Off1 D r := h
    exact List.forall_mem_cons.mpr ⟨h.1, ih h.2⟩
noncomputable def forY : List Stmt := match dLaw.body.getD 13 default with | .For _ _ b _ _ => b | _ => []
set_option maxHeartbeats 8000000 in
theorem C_turnY {w : World} {loose : List Str} {mean : ExcName → Option Value} {mg mb : Str → Option Value} {fa : Addr} {cd : Value} {h₀ : Heap} {L : Addr} {m : Str → Option Value} {s : Shared} {Q : Flow → Shared → Prop} {E : Value → Shared → Prop} {rest : List (Addr × Obj)} {b y : Int} {R S : Addr} {t1 u1 v1 ty : Tok} {refs : List Value} {c : Nat} {oc : Obj} {vc : Option Value}
    (B : Below callerA h₀ [] h₀) (X : (T49.K w.params).In h₀) (T : Top T49.vw loose mean mg mb h₀)
    (F : Fr h₀ L s.heap (fun z => if z = Str.ofString "y" then some (.int y ty) else if z = Str.ofString "sets" then some (.ref S) else if z = Str.ofString "rooms" then some (.ref R) else m z)) (N : News h₀ L s.heap ((L + 1, oc) :: (S, listOf refs.toArray c) :: (R, rngO 0 ((zz b : Int) + 10) t1 u1 v1) :: rest))
    (hoc : oc.data = Data.cell vc) (hlen : refs.length ≤ 100) (y0 : 0 ≤ y) (y1 : y < 1000000) (hL : ∀ p ∈ (S, listOf refs.toArray c) :: (R, rngO 0 ((zz b : Int) + 10) t1 u1 v1) :: rest, p.1 ≠ L + 1) (hS : ∀ p ∈ (R, rngO 0 ((zz b : Int) + 10) t1 u1 v1) :: rest, p.1 ≠ S)
    (hret : ∀ (h' : Heap) (tk' : Nat) (D : Addr) (ys : List Value) (ks : List Int) (oc' : Obj) (vc' : Option Value), IntsAre ys ks → ks.Sublist (rangeKs 0 (zz b + 10)) → oc'.data = Data.cell vc' → (∀ p ∈ (L + 1, oc) :: (S, listOf refs.toArray c) :: (R, rngO 0 ((zz b : Int) + 10) t1 u1 v1) :: rest, p.1 ≠ D) →
      Fr h₀ L h' (fun z => if z = Str.ofString "y" then some (.int y ty) else if z = Str.ofString "sets" then some (.ref S) else if z = Str.ofString "rooms" then some (.ref R) else m z) → News h₀ L h' ((S, listOf (refs ++ [Value.ref D]).toArray (c + 1)) :: (D, LCg.lst ys) :: (L + 1, oc') :: (R, rngO 0 ((zz b : Int) + 10) t1 u1 v1) :: rest) → Q .next { s with heap := h', toks := tk' }) :
    wpAny (model PySem.Challenge.rw_tp0049_02.row.prog w) (callerA.deeper (envOfC (Str.ofString "law") dLaw.scope L fa cd)) (execs forY (envOfC (Str.ofString "law") dLaw.scope L fa cd)) Q E s := by
  k_with_none
  (k_with "call builtin:list.append" => ((k_here; (with_reducible show wpAny _ _ (call (Value.builtin _) [Value.ref _, _]) _ _ _); (rename _ ∧ _ ∧ _ ∧ LCg.Off1 _ _ => o9x); k_dflt (refine append_mid (by k_asm) (by k_asm) (Ne.symm o9x.2.1) (fun e => hL _ List.mem_cons_self e.symm) hS (Nat.le_trans hlen (by decide)) ?_); (intro h9 F9 N9; (try dsimp only)))))
  (k_with "storeName" => ((k_here; k_dflt (refine' storeX_C ?F ?N ?c ?U ?d ?_ ?a ?b; (case a => rfl); (case b => rfl); (case F => k_asm); (case N => k_asm); (case c => rfl); (case U => exact UpdF.head hL); (case d => k_asm); k_whole); intro h9 o9 F9 N9 d9; (try dsimp only at N9))))
  (k_with "CompSrcT" => ((k_here; k_dflt (refine LCt.CompSrcT.range (n := zz b + 10) (by rfl) (by k_asm) (by k_asm) (rng_of (by k_asm) (by k_mem)) (small_ones (zz b + 10) (by omega) (by decide) (by decide) (by omega)).1 (small_ones (zz b + 10) (by omega) (by decide) (by decide) (by omega)).2 (by rw [sizeLine_eq]; omega) ?_); intro g'; k_dflt (refine rest_rng ?_ ?_); (first | (intro n9 t9 I oI C oC D m₂ ys h tk E' h09 h19 hC hx F N off ne) | (intro ys9 ks9 hI9 hK9)))))
  (k_with "CompEnd" => ((k_here; k_dflt (refine LCg.CompEnd.intro (by assumption) (by assumption) _ (fun p hp => hp) (by assumption) True.intro ?_); first | (k_dflt (exact ⟨rfl, _, rfl⟩)) | (k_dflt (exact rfl)))))
  (k_with "eval ListComp" => ((k_here; (with_reducible show wpAny _ _ (eval (Expr.ListComp (Expr.Name _ _) _ _ _) _) _ _ _); lcg_calm; k_dflt (refine LCt.ListComp_T (F₀ := by k_asm) (by with_unfolding_all rfl) (by decide) (by rfl) (by decide) (by rfl) ?_))))
  have hz9 := zz_b b
  dsimp only [forY, dLaw, List.getD, List.getElem?_cons_zero, List.getElem?_cons_succ, Option.getD]
  k_steps
  all_goals
    (rename _ ∧ _ ∧ _ ∧ LCg.Off1 _ _ => o9x)
    (rename IntsAre _ _ => hI9)
    (rename List.Sublist _ _ => hK9)
    exact hret _ _ _ _ _ _ _ hI9 hK9 (by assumption) (List.forall_mem_cons.mpr ⟨o9x.1, List.forall_mem_cons.mpr ⟨o9x.2.1, List.forall_mem_cons.mpr ⟨o9x.2.2.1, off1_mem o9x.2.2.2⟩⟩⟩) (by assumption) (by assumption)
end
section
noncomputable def iterY : PySem.Expr := match dLaw.body.getD 13 default with | .For _ it _ _ _ => it | _ => default
set_option maxHeartbeats 8000000 in
theorem C_iterY {w : World} {loose : List Str} {mean : ExcName → Option Value} {mg mb : Str → Option Value} {fa : Addr} {cd : Value} {h₀ : Heap} {L : Addr} {m : Str → Option Value} {s : Shared} {Q : Value → Shared → Prop} {E : Value → Shared → Prop} {rest : List (Addr × Obj)} {D : Addr} {ys : List Value} {gs : List Int}
    (B : Below callerA h₀ [] h₀) (X : (T49.K w.params).In h₀) (T : Top T49.vw loose mean mg mb h₀)
    (F : Fr h₀ L s.heap (fun y => if y = Str.ofString "drawn" then some (.ref D) else m y)) (N : News h₀ L s.heap ((D, LCg.lst ys) :: rest)) (hI : IntsAre ys gs) (hgl : gs.length ≤ 6)
    (hret : ∀ (h' : Heap) (tk' : Nat) (D2 : Addr) (us : List Value), IntsAre us (gs.drop 2) → (D < D2 ∧ AllLt D2 rest) → Fr h₀ L h' (fun y => if y = Str.ofString "drawn" then some (.ref D) else m y) → News h₀ L h' ((D2, listOf us.toArray 0) :: (D, LCg.lst ys) :: rest) → Q (.ref D2) { s with heap := h', toks := tk' }) :
    wpAny (model PySem.Challenge.rw_tp0049_02.row.prog w) (callerA.deeper (envOfC (Str.ofString "law") dLaw.scope L fa cd)) (eval iterY (envOfC (Str.ofString "law") dLaw.scope L fa cd)) Q E s := by
  k_with_none
  dsimp only [iterY, dLaw, List.getD, List.getElem?_cons_zero, List.getElem?_cons_succ, Option.getD]
  k_steps
  all_goals exact hret _ _ _ _ (by assumption) (by assumption) (by assumption) (by assumption)
end
section
set_option maxHeartbeats 8000000 in
theorem C_turnB1 {w : World} {loose : List Str} {mean : ExcName → Option Value} {mg mb : Str → Option Value} {fa : Addr} {cd : Value} {h₀ : Heap} {L : Addr} {m : Str → Option Value} {s : Shared} {Q : Flow → Shared → Prop} {E : Value → Shared → Prop} {rest : List (Addr × Obj)} {a b : Int} {V : Addr} {us : List Value} {gs : List Int} {c : Nat} {tq ts tz : Tok}
    (B : Below callerA h₀ [] h₀) (X : (T49.K w.params).In h₀) (T : Top T49.vw loose mean mg mb h₀)
    (F : Fr h₀ L s.heap (fun y => if y = Str.ofString "gaps" then some (.ref V) else if y = Str.ofString "reply" then some (.str (repT (mkC a) (b.fmod 1000)) tq) else if y = Str.ofString "sign" then some (.str ⟨#[sgC a]⟩ ts) else if y = Str.ofString "size" then some (.int (zz b) tz) else m y)) (N : News h₀ L s.heap ((V, listOf us.toArray c) :: rest)) (hI : IntsAre us gs) (hgl : gs.length ≤ 20) (hnd : gs.Nodup) (hgb : ∀ g ∈ gs, 0 ≤ g ∧ g < (zz b : Int) + 10)
    (hret : ∀ (h' : Heap) (tk' : Nat) (ts' td' : Tok), Fr h₀ L h' (fun y => if y = Str.ofString "due" then some (.str (dueT gs (zz b)) td') else if y = Str.ofString "strewn" then some (.str (strT a b gs) ts') else if y = Str.ofString "gaps" then some (.ref V) else if y = Str.ofString "reply" then some (.str (repT (mkC a) (b.fmod 1000)) tq) else if y = Str.ofString "sign" then some (.str ⟨#[sgC a]⟩ ts) else if y = Str.ofString "size" then some (.int (zz b) tz) else m y) → News h₀ L h' ((V, listOf us.toArray c) :: rest) → Q .next { s with heap := h', toks := tk' }) :
    wpAny (model PySem.Challenge.rw_tp0049_02.row.prog w) (callerA.deeper (envOfC (Str.ofString "law") dLaw.scope L fa cd)) (execs (forB.take 2) (envOfC (Str.ofString "law") dLaw.scope L fa cd)) Q E s := by
  k_with_none
  (k_with "call ref" => ((k_here; (with_reducible show wpAny _ _ (call (Value.ref 162) _) _ _ _); k_dflt (refine C_strT (by k_asm) (by k_asm) (by k_asm) (by k_asm) (by k_asm) (by first | exact rfl | assumption) (by ktr_room) (by ktr_units) (by k_mem) hI (Nat.le_trans hgl (by decide)) ?_); (intro t9 h9 tk9 F9 N9; (try dsimp only); (try k_fold)))))
  (k_with "call ref" => ((k_here; (with_reducible show wpAny _ _ (call (Value.ref 155) _) _ _ _); k_dflt (refine C_dueT (by k_asm) (by k_asm) (by k_asm) (by k_asm) (by k_asm) (by first | exact rfl | assumption) (by ktr_room) (by ktr_units) (by k_mem) hI (Nat.le_trans hgl (by decide)) ?_); (intro t9 h9 tk9 F9 N9; (try dsimp only); (try k_fold)))))
  dsimp only [forB, dLaw, List.getD, List.getElem?_cons_zero, List.getElem?_cons_succ, Option.getD, List.take, List.drop]
  k_steps
  all_goals exact hret _ _ _ _ (by assumption) (cb_drop (by assumption) (by kcj_all))
set_option maxHeartbeats 8000000 in
theorem C_turnB2 {w : World} {loose : List Str} {mean : ExcName → Option Value} {mg mb : Str → Option Value} {fa : Addr} {cd : Value} {h₀ : Heap} {L : Addr} {m : Str → Option Value} {s : Shared} {Q : Flow → Shared → Prop} {E : Value → Shared → Prop} {rest : List (Addr × Obj)} {a b : Int} {V : Addr} {us : List Value} {gs : List Int} {c : Nat} {tq ts' : Tok}
    (B : Below callerA h₀ [] h₀) (X : (T49.K w.params).In h₀) (T : Top T49.vw loose mean mg mb h₀)
    (F : Fr h₀ L s.heap (fun y => if y = Str.ofString "strewn" then some (.str (strT a b gs) ts') else if y = Str.ofString "gaps" then some (.ref V) else if y = Str.ofString "reply" then some (.str (repT (mkC a) (b.fmod 1000)) tq) else m y)) (N : News h₀ L s.heap ((V, listOf us.toArray c) :: rest)) (hI : IntsAre us gs) (hgl : gs.length ≤ 20) (hnd : gs.Nodup) (hgb : ∀ g ∈ gs, 0 ≤ g ∧ g < (zz b : Int) + 10)
    (hret : ∀ (h' : Heap) (tk' : Nat) (tr' tm' : Tok), Fr h₀ L h' (fun y => if y = Str.ofString "prepared" then some (.str (repT (smC a) (b.fmod 1000)) tr') else if y = Str.ofString "many" then some (.int (2 * (gs.length : Int)) tm') else if y = Str.ofString "strewn" then some (.str (strT a b gs) ts') else if y = Str.ofString "gaps" then some (.ref V) else if y = Str.ofString "reply" then some (.str (repT (mkC a) (b.fmod 1000)) tq) else m y) → News h₀ L h' ((V, listOf us.toArray c) :: rest) → Q .next { s with heap := h', toks := tk' }) :
    wpAny (model PySem.Challenge.rw_tp0049_02.row.prog w) (callerA.deeper (envOfC (Str.ofString "law") dLaw.scope L fa cd)) (execs ((forB.drop 3).take 3) (envOfC (Str.ofString "law") dLaw.scope L fa cd)) Q E s := by
  k_with_none
  (k_with "call ref" => ((k_here; (with_reducible show wpAny _ _ (call (Value.ref 136) _) _ _ _); k_dflt (refine C_levB (by k_asm) (by k_asm) (by k_asm) (by k_asm) (by k_asm) (by first | exact rfl | assumption) (by ktr_room) (by ktr_units) rfl hnd hgb hgl ?_); (intro t9 h9 tk9 F9 N9; (try dsimp only); (try k_fold)))))
  (k_with "call ref" => ((k_here; (with_reducible show wpAny _ _ (call (Value.ref 167) _) _ _ _); k_dflt (refine C_prepT (by k_asm) (by k_asm) (by k_asm) (by k_asm) (by k_asm) (by first | exact rfl | assumption) (by ktr_room) (by ktr_units) hnd hgb hgl ?_); (intro t9 h9 tk9 F9 N9; (try dsimp only); (try k_fold)))))
  (k_with "call builtin:len" => ((k_here; k_dflt (refine len_intsL (by k_asm) (by k_mem) hI (Nat.le_trans hgl (by decide)) ?_); intro t9 tk9; (try dsimp only); (try k_fold))))
  dsimp only [forB, dLaw, List.getD, List.getElem?_cons_zero, List.getElem?_cons_succ, Option.getD, List.take, List.drop]
  k_steps
  all_goals first | exact hret _ _ _ _ (by assumption) (cb_drop (by assumption) (by kcj_all)) | (exfalso; omega)
end
section
noncomputable def up (m : Str → Option Value) (x : Str) (v : Value) : Str → Option Value := fun y => if y = x then some v else m y
theorem up_same (m : Str → Option Value) (x : Str) (v : Value) : up m x v x = some v := if_pos rfl
theorem up_ne {m : Str → Option Value} {x y : Str} {v : Value} (h : y ≠ x) : up m x v y = m y := if_neg h
theorem up_is {m : Str → Option Value} {x : Str} {v : Value} (e : m x = some v) : up m x v = m := m_is e
theorem LawM.up {a b : Int} {D R U : Addr} {m : Str → Option Value} (H : LawM a b D R U m) (x : Str) (v : Value) (hx : lawNames.contains x = false) : LawM a b D R U (up m x v) := H.set x (some v) hx
noncomputable def SetsOk (b : Int) (refs : List Value) (sl : List (Addr × Obj)) : Prop := ∀ v ∈ refs, ∃ V us gs c, v = .ref V ∧ (V, listOf us.toArray c) ∈ sl ∧ IntsAre us gs ∧ gs.length ≤ 20 ∧ gs.Nodup ∧ ∀ g ∈ gs, 0 ≤ g ∧ g < (zz b : Int) + 10
theorem SetsOk.mono {b : Int} {refs : List Value} {sl sl' : List (Addr × Obj)} (H : SetsOk b refs sl) (h : ∀ p ∈ sl, p ∈ sl') : SetsOk b refs sl' := fun v hv => by
  obtain ⟨V, us, gs, c, e, hm, r⟩ := H v hv
  exact ⟨V, us, gs, c, e, h _ hm, r⟩
theorem range_good (n : Nat) : (rangeKs 0 n).length = n ∧ (rangeKs 0 n).Nodup ∧ ∀ g ∈ rangeKs 0 n, 0 ≤ g ∧ g < (n : Int) := by
  have e : rangeKs 0 n = (List.range n).map (fun (i : Nat) => (i : Int)) := by
    rw [← rangeKs_map]
    exact List.map_congr_left fun i _ => by omega
  refine ⟨by rw [e, List.length_map, List.length_range], ?_, fun g hg => ?_⟩
  · rw [e]
    exact (List.nodup_range).map _ (fun i j h q => h (by have q : (i : Int) = (j : Int) := q; omega))
  · rw [e] at hg
    obtain ⟨i, hi, rfl⟩ := List.mem_map.mp hg
    have := List.mem_range.mp hi
    omega
theorem SetsOk.add {b : Int} {refs : List Value} {sl : List (Addr × Obj)} {V : Addr} {ys : List Value} {ks : List Int} {c : Nat} (H : SetsOk b refs sl) (hI : IntsAre ys ks) (hK : ks.Sublist (rangeKs 0 (zz b + 10))) : SetsOk b (refs ++ [.ref V]) ((V, listOf ys.toArray c) :: sl) := fun v hv => by
  rcases List.mem_append.mp hv with h | h
  · exact H.mono (fun p hp => List.mem_cons_of_mem _ hp) v h
  · obtain rfl := List.mem_singleton.mp h
    have g := range_good (zz b + 10)
    have hz := zz_b b
    have hl := hK.length_le
    refine ⟨V, ys, ks, c, rfl, List.mem_cons_self, hI, by omega, hK.nodup g.2.1, fun x hx => ?_⟩
    have := g.2.2 x (hK.subset hx)
    omega
theorem SetsOk.four {b : Int} {sl : List (Addr × Obj)} {D0 D1 D2 D3 : Addr} {us0 us1 us2 us3 : List Value} {c0 c1 c2 c3 : Nat} (h0 : IntsAre us0 (rangeKs 0 (zz b + 10))) (h1 : IntsAre us1 [3, 5, 6, (zz b : Int) + 9]) (h2 : IntsAre us2 [4, 5, (zz b : Int) + 8]) (h3 : IntsAre us3 [4, 6, 7, (zz b : Int) + 8])
    (m0 : (D0, listOf us0.toArray c0) ∈ sl) (m1 : (D1, listOf us1.toArray c1) ∈ sl) (m2 : (D2, listOf us2.toArray c2) ∈ sl) (m3 : (D3, listOf us3.toArray c3) ∈ sl) : SetsOk b [.ref D0, .ref D1, .ref D2, .ref D3] sl := fun v hv => by
  have g := range_good (zz b + 10)
  have hz := zz_b b
  simp only [List.mem_cons, List.not_mem_nil, or_false] at hv
  rcases hv with rfl | rfl | rfl | rfl
  · exact ⟨D0, us0, _, c0, rfl, m0, h0, by omega, g.2.1, fun x hx => by have := g.2.2 x hx; omega⟩
  · refine ⟨D1, us1, _, c1, rfl, m1, h1, Nat.le_of_ble_eq_true rfl, ?_, ?_⟩
    · simp; omega
    · simp; omega
  · refine ⟨D2, us2, _, c2, rfl, m2, h2, Nat.le_of_ble_eq_true rfl, ?_, ?_⟩
    · simp; omega
    · simp; omega
  · refine ⟨D3, us3, _, c3, rfl, m3, h3, Nat.le_of_ble_eq_true rfl, ?_, ?_⟩
    · simp; omega
    · simp; omega
theorem drawn_bd {gs : List Int} {n : Int} (h : n ∈ drawnL gs) : 0 ≤ n ∧ n < 1000000 := by
  obtain ⟨x, _, rfl⟩ := List.mem_map.mp h
  exact ⟨Int.fmod_nonneg_of_pos x (by decide), Int.fmod_lt_of_pos x (by decide)⟩
theorem fr_up {h₀ h : Heap} {L : Addr} {m m' : Str → Option Value} (F : Fr h₀ L h m) (e : m = m') : Fr h₀ L h m' := e ▸ F
theorem loopY {w : World} {loose : List Str} {mean : ExcName → Option Value} {mg mb : Str → Option Value} {fa : Addr} {cd : Value} {h₀ : Heap} {L : Addr} {m : Str → Option Value} {s : Shared} {Q : Flow → Shared → Prop} {E : Value → Shared → Prop} {sl : List (Addr × Obj)} {a b : Int} {D R U S : Addr} {t1 u1 v1 : Tok} {refs ys : List Value} {gs : List Int} {c : Nat} {oc : Obj} {vc : Option Value}
    (B : Below callerA h₀ [] h₀) (X : (T49.K w.params).In h₀) (T : Top T49.vw loose mean mg mb h₀) (H : LawM a b D R U m) (hS : m (Str.ofString "sets") = some (.ref S)) (F : Fr h₀ L s.heap m)
    (N : News h₀ L s.heap ((S, listOf refs.toArray c) :: (L + 1, oc) :: (R, rngO 0 ((zz b : Int) + 10) t1 u1 v1) :: (D, LCg.lst ys) :: sl)) (hoc : oc.data = Data.cell vc) (hI : IntsAre ys (drawnL gs)) (hlen : refs.length ≤ 4) (ok : SetsOk b refs sl)
    (hL : ∀ p ∈ (S, listOf refs.toArray c) :: (R, rngO 0 ((zz b : Int) + 10) t1 u1 v1) :: sl, p.1 ≠ L + 1) (hN : ∀ p ∈ (R, rngO 0 ((zz b : Int) + 10) t1 u1 v1) :: sl, p.1 ≠ S)
    (hret : ∀ (h' : Heap) (tk' : Nat) (m' : Str → Option Value) (refs' : List Value) (c' : Nat) (sl' : List (Addr × Obj)), LawM a b D R U m' → m' (Str.ofString "sets") = some (.ref S) → refs'.length ≤ 100 → SetsOk b refs' sl' → Fr h₀ L h' m' → News h₀ L h' ((S, listOf refs'.toArray c') :: sl') → Q .next { s with heap := h', toks := tk' }) :
    wpC (model PySem.Challenge.rw_tp0049_02.row.prog w) (callerA.deeper (envOfC (Str.ofString "law") dLaw.scope L fa cd)) (exec (dLaw.body.getD 13 default) (envOfC (Str.ofString "law") dLaw.scope L fa cd)) Q E s := by
  obtain ⟨p1, p3, hst⟩ : ∃ p1 p3, dLaw.body.getD 13 default = .For (.Name (Str.ofString "y") p1) iterY forY [] p3 := ⟨_, _, rfl⟩
  rw [hst]
  have F0 : Fr h₀ L s.heap (fun y => if y = Str.ofString "drawn" then some (.ref D) else m y) := fr_up F (m_is H.drawn).symm
  refine wpC.For (C_iterY B X T F0 (rest := (S, listOf refs.toArray c) :: (L + 1, oc) :: (R, rngO 0 ((zz b : Int) + 10) t1 u1 v1) :: sl) (fun p hp => N p ?_) hI (drawnL_len gs) fun h1 tk1 D2 us hus hD2 F1 N1 => ?_)
  · simp only [List.mem_cons] at hp ⊢
    rcases hp with h | h | h | h | h <;> simp [h]
  have F1 := fr_up F1 (m_is H.drawn)
  have hlst : h1.IsList D2 us.toArray := PySem.IsL.isList (n := 0) (N1 _ List.mem_cons_self).1
  have hlt2 := of_allLt hD2.2
  have hD2n : h₀.get? D2 = none := (N1 _ List.mem_cons_self).2.2
  have hD2L : D2 ≠ L := (N1 _ List.mem_cons_self).2.1
  have hnew : h₀.get? h1.objs.size = none := next_is_new F1
  have hDI : D2 < h1.objs.size := Heap.lt_size (N1 _ List.mem_cons_self).1
  have hLI : L < h1.objs.size := F1.ns.lt
  have N2 : News h₀ L h1 ((S, listOf refs.toArray c) :: (L + 1, oc) :: (R, rngO 0 ((zz b : Int) + 10) t1 u1 v1) :: sl) := fun p hp => N1 p (List.mem_cons_of_mem _ (List.mem_cons_of_mem _ hp))
  have lt₀ : ∀ p ∈ (S, listOf refs.toArray c) :: (L + 1, oc) :: (R, rngO 0 ((zz b : Int) + 10) t1 u1 v1) :: sl, p.1 < h1.objs.size := fun p hp => Heap.lt_size (N2 p hp).1
  have hSI : S < h1.objs.size := lt₀ _ List.mem_cons_self
  have hCI : L + 1 < h1.objs.size := lt₀ _ (List.mem_cons_of_mem _ List.mem_cons_self)
  have hRI : R < h1.objs.size := lt₀ _ (List.mem_cons_of_mem _ (List.mem_cons_of_mem _ List.mem_cons_self))
  refine wpAny_pyIter_list hlst ?_
  have W := Walks.list (prog := PySem.Challenge.rw_tp0049_02.row.prog) (w := w) (A := callerA.deeper (envOfC (Str.ofString "law") dLaw.scope L fa cd)) rfl h1.objs.size D2 (Nat.ne_of_lt hDI) us.toArray
  refine codeC.forWalk (R := fun r s' => match r with | .ok f => Q f s' | .error _ => False) (s := { s with heap := h1.push _, toks := tk1 }) (m := m) (news := (S, listOf refs.toArray c) :: (L + 1, oc) :: (R, rngO 0 ((zz b : Int) + 10) t1 u1 v1) :: sl) W (by with_unfolding_all rfl) (by rfl) ?_ ?_ ?_ ⟨⟨_, Heap.get?_push_size _ rfl, rfl, rfl⟩, hlst.push _⟩ (F1.push _) (fun p hp => ⟨Heap.get?_push_of_some _ (N2 p hp).1, (N2 p hp).2⟩)
    (fun i m₁ news₁ => LawM a b D R U m₁ ∧ m₁ (Str.ofString "sets") = some (.ref S) ∧ ∃ refs c oc vc sl, news₁ = (S, listOf refs.toArray c) :: (L + 1, oc) :: (R, rngO 0 ((zz b : Int) + 10) t1 u1 v1) :: sl ∧ oc.data = Data.cell vc ∧ refs.length ≤ 4 + i ∧ SetsOk b refs sl ∧ (∀ p ∈ sl, p.1 ≠ L + 1 ∧ p.1 ≠ S ∧ p.1 ≠ h1.objs.size)) ⟨H, hS, refs, c, oc, vc, sl, rfl, hoc, hlen, ok, fun p hp => ⟨hL p (List.mem_cons_of_mem _ (List.mem_cons_of_mem _ hp)), hN p (List.mem_cons_of_mem _ hp), Nat.ne_of_lt (lt₀ p (List.mem_cons_of_mem _ (List.mem_cons_of_mem _ (List.mem_cons_of_mem _ hp))))⟩⟩ ?_ ?_
  · intro hm
    simp only [List.mem_cons, List.not_mem_nil, or_false] at hm
    rcases hm with h | h
    · exact absurd hLI (by rw [show L = h1.objs.size from h]; exact Nat.lt_irrefl _)
    · exact hD2L h.symm
  · intro x hx
    rw [List.mem_singleton.mp hx]
    exact hnew
  · exact fun p hp hI => Nat.ne_of_lt (lt₀ p hp) (List.mem_singleton.mp hI)
  · rintro i v m₁ news₁ s₁ own ⟨hh', tk', rfl⟩ hin hv ⟨H₁, hS₁, refs₁, c₁, oc₁, vc₁, sl₁, rfl, hoc₁, hlen₁, ok₁, ap₁⟩ hoff hown hget hall hst F₁ N₁
    obtain ⟨n, t, rfl, hn⟩ := ints_get hus (by simpa using hv)
    have hnd := drawn_bd (gs := gs) (List.mem_of_mem_drop (List.mem_of_getElem? hn))
    have hil : i < 6 := by
      have := IntsAre.length hus
      have := drawnL_len gs
      rw [List.size_toArray] at hin
      rw [List.length_drop] at *
      omega
    have hSL : S ≠ L + 1 := hL _ List.mem_cons_self
    have hRL : R ≠ L + 1 := hL _ (List.mem_cons_of_mem _ List.mem_cons_self)
    have hRS : R ≠ S := hN _ List.mem_cons_self
    have ownL : ∀ p ∈ own, p.1 ≠ L + 1 ∧ p.1 ≠ S := fun p hp => by
      have := hown p hp
      simp only [List.mem_cons, List.not_mem_nil, or_false] at this
      rcases this with h | h
      · rw [h]; exact ⟨fun e => Nat.ne_of_lt hCI e.symm, fun e => Nat.ne_of_lt hSI e.symm⟩
      · rw [h]
        have l1 := hlt2 _ (List.mem_cons_self (a := (S, listOf refs.toArray c)) (l := (L + 1, oc) :: (R, rngO 0 ((zz b : Int) + 10) t1 u1 v1) :: sl))
        have l2 := hlt2 _ (List.mem_cons_of_mem (S, listOf refs.toArray c) (List.mem_cons_self (a := (L + 1, oc)) (l := (R, rngO 0 ((zz b : Int) + 10) t1 u1 v1) :: sl)))
        exact ⟨fun e => Nat.ne_of_lt l2 e.symm, fun e => Nat.ne_of_lt l1 e.symm⟩
    obtain ⟨oI, hoI, _⟩ := hst.1
    have hmem : (h1.objs.size, oI) ∈ own := hall _ List.mem_cons_self hnew _ hoI
    have F₂ : Fr h₀ L hh' (fun z => if z = Str.ofString "y" then some (.int n t) else if z = Str.ofString "sets" then some (.ref S) else if z = Str.ofString "rooms" then some (.ref R) else m₁ z) := by
      refine fr_up F₁ ?_
      show up m₁ _ _ = up (up (up m₁ (Str.ofString "rooms") (.ref R)) (Str.ofString "sets") (.ref S)) _ _
      rw [up_is H₁.rooms, up_is hS₁]
    refine wpC.any (C_turnY B X T F₂ (b := b) (t1 := t1) (u1 := u1) (v1 := v1) (refs := refs₁) (c := c₁) (rest := own ++ sl₁) (fun p hp => N₁ p ?_) hoc₁ (by omega) hnd.1 hnd.2 ?_ ?_ fun h2 tk2 Dn ys2 ks2 oc2 vc2 hI2 hK2 hoc2 hap2 F2 N2' => ?_)
    · simp only [List.mem_append, List.mem_cons] at hp ⊢
      rcases hp with h | h | h | h | h <;> simp [h]
    · refine List.forall_mem_cons.mpr ⟨hSL, List.forall_mem_cons.mpr ⟨hRL, fun p hp => ?_⟩⟩
      rcases List.mem_append.mp hp with h | h
      · exact (ownL p h).1
      · exact (ap₁ p h).1
    · refine List.forall_mem_cons.mpr ⟨hRS, fun p hp => ?_⟩
      rcases List.mem_append.mp hp with h | h
      · exact (ownL p h).2
      · exact (ap₁ p h).2.1
    · have d1 : L + 1 ≠ Dn := hap2 _ List.mem_cons_self
      have d2 : S ≠ Dn := hap2 _ (List.mem_cons_of_mem _ List.mem_cons_self)
      have d3 : h1.objs.size ≠ Dn := hap2 _ (List.mem_cons_of_mem _ (List.mem_cons_of_mem _ (List.mem_cons_of_mem _ (List.mem_append_left _ hmem))))
      have F3 : Fr h₀ L h2 (up m₁ (Str.ofString "y") (.int n t)) := by
        refine fr_up F2 ?_
        show up (up (up m₁ (Str.ofString "rooms") (.ref R)) (Str.ofString "sets") (.ref S)) _ _ = _
        rw [up_is H₁.rooms, up_is hS₁]
      refine LoopStepU.intro (news₂ := (S, listOf (refs₁ ++ [Value.ref Dn]).toArray (c₁ + 1)) :: (L + 1, oc2) :: (R, rngO 0 ((zz b : Int) + 10) t1 u1 v1) :: (Dn, LCg.lst ys2) :: sl₁) F3 (fun p hp => N2' p ?_) (fun p hp hI => ?_) ⟨H₁.up _ _ (by decide +kernel), ?_, _, _, oc2, vc2, _, rfl, hoc2, ?_, ok₁.add hI2 hK2, ?_⟩
      · simp only [List.mem_append, List.mem_cons] at hp ⊢
        rcases hp with h | h | h | h | h | h <;> simp [h]
      · have e := List.mem_singleton.mp hI
        simp only [List.mem_cons] at hp
        rcases hp with rfl | rfl | rfl | rfl | h
        · exact Nat.ne_of_lt hSI e
        · exact Nat.ne_of_lt hCI e
        · exact Nat.ne_of_lt hRI e
        · exact d3 e.symm
        · exact (ap₁ p h).2.2 e
      · rw [up_ne (by decide +kernel)]; exact hS₁
      · rw [List.length_append]
        show refs₁.length + 1 ≤ _
        omega
      · exact List.forall_mem_cons.mpr ⟨⟨d1.symm, d2.symm, d3.symm⟩, ap₁⟩
  · rintro h' tk' m' news' F' N' hn' ⟨H', hS', refs', c', oc', vc', sl', rfl, _, hlen', ok', _⟩
    refine hret h' tk' m' refs' c' sl' H' hS' ?_ ok' F' fun p hp => N' p ?_
    · have := IntsAre.length hus
      have := drawnL_len gs
      rw [List.size_toArray] at hlen'
      rw [List.length_drop] at *
      omega
    · simp only [List.mem_cons] at hp ⊢
      rcases hp with h | h <;> simp [h]
end
section
theorem cmpB {w : World} {loose : List Str} {mean : ExcName → Option Value} {mg mb : Str → Option Value} {fa : Addr} {cd : Value} {h₀ : Heap} {L : Addr} {m : Str → Option Value} {s : Shared} {Q : Flow → Shared → Prop} {E : Value → Shared → Prop} {news : List (Addr × Obj)} {x due : Str} {tx td tp : Tok} {port : Int}
    (B : Below callerA h₀ [] h₀) (X : (T49.K w.params).In h₀) (T : Top T49.vw loose mean mg mb h₀)
    (F : Fr h₀ L s.heap m) (e1 : m (Str.ofString "strewn") = some (.str x tx)) (e2 : m (Str.ofString "due") = some (.str due td)) (e3 : m (Str.ofString "port") = some (.int port tp)) (N : News h₀ L s.heap news)
    (H : Meant x port due) (ok : PyData.strOk x = true) (h : ∀ h' tk, Fr h₀ L h' m → News h₀ L h' news → Q .next { s with heap := h', toks := tk }) :
    wpC (model PySem.Challenge.rw_tp0049_02.row.prog w) (callerA.deeper (envOfC (Str.ofString "law") dLaw.scope L fa cd)) (exec (forB.getD 2 default) (envOfC (Str.ofString "law") dLaw.scope L fa cd)) Q E s := by
  have em : up (up (up m (Str.ofString "port") (.int port tp)) (Str.ofString "due") (.str due td)) (Str.ofString "strewn") (.str x tx) = m := by
    rw [up_is e3, up_is e2, up_is e1]
  refine (C_cmpB B X T (m := m) (fr_up F em.symm) N H ok).mono (fun f s' g => ?_) fun _ _ g => g
  obtain ⟨rfl, h', tk, rfl, F', N'⟩ := g
  exact h h' tk (fr_up F' em) N'
theorem cmpP {w : World} {loose : List Str} {mean : ExcName → Option Value} {mg mb : Str → Option Value} {fa : Addr} {cd : Value} {h₀ : Heap} {L : Addr} {m : Str → Option Value} {s : Shared} {Q : Flow → Shared → Prop} {E : Value → Shared → Prop} {news : List (Addr × Obj)} {x : Str} {tx ty tp : Tok} {port : Int}
    (B : Below callerA h₀ [] h₀) (X : (T49.K w.params).In h₀) (T : Top T49.vw loose mean mg mb h₀)
    (F : Fr h₀ L s.heap m) (e1 : m (Str.ofString "prepared") = some (.str x tx)) (e2 : m (Str.ofString "plain") = some (.str x ty)) (e3 : m (Str.ofString "port") = some (.int port tp)) (N : News h₀ L s.heap news)
    (H : Meant x port (Str.ofString "port")) (ok : PyData.strOk x = true) (h : ∀ h' tk, Fr h₀ L h' m → News h₀ L h' news → Q .next { s with heap := h', toks := tk }) :
    wpC (model PySem.Challenge.rw_tp0049_02.row.prog w) (callerA.deeper (envOfC (Str.ofString "law") dLaw.scope L fa cd)) (exec (forB.getD 6 default) (envOfC (Str.ofString "law") dLaw.scope L fa cd)) Q E s := by
  have em : up (up (up m (Str.ofString "port") (.int port tp)) (Str.ofString "plain") (.str x ty)) (Str.ofString "prepared") (.str x tx) = m := by
    rw [up_is e3, up_is e2, up_is e1]
  refine (C_cmpP B X T (m := m) (fr_up F em.symm) N H ok).mono (fun f s' g => ?_) fun _ _ g => g
  obtain ⟨rfl, h', tk, rfl, F', N'⟩ := g
  exact h h' tk (fr_up F' em) N'
theorem forB_drop : forB.drop 2 = forB.getD 2 default :: forB.drop 3 := rfl
theorem forB_last : (forB.drop 3).drop 3 = [forB.getD 6 default] := rfl
theorem turnB {w : World} {loose : List Str} {mean : ExcName → Option Value} {mg mb : Str → Option Value} {fa : Addr} {cd : Value} {h₀ : Heap} {L : Addr} {m : Str → Option Value} {s : Shared} {Q : Flow → Shared → Prop} {E : Value → Shared → Prop} {rest : List (Addr × Obj)} {a b : Int} {D R U V : Addr} {us : List Value} {gs : List Int} {c : Nat}
    (B : Below callerA h₀ [] h₀) (X : (T49.K w.params).In h₀) (T : Top T49.vw loose mean mg mb h₀) (H : LawM a b D R U m)
    (F : Fr h₀ L s.heap (up m (Str.ofString "gaps") (.ref V))) (N : News h₀ L s.heap rest) (hm : (V, listOf us.toArray c) ∈ rest) (hI : IntsAre us gs) (hgl : gs.length ≤ 20) (hnd : gs.Nodup) (hgb : ∀ g ∈ gs, 0 ≤ g ∧ g < (zz b : Int) + 10)
    (hret : ∀ (h' : Heap) (tk' : Nat) (m' : Str → Option Value), LawM a b D R U m' → Fr h₀ L h' m' → News h₀ L h' rest → Q .next { s with heap := h', toks := tk' }) :
    wpC (model PySem.Challenge.rw_tp0049_02.row.prog w) (callerA.deeper (envOfC (Str.ofString "law") dLaw.scope L fa cd)) (execs forB (envOfC (Str.ofString "law") dLaw.scope L fa cd)) Q E s := by
  have H0 := H.up (Str.ofString "gaps") (.ref V) (by decide +kernel)
  have hg0 : up m (Str.ofString "gaps") (.ref V) (Str.ofString "gaps") = some (.ref V) := up_same _ _ _
  generalize up m (Str.ofString "gaps") (.ref V) = m0 at F H0 hg0
  obtain ⟨tq, e1⟩ := H0.reply
  obtain ⟨ts, e2⟩ := H0.sign
  obtain ⟨tz, e3⟩ := H0.size
  obtain ⟨tp, e4⟩ := H0.port
  obtain ⟨ty, e5⟩ := H0.plain
  have N0 : News h₀ L s.heap ((V, listOf us.toArray c) :: rest) := fun p hp => by
    rcases List.mem_cons.mp hp with rfl | hp
    · exact N _ hm
    · exact N p hp
  have c0 : up (up (up (up m0 (Str.ofString "size") (.int (zz b) tz)) (Str.ofString "sign") (.str ⟨#[sgC a]⟩ ts)) (Str.ofString "reply") (.str (repT (mkC a) (b.fmod 1000)) tq)) (Str.ofString "gaps") (.ref V) = m0 := by
    rw [up_is e3, up_is e2, up_is e1, up_is hg0]
  refine wpC.execs_at 2 (C_turnB1 B X T (m := m0) (fr_up F c0.symm) N0 hI hgl hnd hgb fun h1 tk1 ts' td' F1 N1 => ?_)
  have F1 : Fr h₀ L h1 (up (up m0 (Str.ofString "strewn") (.str (strT a b gs) ts')) (Str.ofString "due") (.str (dueT gs (zz b)) td')) := by
    refine fr_up F1 ?_
    show up (up (up (up (up (up m0 (Str.ofString "size") (.int (zz b) tz)) (Str.ofString "sign") (.str ⟨#[sgC a]⟩ ts)) (Str.ofString "reply") (.str (repT (mkC a) (b.fmod 1000)) tq)) (Str.ofString "gaps") (.ref V)) _ _) _ _ = _
    rw [c0]
  have H1 := (H0.up (Str.ofString "strewn") (.str (strT a b gs) ts') (by decide +kernel)).up (Str.ofString "due") (.str (dueT gs (zz b)) td') (by decide +kernel)
  have d1 : up (up m0 (Str.ofString "strewn") (.str (strT a b gs) ts')) (Str.ofString "due") (.str (dueT gs (zz b)) td') (Str.ofString "strewn") = some (.str (strT a b gs) ts') := by
    rw [up_ne (by decide +kernel), up_same]
  have d2 : up (up m0 (Str.ofString "strewn") (.str (strT a b gs) ts')) (Str.ofString "due") (.str (dueT gs (zz b)) td') (Str.ofString "due") = some (.str (dueT gs (zz b)) td') := up_same _ _ _
  have d3 : up (up m0 (Str.ofString "strewn") (.str (strT a b gs) ts')) (Str.ofString "due") (.str (dueT gs (zz b)) td') (Str.ofString "gaps") = some (.ref V) := by
    rw [up_ne (by decide +kernel), up_ne (by decide +kernel), hg0]
  generalize up (up m0 (Str.ofString "strewn") (.str (strT a b gs) ts')) (Str.ofString "due") (.str (dueT gs (zz b)) td') = m1 at F1 H1 d1 d2 d3
  obtain ⟨tq1, f1⟩ := H1.reply
  obtain ⟨tp1, f4⟩ := H1.port
  show wpC _ _ (execs (forB.drop 2) _) _ _ _
  rw [forB_drop]
  refine wpC.execs_cons (cmpB B X T F1 d1 d2 f4 N1 (strT_meant hnd fun g hg => (hgb g hg).1) (strT_ok _ _ _) fun h2 tk2 F2 N2 => ?_)
  show wpC _ _ (execs (forB.drop 3) _) _ _ _
  have c1 : up (up (up m1 (Str.ofString "reply") (.str (repT (mkC a) (b.fmod 1000)) tq1)) (Str.ofString "gaps") (.ref V)) (Str.ofString "strewn") (.str (strT a b gs) ts') = m1 := by
    rw [up_is f1, up_is d3, up_is d1]
  refine wpC.execs_at 3 (C_turnB2 B X T (m := m1) (fr_up F2 c1.symm) N2 hI hgl hnd hgb fun h3 tk3 tr' tm' F3 N3 => ?_)
  have F3 : Fr h₀ L h3 (up (up m1 (Str.ofString "many") (.int (2 * (gs.length : Int)) tm')) (Str.ofString "prepared") (.str (repT (smC a) (b.fmod 1000)) tr')) := by
    refine fr_up F3 ?_
    show up (up (up (up (up m1 (Str.ofString "reply") (.str (repT (mkC a) (b.fmod 1000)) tq1)) (Str.ofString "gaps") (.ref V)) (Str.ofString "strewn") (.str (strT a b gs) ts')) _ _) _ _ = _
    rw [c1]
  have H3 := (H1.up (Str.ofString "many") (.int (2 * (gs.length : Int)) tm') (by decide +kernel)).up (Str.ofString "prepared") (.str (repT (smC a) (b.fmod 1000)) tr') (by decide +kernel)
  have g1 : up (up m1 (Str.ofString "many") (.int (2 * (gs.length : Int)) tm')) (Str.ofString "prepared") (.str (repT (smC a) (b.fmod 1000)) tr') (Str.ofString "prepared") = some (.str (repT (smC a) (b.fmod 1000)) tr') := up_same _ _ _
  generalize up (up m1 (Str.ofString "many") (.int (2 * (gs.length : Int)) tm')) (Str.ofString "prepared") (.str (repT (smC a) (b.fmod 1000)) tr') = m3 at F3 H3 g1
  obtain ⟨ty3, k1⟩ := H3.plain
  obtain ⟨tp3, k2⟩ := H3.port
  show wpC _ _ (execs ((forB.drop 3).drop 3) _) _ _ _
  rw [forB_last]
  exact wpC.execs_cons (cmpP B X T F3 g1 k1 k2 N3 (plain_meant a b) (rep_ok (smC_ok a).2.1 b) fun h4 tk4 F4 N4 => wpC.any (wpAny_execs_nil (hret h4 tk4 m3 H3 F4 fun p hp => N4 p (List.mem_cons_of_mem _ hp))))
theorem loopB {w : World} {loose : List Str} {mean : ExcName → Option Value} {mg mb : Str → Option Value} {fa : Addr} {cd : Value} {h₀ : Heap} {L : Addr} {m : Str → Option Value} {s : Shared} {Q : Flow → Shared → Prop} {E : Value → Shared → Prop} {sl : List (Addr × Obj)} {a b : Int} {D R U S : Addr} {refs : List Value} {c : Nat}
    (B : Below callerA h₀ [] h₀) (X : (T49.K w.params).In h₀) (T : Top T49.vw loose mean mg mb h₀) (H : LawM a b D R U m) (hS : m (Str.ofString "sets") = some (.ref S)) (F : Fr h₀ L s.heap m)
    (N : News h₀ L s.heap ((S, listOf refs.toArray c) :: sl)) (ok : SetsOk b refs sl)
    (hret : ∀ (h' : Heap) (tk' : Nat) (m' : Str → Option Value), Fr h₀ L h' m' → News h₀ L h' sl → Q .next { s with heap := h', toks := tk' }) :
    wpC (model PySem.Challenge.rw_tp0049_02.row.prog w) (callerA.deeper (envOfC (Str.ofString "law") dLaw.scope L fa cd)) (exec (dLaw.body.getD 14 default) (envOfC (Str.ofString "law") dLaw.scope L fa cd)) Q E s := by
  obtain ⟨p1, p2, p3, hst⟩ : ∃ p1 p2 p3, dLaw.body.getD 14 default = .For (.Name (Str.ofString "gaps") p1) (.Name (Str.ofString "sets") p2) forB [] p3 := ⟨_, _, _, rfl⟩
  rw [hst]
  refine wpC.For (wpAny_Name (wpAny_loadName_local rfl (by with_unfolding_all rfl) F.ns hS ?_) (by decide +kernel))
  have hlst : s.heap.IsList S refs.toArray := PySem.IsL.isList (n := c) (N _ List.mem_cons_self).1
  have hSL : S ≠ L := (N _ List.mem_cons_self).2.1
  have hnew : h₀.get? s.heap.objs.size = none := next_is_new F
  have hSI : S < s.heap.objs.size := Heap.lt_size (N _ List.mem_cons_self).1
  have N2 : News h₀ L s.heap sl := fun p hp => N p (List.mem_cons_of_mem _ hp)
  have lt₀ : ∀ p ∈ sl, p.1 < s.heap.objs.size := fun p hp => Heap.lt_size (N2 p hp).1
  refine wpAny_pyIter_list hlst ?_
  have W := Walks.list (prog := PySem.Challenge.rw_tp0049_02.row.prog) (w := w) (A := callerA.deeper (envOfC (Str.ofString "law") dLaw.scope L fa cd)) rfl s.heap.objs.size S (Nat.ne_of_lt hSI) refs.toArray
  refine codeC.forWalk (R := fun r s' => match r with | .ok f => Q f s' | .error _ => False) (s := { s with heap := s.heap.push _ }) (m := m) (news := sl) W (by with_unfolding_all rfl) (by rfl) ?_ ?_ ?_ ⟨⟨_, Heap.get?_push_size _ rfl, rfl, rfl⟩, hlst.push _⟩ (F.push _) (fun p hp => ⟨Heap.get?_push_of_some _ (N2 p hp).1, (N2 p hp).2⟩)
    (fun i m₁ news₁ => LawM a b D R U m₁ ∧ news₁ = sl) ⟨H, rfl⟩ ?_ ?_
  · intro hm
    simp only [List.mem_cons, List.not_mem_nil, or_false] at hm
    rcases hm with h | h
    · exact absurd F.ns.lt (by rw [show L = s.heap.objs.size from h]; exact Nat.lt_irrefl _)
    · exact hSL h.symm
  · intro x hx
    rw [List.mem_singleton.mp hx]
    exact hnew
  · exact fun p hp hI => Nat.ne_of_lt (lt₀ p hp) (List.mem_singleton.mp hI)
  · rintro i v m₁ news₁ s₁ own ⟨hh', tk', rfl⟩ hin hv ⟨H₁, rfl⟩ hoff hown hget hall hst F₁ N₁
    obtain ⟨V, us, gs, c', rfl, hm, hI, hgl, hnd, hgb⟩ := ok v (List.mem_of_getElem? (by simpa using hv))
    refine turnB B X T H₁ F₁ N₁ (List.mem_append_right _ hm) hI hgl hnd hgb fun h2 tk2 m2 H2 F2 N2' => ?_
    exact LoopStepU.intro F2 N2' (fun p hp hI => Nat.ne_of_lt (lt₀ p hp) (List.mem_singleton.mp hI)) ⟨H2, rfl⟩
  · rintro h' tk' m' news' F' N' hn' ⟨H', rfl⟩
    exact hret h' tk' m' F' N'
end
section
theorem body_11 : dLaw.body.drop 2 = (dLaw.body.drop 2).take 9 ++ dLaw.body.drop 11 := rfl
theorem body_d11 : (dLaw.body.drop 2).drop 9 = dLaw.body.getD 11 default :: dLaw.body.drop 12 := rfl
theorem body_t12 : (dLaw.body.drop 12).take 1 = [dLaw.body.getD 12 default] := rfl
theorem body_d13 : (dLaw.body.drop 12).drop 1 = dLaw.body.getD 13 default :: (dLaw.body.getD 14 default :: [dLaw.body.getD 15 default]) := rfl
theorem drawn_at (gs : List Int) (i : Nat) (d : Int) (h0 : 0 ≤ d) (h1 : d < 1000000) : 0 ≤ (drawnL gs).getD i d ∧ (drawnL gs).getD i d < 1000000 := by
  rw [List.getD_eq_getElem?_getD]
  cases e : (drawnL gs)[i]? with
  | none => exact ⟨h0, h1⟩
  | some n => exact drawn_bd (gs := gs) (List.mem_of_getElem? e)
noncomputable def NextC (M : Model) (A : Around) (env : Env) (E : Value → Shared → Prop) (rest : List Stmt) (Q : Flow → Shared → Prop) (f : Flow) (s' : Shared) : Prop := match f with
  | .next => wpC M A (execs rest env) Q E s'
  | f => Q f s'
theorem NextC.intro {M : Model} {A : Around} {env : Env} {E : Value → Shared → Prop} {rest : List Stmt} {Q : Flow → Shared → Prop} {s' : Shared} (h : wpC M A (execs rest env) Q E s') : NextC M A env E rest Q .next s' := h
theorem wpC.execs_free {M : Model} {A : Around} {env : Env} {E : Value → Shared → Prop} {s : Shared} {Q : Flow → Shared → Prop} {body : List Stmt} (n : Nat) (h : wpAny M A (execs (body.take n) env) (fun f s' => NameKind.free = NameKind.free → NextC M A env E (body.drop n) Q f s') E s) : wpC M A (execs body env) Q E s :=
  wpC.execs_at n (wpAny_mono h (fun f s' q => q rfl) fun _ _ e => e)
set_option maxHeartbeats 4000000 in
theorem law_body {w : World} {loose : List Str} {mean : ExcName → Option Value} {mg mb : Str → Option Value} {fa : Addr} {cd : Value} {h₀ : Heap} {L : Addr} {m : Str → Option Value} {s : Shared} {Q : Flow → Shared → Prop} {E : Value → Shared → Prop} {A : Addr} {vs : List Value} {gs : List Int} {oc : Obj} {vc : Option Value}
    (B : Below callerA h₀ [] h₀) (X : (T49.K w.params).In h₀) (T : Top T49.vw loose mean mg mb h₀)
    (F : Fr h₀ L s.heap (fun y => if y = Str.ofString "script" then some (.ref A) else m y)) (N : News h₀ L s.heap [(L + 1, oc)]) (hoc : oc.data = Data.cell vc)
    (hL : h₀.IsList A vs.toArray) (hI : IntsAre vs gs) (hgl : ¬ (63 : Int) < (gs.length : Int))
    (hret : ∀ (h' : Heap) (tk' : Nat) (m' : Str → Option Value), Fr h₀ L h' m' → wpAny (model PySem.Challenge.rw_tp0049_02.row.prog w) (callerA.deeper (envOfC (Str.ofString "law") dLaw.scope L fa cd)) (execs [dLaw.body.getD 15 default] (envOfC (Str.ofString "law") dLaw.scope L fa cd)) Q E { s with heap := h', toks := tk' }) :
    wpC (model PySem.Challenge.rw_tp0049_02.row.prog w) (callerA.deeper (envOfC (Str.ofString "law") dLaw.scope L fa cd)) (execs dLaw.body (envOfC (Str.ofString "law") dLaw.scope L fa cd)) Q E s := by
  refine wpC.execs_free 2 (C_law1 B X T F N hL hI hgl fun a b D ys ta tb h1 tk1 hY ea eb F1 N1 => NextC.intro ?_)
  have ba : 0 ≤ a ∧ a < 1000000 := ea ▸ drawn_at gs 0 8 (by decide) (by decide)
  have bb : 0 ≤ b ∧ b < 1000000 := eb ▸ drawn_at gs 1 80 (by decide) (by decide)
  clear ea eb
  refine wpC.execs_free 9 (C_law2 (m := up (up m (Str.ofString "script") (.ref A)) (Str.ofString "drawn") (.ref D)) B X T F1 N1 ba.1 ba.2 bb.1 bb.2 fun R U t1 u1 v1 tr tq tg tz tp ts tm h2 tk2 oR oU F2 N2 => NextC.intro ?_)
  have F3 : Fr h₀ L h2 (up (up (up (up (up (up (up (up (up (up (up (up (up m (Str.ofString "script") (.ref A)) (Str.ofString "drawn") (.ref D)) (Str.ofString "first") (.int a ta)) (Str.ofString "second") (.int b tb)) (Str.ofString "mark") (.str ⟨#[mkC a]⟩ tm)) (Str.ofString "small") (.str ⟨#[smC a]⟩ ts)) (Str.ofString "port") (.int (b.fmod 1000) tp)) (Str.ofString "size") (.int (zz b) tz)) (Str.ofString "sign") (.str ⟨#[sgC a]⟩ tg)) (Str.ofString "reply") (.str (repT (mkC a) (b.fmod 1000)) tq)) (Str.ofString "plain") (.str (repT (smC a) (b.fmod 1000)) tr)) (Str.ofString "rooms") (.ref R)) (Str.ofString "alone") (.ref U)) := F2
  have H : LawM a b D R U (up (up (up (up (up (up (up (up (up (up (up (up (up m (Str.ofString "script") (.ref A)) (Str.ofString "drawn") (.ref D)) (Str.ofString "first") (.int a ta)) (Str.ofString "second") (.int b tb)) (Str.ofString "mark") (.str ⟨#[mkC a]⟩ tm)) (Str.ofString "small") (.str ⟨#[smC a]⟩ ts)) (Str.ofString "port") (.int (b.fmod 1000) tp)) (Str.ofString "size") (.int (zz b) tz)) (Str.ofString "sign") (.str ⟨#[sgC a]⟩ tg)) (Str.ofString "reply") (.str (repT (mkC a) (b.fmod 1000)) tq)) (Str.ofString "plain") (.str (repT (smC a) (b.fmod 1000)) tr)) (Str.ofString "rooms") (.ref R)) (Str.ofString "alone") (.ref U)) := by
    constructor
    · repeat (first | exact up_same _ _ _ | rw [up_ne (by decide +kernel)])
    · repeat (first | exact up_same _ _ _ | rw [up_ne (by decide +kernel)])
    · repeat (first | exact up_same _ _ _ | rw [up_ne (by decide +kernel)])
    · refine ⟨tr, ?_⟩; repeat (first | exact up_same _ _ _ | rw [up_ne (by decide +kernel)])
    · refine ⟨tq, ?_⟩; repeat (first | exact up_same _ _ _ | rw [up_ne (by decide +kernel)])
    · refine ⟨tg, ?_⟩; repeat (first | exact up_same _ _ _ | rw [up_ne (by decide +kernel)])
    · refine ⟨tz, ?_⟩; repeat (first | exact up_same _ _ _ | rw [up_ne (by decide +kernel)])
    · refine ⟨tp, ?_⟩; repeat (first | exact up_same _ _ _ | rw [up_ne (by decide +kernel)])
  clear F2 F1
  generalize up (up (up (up (up (up (up (up (up (up (up (up (up m (Str.ofString "script") (.ref A)) (Str.ofString "drawn") (.ref D)) (Str.ofString "first") (.int a ta)) (Str.ofString "second") (.int b tb)) (Str.ofString "mark") (.str ⟨#[mkC a]⟩ tm)) (Str.ofString "small") (.str ⟨#[smC a]⟩ ts)) (Str.ofString "port") (.int (b.fmod 1000) tp)) (Str.ofString "size") (.int (zz b) tz)) (Str.ofString "sign") (.str ⟨#[sgC a]⟩ tg)) (Str.ofString "reply") (.str (repT (mkC a) (b.fmod 1000)) tq)) (Str.ofString "plain") (.str (repT (smC a) (b.fmod 1000)) tr)) (Str.ofString "rooms") (.ref R)) (Str.ofString "alone") (.ref U) = m2 at F3 H
  rw [body_d11]
  have oRD : D < R := oR _ List.mem_cons_self
  have oRC : L + 1 < R := oR _ (List.mem_cons_of_mem _ List.mem_cons_self)
  refine wpC.execs_cons (loopA B X T H F3 N2 List.mem_cons_self (List.forall_mem_cons.mpr ⟨Nat.ne_of_lt oU, List.forall_mem_cons.mpr ⟨Nat.ne_of_lt (Nat.lt_trans oRD oU), List.forall_mem_cons.mpr ⟨Nat.ne_of_lt (Nat.lt_trans oRC oU), fun _ h => nomatch h⟩⟩⟩) fun h3 tk3 m3 H3 F4 N3 => ?_)
  show wpC _ _ (execs (dLaw.body.drop 12) _) _ _ _
  obtain ⟨tz3, ez⟩ := H3.size
  have c3 : up (up m3 (Str.ofString "size") (.int (zz b) tz3)) (Str.ofString "rooms") (.ref R) = m3 := by
    rw [up_is ez, up_is H3.rooms]
  refine wpC.execs_at 1 ?_
  rw [body_t12]
  refine C_law12 B X T (m := m3) (fr_up F4 c3.symm) N3 fun h4 tk4 S D0 D1 D2 D3 us0 us1 us2 us3 c0 i0 i1 i2 i3 oS oD F5 N4 => ?_
  have F5 : Fr h₀ L h4 (up m3 (Str.ofString "sets") (.ref S)) := by
    refine fr_up F5 ?_
    show up (up (up m3 (Str.ofString "size") (.int (zz b) tz3)) (Str.ofString "rooms") (.ref R)) _ _ = _
    rw [c3]
  have H4 := H3.up (Str.ofString "sets") (.ref S) (by decide +kernel)
  obtain ⟨oSR, oS0, oS1, oS2, oS3, oSA⟩ := oS
  obtain ⟨oA0, oA1, oA2, oA3⟩ := oD
  have lc : ∀ {d : Addr}, AllLt d [(D, LCg.lst ys), (L + 1, oc)] → L + 1 < d := fun h => of_allLt h _ (List.mem_cons_of_mem _ List.mem_cons_self)
  show wpC _ _ (execs ((dLaw.body.drop 12).drop 1) _) _ _ _
  rw [body_d13]
  refine wpC.execs_cons (loopY B X T H4 (up_same _ _ _) F5 (sl := [(D3, listOf us3.toArray 0), (D2, listOf us2.toArray 0), (D1, listOf us1.toArray 0), (D0, listOf us0.toArray c0)]) (refs := [.ref D0, .ref D1, .ref D2, .ref D3]) (c := 0) (oc := oc) (ys := ys) (gs := gs) (t1 := t1) (u1 := u1) (v1 := v1) (fun p hp => N4 p ?_) hoc hY (Nat.le_refl 4)
    (SetsOk.four i0 i1 i2 i3 (List.mem_cons_of_mem _ (List.mem_cons_of_mem _ (List.mem_cons_of_mem _ List.mem_cons_self))) (List.mem_cons_of_mem _ (List.mem_cons_of_mem _ List.mem_cons_self)) (List.mem_cons_of_mem _ List.mem_cons_self) List.mem_cons_self) ?_ ?_ fun h5 tk5 m5 refs5 c5 sl5 H5 hS5 hl5 ok5 F6 N5 => ?_)
  · simp only [List.mem_cons, List.not_mem_nil, or_false] at hp ⊢
    rcases hp with h | h | h | h | h | h | h | h <;> simp [h]
  · have q0 : (D0 : Addr) ≠ L + 1 := fun e => Nat.ne_of_lt (lc oA0) e.symm
    have q1 : (D1 : Addr) ≠ L + 1 := fun e => Nat.ne_of_lt (lc oA1) e.symm
    have q2 : (D2 : Addr) ≠ L + 1 := fun e => Nat.ne_of_lt (lc oA2) e.symm
    have q3 : (D3 : Addr) ≠ L + 1 := fun e => Nat.ne_of_lt (lc oA3) e.symm
    have q4 : (S : Addr) ≠ L + 1 := fun e => Nat.ne_of_lt (lc oSA) e.symm
    have q5 : (R : Addr) ≠ L + 1 := fun e => Nat.ne_of_lt oRC e.symm
    exact List.forall_mem_cons.mpr ⟨q4, List.forall_mem_cons.mpr ⟨q5, List.forall_mem_cons.mpr ⟨q3, List.forall_mem_cons.mpr ⟨q2, List.forall_mem_cons.mpr ⟨q1, List.forall_mem_cons.mpr ⟨q0, fun _ h => nomatch h⟩⟩⟩⟩⟩⟩
  · exact List.forall_mem_cons.mpr ⟨Nat.ne_of_lt oSR, List.forall_mem_cons.mpr ⟨Nat.ne_of_lt oS3, List.forall_mem_cons.mpr ⟨Nat.ne_of_lt oS2, List.forall_mem_cons.mpr ⟨Nat.ne_of_lt oS1, List.forall_mem_cons.mpr ⟨Nat.ne_of_lt oS0, fun _ h => nomatch h⟩⟩⟩⟩⟩
  show wpC _ _ (execs (dLaw.body.getD 14 default :: [dLaw.body.getD 15 default]) _) _ _ _
  exact wpC.execs_cons (loopB B X T H5 hS5 F6 N5 ok5 fun h6 tk6 m6 F7 N6 => wpC.any (hret h6 tk6 m6 F7))
end
section
local macro_rules | `(tactic| k_qdec) => `(tactic| decide +kernel)
set_option maxHeartbeats 8000000 in
theorem walk : WalkC T49.vw [Str.ofString "b1_set", Str.ofString "b3_exceptions"] (XL T49.vw []) (Hook.says (kHook T49.K T49.kAs T49.kAs_eq)) (OpenLaw.row PySem.Challenge.rw_tp0049_02).toRowW T49.dLaw [] := by
  k_fill
  intro w s₀ s₁ mg mb G Y fa o pm cd doc dV kV ho hd hcd hD hmg hg args vals as hpre hlay hrd hwl hlo
  have KX := kIn_of Y
  have X := (Ground.X G).1
  have V := (Ground.X G).2
  refine Ground.open G ?_
  intro T B D TE TW
  try (refine guard_noD D (by decide +kernel) ?_; clear D)
  clear hmg
  wrow_args hpre hlay hrd hwl hlo
  all_goals
    have he := Dflts.none hD rfl
    subst he
    have he := Dflts.noKw hD
    subst he
    refine wpC.call (codeC.call_cellsN (by decide) ho (fd_plain hd) (Top.nolimit T) hcd rfl (kinds_of (by kinds_ok)) (by decide) fun h₁ tk₁ cells F N0 X0 => ?_)
    cells_open X0
    have K0 := below_caller (Top.heap T)
    clear hd
    k_drop
    rename Heap.IsList _ _ _ => hL9
    rename IntsAre _ _ => hI9
    rename ¬ (63 : Int) < _ => hgl9
    rename _ = Data.cell _ => hoc9
    refine law_body (m := fun _ => none) K0 KX T ?_ N0 hoc9 hL9 hI9 hgl9 ?_
    · with_unfolding_all exact F
    · intro h' tk' m' F'
      clear F N0 X0
      show wpAny _ _ (execs (dLaw.body.drop 15) _) _ _ _
      dsimp only [dLaw, List.drop]
      k_steps
      show GoodWG _ _ _ _ _ (.ok (.ret (.bool true))) _
      refine GoodW.toG ?_
      k_steps
end
end T49
theorem T49.said : PySem.Challenge.rw_tp0049_02.wellSaid = true := by
  unfold OpenLaw.wellSaid OpenRow.wellSaid OpenRow.partSaid looksOpen
  repeat' (with_reducible refine look_both ?_ ?_)
  all_goals decide +kernel
theorem T49.wit : (OpenLaw.row PySem.Challenge.rw_tp0049_02).promised := by
  k_with_none
  w_witness2
set_option maxHeartbeats 8000000 in
theorem PySem.Challenge.cw_tp0049_02_holds : PySem.Challenge.rw_tp0049_02.Holds := by
  w_on
  refine holds_law T49.said fun said => ?_
  refine T49.holds_over (r := OpenLaw.row PySem.Challenge.rw_tp0049_02) (q := T49.vw) (loose := T49.loose) (Xt := T49.XtH) (XP := XL T49.vw []) (Yf := Hook.obs T49.H) (Ya := Hook.val T49.H) (YP := Hook.says T49.H) (N := 30000) T49.leftH (Hook.of T49.H) (Hook.keeps T49.H) (fun s e => xl_of s (Bool.and_eq_true_iff.mp e).1) XL.keeps T49.hdefL T49.hpL T49.hkL (fun s e => recFacts_of (Bool.and_eq_true_iff.mp e).2) (by rfl) (by assumption) T49.okL T49.bareL ?hw ?hc
  case hw => exact T49.wit
  exact T49.walk
