import PyProof.Rows.All
import Wide.All
import OpenK.AllK
import Wide.FinOn
import Lean
import PySem.Challenge.RW_tp0049_01
open PySem PySem.W PyProof.Rows
set_option Elab.async false
set_option maxRecDepth 100000
set_option linter.unusedVariables false
set_option linter.all false
namespace T49
section does
variable {pr : Program} {w : World} {n₀ : Nat} {ann : Option Value} {c : Code} {q : Pos}

theorem segGo_add {tb : String → Option Builtin} {b : Nat} : ∀ {m n : Nat} {s s₁ : Shared} {t t₁ : Thread} {r : Option (Shared × Thread)},
    segGo tb pr w n₀ ann b m s t = some (s₁, t₁) → segGo tb pr w n₀ ann b n s₁ t₁ = r → segGo tb pr w n₀ ann b (m + n) s t = r
  | 0, n, s, s₁, t, t₁, r, h, k => by
    obtain ⟨rfl, rfl⟩ : s = s₁ ∧ t = t₁ := by simpa [segGo] using h
    rw [Nat.zero_add]; exact k
  | m + 1, n, s, s₁, t, t₁, r, h, k => by
    rw [show m + 1 + n = m + n + 1 by (first | lia | omega)]
    unfold segGo at h ⊢
    cases he : endAt b t with
    | some f => rw [he] at h; cases h
    | none =>
      rw [he] at h
      cases hk : stepOk n₀ ann t with
      | false => rw [hk] at h; cases h
      | true =>
        rw [hk] at h
        cases hs : step (denote tb) pr w s t with
        | halt o s₂ => rw [hs] at h; cases h
        | go s₂ t₂ => rw [hs] at h; exact segGo_add h k

noncomputable def Does (pr : Program) (w : World) (n₀ : Nat) (ann : Option Value) (c : Code) (q : Pos) {α : Type} (n : Nat) (x : Sem α) (s : Shared) (p : Pos) (a : α) (s' : Shared) (p' : Pos) : Prop :=
  ∀ (K : α → Sem Fin) (H : Value → Sem Fin) (gd : Bool → Bool) (lv : List Value → List Value),
    segGo treeTable pr w n₀ ann 1 n s ⟨x.wrap K H gd lv, c, p, [topFrame q]⟩ = some (s', ⟨K a, c, p', [topFrame q]⟩)


end does
end T49
namespace T49
section does
variable {pr : Program} {w : World} {n₀ : Nat} {ann : Option Value} {c : Code} {q : Pos} {α β : Type}

theorem D_pure {a : α} {s : Shared} {p : Pos} : Does pr w n₀ ann c q 0 (pure a) s p a s p := fun _ _ _ _ => rfl
theorem D_bind {m n : Nat} {x : Sem α} {f : α → Sem β} {s s₁ s₂ : Shared} {p p₁ p₂ : Pos} {a : α} {b : β} (h : Does pr w n₀ ann c q m x s p a s₁ p₁) (k : Does pr w n₀ ann c q n (f a) s₁ p₁ b s₂ p₂) :
    Does pr w n₀ ann c q (m + n) (x >>= f) s p b s₂ p₂ := fun K H gd lv => by
  rw [Sem.bind_eq_wrap', Sem.wrap_wrap]
  exact segGo_add (h _ _ _ _) (k K H gd lv)
theorem D_keep {n : Nat} {x : Sem α} {vs : List Value} {s s₁ : Shared} {p p₁ : Pos} {a : α} (h : Does pr w n₀ ann c q n x s p a s₁ p₁) : Does pr w n₀ ann c q n (x.keep vs) s p a s₁ p₁ := fun K H gd lv => by
  rw [Sem.keep_eq_wrap, Sem.wrap_wrap]
  exact h _ _ _ _
theorem D_holding {n : Nat} {x : Sem α} {vs : List Value} {s s₁ : Shared} {p p₁ : Pos} {a : α} (h : Does pr w n₀ ann c q n x s p a s₁ p₁) : Does pr w n₀ ann c q n (holding vs x) s p a s₁ p₁ := by
  unfold holding
  split
  · exact h
  · exact D_keep h
theorem D_onRaise {n : Nat} {x : Sem α} {g : Value → Sem Unit} {s s₁ : Shared} {p p₁ : Pos} {a : α} (h : Does pr w n₀ ann c q n x s p a s₁ p₁) : Does pr w n₀ ann c q n (x.onRaise g) s p a s₁ p₁ := fun K H gd lv => by
  rw [Sem.onRaise_eq_wrap, Sem.wrap_wrap]
  exact h _ _ _ _
theorem D_tryCatch {n : Nat} {x : Sem α} {g : Value → Sem α} {s s₁ : Shared} {p p₁ : Pos} {a : α} (h : Does pr w n₀ ann c q n x s p a s₁ p₁) : Does pr w n₀ ann c q n (tryCatch x g) s p a s₁ p₁ := fun K H gd lv => by
  show segGo _ _ _ _ _ _ _ _ ⟨((Sem.tryCatch x g).wrap K H gd lv), _, _, _⟩ = _
  rw [Sem.tryCatch_eq_wrap, Sem.wrap_wrap]
  exact h _ _ _ _
theorem D_rule {tag : String} {s : Shared} {p : Pos} : Does pr w n₀ ann c q 1 (rule tag) s p () s p := fun _ _ _ _ => by obtain ⟨h, g, d, t, o⟩ := s; rfl
theorem D_point {s : Shared} {p : Pos} : Does pr w n₀ ann c q 1 point s p () s p := fun _ _ _ _ => by obtain ⟨h, g, d, t, o⟩ := s; rfl
theorem D_at {p₁ : Pos} {s : Shared} {p : Pos} : Does pr w n₀ ann c q 1 (standAt p₁) s p () s p₁ := fun _ _ _ _ => by obtain ⟨h, g, d, t, o⟩ := s; rfl
theorem D_fresh {s : Shared} {p : Pos} : Does pr w n₀ ann c q 1 fresh s p s.toks { s with toks := s.toks + 1 } p := fun _ _ _ _ => by obtain ⟨h, g, d, t, o⟩ := s; rfl
theorem D_ask {s : Shared} {p : Pos} : Does pr w n₀ ann c q 1 ask s p ⟨pr, w.params⟩ s p := fun _ _ _ _ => by obtain ⟨h, g, d, t, o⟩ := s; rfl
theorem D_loadPart {a : Addr} {part : Option Value} {o : Obj} {s : Shared} {p : Pos} (ho : s.heap.get? a = some o) : Does pr w n₀ ann c q 1 (loadPart a part) s p o s p := fun K H gd lv => by
  obtain ⟨h, g, d, t, os⟩ := s
  show (match step (denote treeTable) pr w ⟨h, g, d, t, os⟩ ⟨.load a part (fun x => K x), c, p, [topFrame q]⟩ with | .go s' t' => segGo treeTable pr w n₀ ann 1 0 s' t' | .halt _ _ => none) = _
  simp only [step, ho]
  rfl
theorem D_load {a : Addr} {o : Obj} {s : Shared} {p : Pos} (ho : s.heap.get? a = some o) : Does pr w n₀ ann c q 1 (load a) s p o s p := D_loadPart ho
theorem D_alloc {o : Obj} {s : Shared} {p : Pos} : Does pr w n₀ ann c q 1 (alloc o) s p s.heap.objs.size { s with heap := s.heap.push o } p := fun _ _ _ _ => by obtain ⟨h, g, d, t, os⟩ := s; rfl
theorem D_updatePart {a : Addr} {part : Option Value} {f : Obj → Obj} {o : Obj} {s : Shared} {p : Pos} (ho : s.heap.get? a = some o) (hn : Nat.ble n₀ a = true) :
    Does pr w n₀ ann c q 1 (updatePart a part f) s p () { s with heap := s.heap.update a f } p := fun K H gd lv => by
  obtain ⟨h, g, d, t, os⟩ := s
  have e : stepOk n₀ ann ⟨.update a part f (fun x => K x), c, p, [topFrame q]⟩ = true := by
    show (true && (Nat.ble n₀ a || a == mainNs || a == cStatics || ann == some (.ref a))) = true
    rw [hn]; rfl
  show (match stepOk n₀ ann ⟨.update a part f (fun x => K x), c, p, [topFrame q]⟩ with
    | false => none
    | true => match step (denote treeTable) pr w ⟨h, g, d, t, os⟩ ⟨.update a part f (fun x => K x), c, p, [topFrame q]⟩ with | .go s' t' => segGo treeTable pr w n₀ ann 1 0 s' t' | .halt _ _ => none) = _
  rw [e]
  have ho' : (h.get? a).isSome = true := by rw [ho]; rfl
  simp only [step, ho', if_true]
  rfl
theorem D_cast {m n : Nat} {x : Sem α} {s s' : Shared} {p p' : Pos} {a : α} (h : Does pr w n₀ ann c q m x s p a s' p') (e : m = n) : Does pr w n₀ ann c q n x s p a s' p' := e ▸ h
theorem D_mkInt {i : Int} {s : Shared} {p : Pos} : Does pr w n₀ ann c q 1 (mkInt i) s p (.int i s.toks) { s with toks := s.toks + 1 } p := D_bind (f := fun t => pure (Value.int i t)) D_fresh D_pure
theorem D_mkText {x : Str} {s : Shared} {p : Pos} : Does pr w n₀ ann c q 1 (mkText x) s p (.str x s.toks) { s with toks := s.toks + 1 } p := D_bind (f := fun t => pure (Value.str x t)) D_fresh D_pure
theorem D_forIn_nil {γ : Type} {f : α → γ → Sem (ForInStep γ)} {b : γ} {s : Shared} {p : Pos} : Does pr w n₀ ann c q 0 (forIn ([] : List α) b f) s p b s p := by
  rw [List.forIn_nil]; exact D_pure
theorem D_forIn_cons {γ : Type} {f : α → γ → Sem (ForInStep γ)} {a : α} {l : List α} {b b₁ b₂ : γ} {s s₁ s₂ : Shared} {p p₁ p₂ : Pos} {m n : Nat} (h : Does pr w n₀ ann c q m (f a b) s p (.yield b₁) s₁ p₁) (k : Does pr w n₀ ann c q n (forIn l b₁ f) s₁ p₁ b₂ s₂ p₂) :
    Does pr w n₀ ann c q (m + n) (forIn (a :: l) b f) s p b₂ s₂ p₂ := by
  rw [List.forIn_cons]; exact D_bind h k

theorem hash_tree (k : Int) (t : Tok) : specialOf (.int k t) "__hash__" = pure (some (.builtin "int.__hash__")) := by kernel_rfl
theorem hash_room (k : Int) (t : Tok) : cRoomFor "hash" [.int k t] = pure () := by kernel_rfl
theorem hash_bind (k : Int) (t : Tok) : bindSpecial (.builtin "int.__hash__") (.int k t) = pure (.builtin "int.__hash__", [.int k t]) := by kernel_rfl
theorem D_hash_call {k : Int} {t : Tok} {bd : List Stmt} {env : Env} {s : Shared} {p : Pos} :
    Does pr w n₀ ann (.body bd env) q 4 (runValue (.call (.builtin "int.__hash__") ⟨[.int k t], []⟩)) s p (.int (rawHash k) s.toks) { s with toks := s.toks + 1 } p := fun K H gd lv => by
  obtain ⟨h, g, d, t, o⟩ := s
  kernel_rfl

theorem D_eq {n : Nat} {x y : Sem α} {s s' : Shared} {p p' : Pos} {a : α} (e : x = y) (h : Does pr w n₀ ann c q n y s p a s' p') : Does pr w n₀ ann c q n x s p a s' p' := e ▸ h
theorem D_bindSpecial {k : Int} {t : Tok} {s : Shared} {p : Pos} : Does pr w n₀ ann c q 1 (bindSpecialIfBound? (.int k t) "__hash__") s p (some (.builtin "int.__hash__", [.int k t])) s p := by
  unfold bindSpecialIfBound?
  refine D_cast (m := 0 + (1 + 0)) ?_ rfl
  refine D_bind (D_eq (hash_tree k t) D_pure) ?_
  dsimp only
  refine D_bind D_ask ?_
  dsimp only
  have hb : Does pr w n₀ ann c q 0 (do return some (← bindSpecial (.builtin "int.__hash__") (.int k t)) : Sem (Option (Value × List Value))) s p (some (.builtin "int.__hash__", [.int k t])) s p := by
    refine D_cast (m := 0 + 0) (D_bind (D_eq (hash_bind k t) D_pure) D_pure) rfl
  split
  · exact hb
  · exact D_tryCatch hb
theorem D_callSpecial {k : Int} {t : Tok} {bd : List Stmt} {env : Env} {rf : Sem Value} {s : Shared} {p : Pos} :
    Does pr w n₀ ann (.body bd env) q 5 (callSpecialIfBoundUnlessNone? (.int k t) "__hash__" rf) s p (some (.int (rawHash k) s.toks)) { s with toks := s.toks + 1 } p := by
  unfold callSpecialIfBoundUnlessNone?
  refine D_holding ?_
  refine D_cast (m := 1 + 4) ?_ rfl
  refine D_bind D_bindSpecial ?_
  dsimp only
  rw [if_neg (fun h => Value.noConfusion (eq_of_beq h))]
  exact D_cast (m := 4 + 0) (D_bind D_hash_call D_pure) rfl
theorem D_pyHash {k : Int} {t : Tok} {bd : List Stmt} {env : Env} {s : Shared} {p : Pos} :
    Does pr w n₀ ann (.body bd env) q 5 (pyHash (.int k t)) s p (hashInt k) { s with toks := s.toks + 1 } p := by
  have hr := rawHash_range k
  unfold pyHash
  refine D_cast (m := 0 + (0 + (0 + (5 + 0)))) ?_ rfl
  refine D_bind (D_eq (hash_room k t) D_pure) ?_
  refine D_bind (D_eq (hash_tree k t) D_pure) ?_
  show Does pr w n₀ ann _ q _ (if (some (Value.builtin "int.__hash__") == some Value.none) = true then _ else _) _ _ _ _ _
  rw [if_neg (by rw [beq_builtin_none]; exact Bool.false_ne_true)]
  refine D_bind (D_eq (hash_tree k t) D_pure) ?_
  show Does pr w n₀ ann _ q _ (callSpecialIfBoundUnlessNone? (.int k t) "__hash__" _ >>= _) _ _ _ _ _
  refine D_bind D_callSpecial ?_
  show Does pr w n₀ ann _ q _ (if (decide (-(2 : Int) ^ 63 ≤ rawHash k) && decide (rawHash k < 2 ^ 63)) = true then _ else _) _ _ _ _ _
  rw [if_pos (by rw [decide_eq_true hr.1, decide_eq_true hr.2]; rfl)]
  exact D_pure
theorem hashInt_nat {k : Nat} (h : k < 2 ^ 31) : hashInt (k : Int) = k := by
  have : rawHash (k : Int) = k := by
    unfold rawHash
    have h1 : (((k : Int).natAbs : Nat) : Int) % ((2 ^ 61 - 1 : Nat) : Int) = k := by
      rw [Int.natAbs_natCast]; exact Int.emod_eq_of_lt (by (first | lia | omega)) (by (first | lia | omega))
    dsimp only
    have h2 : ¬ ((k : Int) < 0) := by (first | lia | omega)
    simp only [h1, h2, if_false]
    rw [if_neg (by simp only [beq_iff_eq]; (first | lia | omega))]
  unfold hashInt
  rw [this, if_neg (by simp only [beq_iff_eq]; (first | lia | omega))]

variable {life : Life} {gens : Array GenState} {drawn : Drawn} {os : OsState}
noncomputable def stL (life : Life) (gens : Array GenState) (drawn : Drawn) (os : OsState) (l : List Obj) (t : Nat) : Shared := ⟨⟨l.toArray, life⟩, gens, drawn, t, os⟩
noncomputable def dObj (es : List DictEntry) (n : Nat) : Obj := ⟨.type "dict", none, .dict es.toArray n, #[]⟩
theorem get_at (A : List Obj) (es : List DictEntry) (n : Nat) (R : List Obj) (t : Nat) : (stL life gens drawn os (A ++ dObj es n :: R) t).heap.get? A.length = some (dObj es n) := by
  unfold stL Heap.get?
  simp [dObj]
theorem modify_at {γ : Type} (f : γ → γ) (x : γ) (R : List γ) : ∀ A : List γ, (A ++ x :: R).modify A.length f = A ++ f x :: R
  | [] => rfl
  | a :: A => by simp [modify_at f x R A]
theorem upd_at (A : List Obj) (es : List DictEntry) (n : Nat) (R : List Obj) (t : Nat) (e : DictEntry) :
    { stL life gens drawn os (A ++ dObj es n :: R) t with heap := (stL life gens drawn os (A ++ dObj es n :: R) t).heap.update A.length (Obj.mapDictKeys (·.push e)) } = stL life gens drawn os (A ++ dObj (es ++ [e]) (n + 1) :: R) t := by
  unfold stL Heap.update
  simp only [List.modify_toArray, modify_at]
  simp [dObj, Obj.mapDictKeys]
theorem push_at (l : List Obj) (t : Nat) (o : Obj) : { stL life gens drawn os l t with heap := (stL life gens drawn os l t).heap.push o } = stL life gens drawn os (l ++ [o]) t := by
  unfold stL Heap.push
  simp
theorem size_at (l : List Obj) (t : Nat) : (stL life gens drawn os l t).heap.objs.size = l.length := by
  unfold stL
  simp

noncomputable abbrev noHash (es : List DictEntry) (h : Int) : Prop := ∀ e ∈ es, e.hash ≠ h
theorem D_dictFind {A R : List Obj} {es : List DictEntry} {n t : Nat} {k : Int} {tk : Tok} {h : Int} {p : Pos} (hn : noHash es h) :
    Does pr w n₀ ann c q 1 (dictFind A.length (.int k tk) h) (stL life gens drawn os (A ++ dObj es n :: R) t) p none (stL life gens drawn os (A ++ dObj es n :: R) t) p := by
  have hp : placesWithHash es.toArray.size (fun i => es.toArray[i]?.map (·.hash)) h = [] := by
    unfold placesWithHash
    rw [List.filter_eq_nil_iff]
    intro i hi
    rw [List.mem_range] at hi
    simp only [List.size_toArray] at hi
    simp only [List.getElem?_toArray, List.getElem?_eq_getElem hi, Option.map_some, beq_iff_eq, Option.some.injEq]
    exact hn _ (List.getElem_mem hi)
  unfold dictFind
  refine D_holding ?_
  refine D_cast (m := (1 + 0) + 0) ?_ rfl
  refine D_bind (a := es.toArray) (D_bind (D_loadPart (get_at A es n R t)) D_pure) ?_
  dsimp only
  have hall : ((Value.int k tk :: (placesWithHash es.toArray.size (fun i => es.toArray[i]?.map (·.hash)) h).filterMap fun i => es.toArray[i]?.map (·.key)).all carriedByValue) = true := by
    rw [hp]; rfl
  rw [if_pos hall, hp]
  unfold dictWalkPlain
  refine D_cast (m := 0 + 0) (D_bind (D_forIn_nil) D_pure) rfl
theorem D_updateKeys {A R : List Obj} {es : List DictEntry} {n t : Nat} {e : DictEntry} {part : Option Value} {p : Pos} (hA : Nat.ble n₀ A.length = true) (hs : es.length < 5000) :
    Does pr w n₀ ann c q 3 (updateDictKeys A.length (·.push e) part) (stL life gens drawn os (A ++ dObj es n :: R) t) p () (stL life gens drawn os (A ++ dObj (es ++ [e]) (n + 1) :: R) t) p := by
  unfold updateDictKeys
  refine D_cast (m := 1 + (1 + 1)) ?_ rfl
  refine D_bind (D_loadPart (get_at A es n R t)) ?_
  show Does pr w n₀ ann c q _ (updatePart A.length part (Obj.mapDictKeys fun x => x.push e) >>= fun _ => lookBehind A.length part) _ _ _ _ _
  refine D_bind (D_updatePart (get_at A es n R t) hA) ?_
  rw [upd_at]
  unfold lookBehind
  refine D_cast (m := 1 + 0) ?_ rfl
  refine D_bind (D_loadPart (get_at A (es ++ [e]) (n + 1) R t)) ?_
  have : (dObj (es ++ [e]) (n + 1)).data.pastItsLine = none := by
    show (if (es ++ [e]).toArray.size > sizeLine + 1 then some _ else none) = none
    rw [if_neg]
    rw [sizeLine_eq]
    simp only [List.size_toArray, List.length_append, List.length_cons, List.length_nil]
    (first | lia | omega)
  rw [this]
  exact D_pure
theorem D_dictSet {A R : List Obj} {es : List DictEntry} {n t : Nat} {k : Nat} {tk : Tok} {v : Value} {bd : List Stmt} {env : Env} {p : Pos} (hA : Nat.ble n₀ A.length = true) (hs : es.length < 5000) (hk : k < 2 ^ 31) (hn : noHash es k) :
    Does pr w n₀ ann (.body bd env) q 10 (dictSet A.length (.int k tk) v) (stL life gens drawn os (A ++ dObj es n :: R) t) p () (stL life gens drawn os (A ++ dObj (es ++ [⟨k, .int k tk, v⟩]) (n + 1) :: R) (t + 1)) p := by
  unfold dictSet
  refine D_holding ?_
  refine D_cast (m := 5 + 5) ?_ rfl
  refine D_bind D_pyHash ?_
  rw [hashInt_nat hk]
  show Does pr w n₀ ann _ q 5 (dictSetHashed A.length (.int k tk) k v) (stL life gens drawn os (A ++ dObj es n :: R) (t + 1)) p () _ p
  unfold dictSetHashed
  refine D_holding ?_
  refine D_cast (m := 1 + (1 + 3)) ?_ rfl
  refine D_bind (D_dictFind hn) ?_
  dsimp only
  refine D_bind D_rule ?_
  exact D_updateKeys hA hs
theorem D_dictPut {A R : List Obj} {es : List DictEntry} {n t : Nat} {k : Nat} {tk : Tok} {v : Value} {p : Pos} (hA : Nat.ble n₀ A.length = true) (hs : es.length < 5000) (hn : noHash es k) :
    Does pr w n₀ ann c q 4 (dictPut A.length k (.int k tk) v) (stL life gens drawn os (A ++ dObj es n :: R) t) p () (stL life gens drawn os (A ++ dObj (es ++ [⟨k, .int k tk, v⟩]) (n + 1) :: R) t) p := by
  unfold dictPut
  refine D_cast (m := 1 + 3) ?_ rfl
  refine D_bind (D_dictFind hn) ?_
  dsimp only
  exact D_updateKeys hA hs
end does
end T49
namespace T49
section does
variable {pr : Program} {w : World} {n₀ : Nat} {ann : Option Value} {q : Pos} {bd : List Stmt} {env : Env} {life : Life} {gens : Array GenState} {drawn : Drawn} {os : OsState}

noncomputable def ent (t : Nat) (x : Nat × List Nat) : DictEntry := ⟨(x.1 : Int), .int (x.1 : Int) t, .str ⟨x.2.toArray⟩ (t + 1)⟩
noncomputable def ents : Nat → List (Nat × List Nat) → List DictEntry
  | _, [] => []
  | t, x :: r => ent t x :: ents (t + 3) r
noncomputable def ents2 : Nat → List (Nat × List Nat) → List DictEntry
  | _, [] => []
  | t, x :: r => ent t x :: ents2 (t + 2) r
noncomputable def pairOf (pos : Pos) (x : Nat × List Nat) : Sem Value × Sem Value := (mkInt (x.1 : Int), do let v ← mkText ⟨x.2.toArray⟩; standAt pos; pure v)

/-- keys rise above lo -/
noncomputable def asc : Int → List (Nat × List Nat) → Prop
  | _, [] => True
  | lo, x :: r => lo < x.1 ∧ x.1 < 2 ^ 31 ∧ asc x.1 r
noncomputable abbrev below (es : List DictEntry) (lo : Int) : Prop := ∀ e ∈ es, e.hash ≤ lo
theorem below_noHash {es : List DictEntry} {lo h : Int} (b : below es lo) (hl : lo < h) : noHash es h := fun e he q => by have := b e he; (first | lia | omega)
theorem below_snoc {es : List DictEntry} {lo : Int} {e : DictEntry} (b : below es lo) (hl : lo < e.hash) : below (es ++ [e]) e.hash := fun x hx => by
  rcases List.mem_append.mp hx with hx | hx
  · have := b x hx; (first | lia | omega)
  · rw [List.mem_singleton.mp hx]; exact Int.le_refl _

theorem D_loop {pos : Pos} {A : List Obj} {f : Sem Value × Sem Value → PUnit → Sem (ForInStep PUnit)}
    (hf : ∀ (x : Nat × List Nat) (es : List DictEntry) (n t : Nat), es.length < 5000 → x.1 < 2 ^ 31 → noHash es x.1 →
      Does pr w n₀ ann (.body bd env) q 13 (f (pairOf pos x) PUnit.unit) (stL life gens drawn os (A ++ [dObj es n]) t) pos (.yield PUnit.unit) (stL life gens drawn os (A ++ [dObj (es ++ [ent t x]) (n + 1)]) (t + 3)) pos) :
    ∀ (l : List (Nat × List Nat)) {lo : Int} {es : List DictEntry} {n t : Nat}, asc lo l → below es lo → es.length + l.length < 5000 →
      Does pr w n₀ ann (.body bd env) q (13 * l.length) (forIn (l.map (pairOf pos)) PUnit.unit f) (stL life gens drawn os (A ++ [dObj es n]) t) pos PUnit.unit (stL life gens drawn os (A ++ [dObj (es ++ ents t l) (n + l.length)]) (t + 3 * l.length)) pos
  | [], _, es, n, t, _, _, _ => by
    simp only [ents, List.append_nil, List.length_nil, Nat.mul_zero, Nat.add_zero, List.map_nil]
    exact D_forIn_nil
  | x :: l, lo, es, n, t, ha, hb, hs => by
    simp only [List.length_cons] at hs
    have k := D_loop hf l (es := es ++ [ent t x]) (n := n + 1) (t := t + 3) ha.2.2 (below_snoc (e := ent t x) hb ha.1) (by simp only [List.length_append, List.length_cons, List.length_nil]; (first | lia | omega))
    have h := hf x es n t (by (first | lia | omega)) ha.2.1 (below_noHash hb ha.1)
    have r := D_forIn_cons h k
    rw [List.map_cons]
    simp only [List.append_assoc, List.cons_append, List.nil_append] at r
    refine D_cast ?_ (show 13 + 13 * l.length = 13 * (x :: l).length by rw [List.length_cons]; (first | lia | omega))
    rw [show n + (x :: l).length = n + 1 + l.length by rw [List.length_cons]; (first | lia | omega), show t + 3 * (x :: l).length = t + 3 + 3 * l.length by rw [List.length_cons]; (first | lia | omega)]
    exact r

theorem D_pairVal {x : List Nat} {pos : Pos} {l : List Obj} {t : Nat} {c : Code} {p : Pos} : Does pr w n₀ ann c q 2 (do let v ← mkText ⟨x.toArray⟩; standAt pos; pure v) (stL life gens drawn os l t) p (.str ⟨x.toArray⟩ t) (stL life gens drawn os l (t + 1)) pos :=
  D_cast (m := 1 + (1 + 0)) (D_bind D_mkText (D_bind D_at D_pure)) rfl

theorem D_subDict {pos : Pos} {A : List Obj} {l : List (Nat × List Nat)} {t : Nat} (hA : Nat.ble n₀ A.length = true) (ha : asc (-1) l) (h15 : 15 < l.length) (hs : l.length < 5000) :
    Does pr w n₀ ann (.body bd env) q (2 + 13 * l.length) (subDict (l.map (pairOf pos))) (stL life gens drawn os A t) pos A.length (stL life gens drawn os (A ++ [dObj (ents t l) l.length]) (t + 3 * l.length)) pos := by
  unfold subDict
  refine D_cast (m := 1 + (1 + 13 * l.length + 0)) ?_ (by (first | lia | omega))
  refine D_bind (a := A.length) (s₁ := stL life gens drawn os (A ++ [dObj [] 0]) t) (p₁ := pos) ?_ ?_
  · have := D_alloc (pr := pr) (w := w) (n₀ := n₀) (ann := ann) (c := .body bd env) (q := q) (o := { cls := .type "dict", data := .dict #[] }) (s := stL life gens drawn os A t) (p := pos)
    rw [size_at, push_at] at this
    exact this
  · refine D_bind (a := ()) (p₁ := pos) (s₁ := stL life gens drawn os (A ++ [dObj (ents t l) l.length]) (t + 3 * l.length)) ?_ D_pure
    refine D_holding ?_
    rw [if_neg (by rw [List.length_map]; (first | lia | omega))]
    refine D_bind D_rule ?_
    have k := D_loop (pr := pr) (w := w) (n₀ := n₀) (ann := ann) (q := q) (bd := bd) (env := env) (life := life) (gens := gens) (drawn := drawn) (os := os) (pos := pos) (A := A)
      (f := fun x _ => do let kv ← x.1; let vv ← holding [kv] x.2; holding [kv, vv] (dictSet A.length kv vv); pure (ForInStep.yield PUnit.unit))
      (fun x es n t he hx hn => by
        dsimp only [pairOf]
        refine D_cast (m := 1 + (2 + (10 + 0))) ?_ rfl
        refine D_bind D_mkInt ?_
        refine D_bind (D_holding D_pairVal) ?_
        refine D_bind (D_holding (D_dictSet hA he hx hn)) ?_
        exact D_pure) l (lo := -1) (es := []) (n := 0) (t := t) ha (fun e he => (nomatch he)) (by simpa using hs)
    rw [Nat.zero_add, List.nil_append] at k
    exact D_cast (D_bind k D_pure) (Nat.add_zero _)

/-- entries with int keys that rise above lo -/
noncomputable def ascE : Int → List DictEntry → Prop
  | _, [] => True
  | lo, e :: r => lo < e.hash ∧ (∃ (k : Nat) (tk : Tok) (v : Value), e = ⟨(k : Int), .int (k : Int) tk, v⟩) ∧ ascE e.hash r
theorem ascE_ents : ∀ (l : List (Nat × List Nat)) {lo : Int} {t : Nat}, asc lo l → ascE lo (ents t l)
  | [], _, _, _ => trivial
  | x :: l, _, t, h => ⟨h.1, ⟨x.1, t, _, rfl⟩, ascE_ents l h.2.2⟩
theorem ascE_ents2 : ∀ (l : List (Nat × List Nat)) {lo : Int} {t : Nat}, asc lo l → ascE lo (ents2 t l)
  | [], _, _, _ => trivial
  | x :: l, _, t, h => ⟨h.1, ⟨x.1, t, _, rfl⟩, ascE_ents2 l h.2.2⟩
theorem ents_length : ∀ (l : List (Nat × List Nat)) (t : Nat), (ents t l).length = l.length
  | [], _ => rfl
  | x :: l, t => by rw [ents, List.length_cons, List.length_cons, ents_length l]
theorem ents2_length : ∀ (l : List (Nat × List Nat)) (t : Nat), (ents2 t l).length = l.length
  | [], _ => rfl
  | x :: l, t => by rw [ents2, List.length_cons, List.length_cons, ents2_length l]

theorem get_sub (A R : List Obj) (es : List DictEntry) (n : Nat) (sub : List DictEntry) (k : Nat) (t : Nat) : (stL life gens drawn os (A ++ dObj es n :: (R ++ [dObj sub k])) t).heap.get? (A.length + 1 + R.length) = some (dObj sub k) := by
  have := get_at (life := life) (gens := gens) (drawn := drawn) (os := os) (A ++ dObj es n :: R) sub k [] t
  simp only [List.append_assoc, List.cons_append, List.length_append, List.length_cons] at this
  rw [show A.length + 1 + R.length = A.length + (R.length + 1) by (first | lia | omega)]
  exact this

theorem D_mergeLoop {A R : List Obj} {sub : List DictEntry} {k t : Nat} {pos : Pos} {f : Nat → PUnit → Sem (ForInStep PUnit)}
    (hf : ∀ (i : Nat) (e : DictEntry) (es : List DictEntry) (n : Nat), sub[i]? = some e → (∃ (k : Nat) (tk : Tok) (v : Value), e = ⟨(k : Int), .int (k : Int) tk, v⟩) → es.length < 5000 → noHash es e.hash →
      Does pr w n₀ ann (.body bd env) q 6 (f i PUnit.unit) (stL life gens drawn os (A ++ dObj es n :: (R ++ [dObj sub k])) t) pos (.yield PUnit.unit) (stL life gens drawn os (A ++ dObj (es ++ [e]) (n + 1) :: (R ++ [dObj sub k])) t) pos) :
    ∀ (post pre : List DictEntry) {lo : Int} {es : List DictEntry} {n : Nat}, sub = pre ++ post → ascE lo post → below es lo → es.length + post.length < 5000 →
      Does pr w n₀ ann (.body bd env) q (6 * post.length) (forIn (List.range' pre.length post.length) PUnit.unit f) (stL life gens drawn os (A ++ dObj es n :: (R ++ [dObj sub k])) t) pos PUnit.unit (stL life gens drawn os (A ++ dObj (es ++ post) (n + post.length) :: (R ++ [dObj sub k])) t) pos
  | [], pre, _, es, n, _, _, _, _ => by
    simp only [List.append_nil, List.length_nil, Nat.mul_zero, Nat.add_zero, List.range'_zero]
    exact D_forIn_nil
  | e :: post, pre, lo, es, n, hs, ha, hb, hl => by
    simp only [List.length_cons] at hl
    have h := hf pre.length e es n (by rw [hs]; simp) ha.2.1 (by (first | lia | omega)) (below_noHash hb ha.1)
    have r := D_mergeLoop hf post (pre ++ [e]) (es := es ++ [e]) (n := n + 1) (by rw [hs]; simp) ha.2.2 (below_snoc hb ha.1) (by simp only [List.length_append, List.length_cons, List.length_nil]; (first | lia | omega))
    rw [List.length_append, List.length_cons, List.length_nil, Nat.zero_add] at r
    have z := D_forIn_cons h r
    simp only [List.append_assoc, List.cons_append, List.nil_append] at z
    rw [List.length_cons, List.range'_succ, show n + (post.length + 1) = n + 1 + post.length by (first | lia | omega)]
    exact D_cast z (by (first | lia | omega))

theorem isDict : isSubtype (.type "dict") (.type "dict") = pure true := by kernel_rfl
theorem iterDict : typeLookup (.type "dict") "__iter__" = pure (some (.builtin "dict.__iter__")) := by kernel_rfl
theorem D_merge {A R : List Obj} {es sub : List DictEntry} {n k t : Nat} {lo : Int} {pos : Pos} (hA : Nat.ble n₀ A.length = true) (hS : 1 < A.length) (hne : es ≠ []) (ha : ascE lo sub) (hb : below es lo) (hl : es.length + sub.length < 5000) :
    Does pr w n₀ ann (.body bd env) q (5 + 6 * sub.length) (mergeMapping A.length (.ref (A.length + 1 + R.length)) false) (stL life gens drawn os (A ++ dObj es n :: (R ++ [dObj sub k])) t) pos ()
      (stL life gens drawn os (A ++ dObj (es ++ sub) (n + sub.length) :: (R ++ [dObj sub k])) t) pos := by
  unfold mergeMapping
  have hne' : (A.length + 1 + R.length == sysModules) = false := by
    rw [beq_eq_false_iff_ne]
    show ¬ (@Eq Nat (A.length + 1 + R.length) 1)
    (first | lia | omega)
  refine D_cast (m := 1 + (1 + (0 + (1 + (1 + (1 + (6 * sub.length + 0))))))) ?_ (by (first | lia | omega))
  refine D_bind (a := true) (s₁ := stL life gens drawn os (A ++ dObj es n :: (R ++ [dObj sub k])) t) (p₁ := pos) ?_ ?_
  · unfold isInstance
    refine D_cast (m := 1 + 0) ?_ rfl
    refine D_bind (a := .type "dict") (s₁ := stL life gens drawn os (A ++ dObj es n :: (R ++ [dObj sub k])) t) (p₁ := pos) ?_ ?_
    · exact D_cast (m := 1 + 0) (D_bind (f := fun o : Obj => pure o.cls) (D_loadPart (get_sub A R es n sub k t)) D_pure) rfl
    · exact D_eq isDict D_pure
  dsimp only
  rw [if_pos rfl]
  refine D_bind (a := some (.builtin "dict.__iter__")) (s₁ := stL life gens drawn os (A ++ dObj es n :: (R ++ [dObj sub k])) t) (p₁ := pos) ?_ ?_
  · unfold specialOf
    refine D_cast (m := 1 + 0) ?_ rfl
    refine D_bind (a := .type "dict") (s₁ := stL life gens drawn os (A ++ dObj es n :: (R ++ [dObj sub k])) t) (p₁ := pos) ?_ ?_
    · exact D_cast (m := 1 + 0) (D_bind (f := fun o : Obj => pure o.cls) (D_loadPart (get_sub A R es n sub k t)) D_pure) rfl
    · exact D_eq iterDict D_pure
  · have : ((some (Value.builtin "dict.__iter__")) == some (Value.builtin "dict.__iter__")) = true := beq_self_eq_true _
    rw [this]
    refine D_bind D_pure ?_
    dsimp only
    rw [hne']
    rw [if_neg Bool.false_ne_true]
    refine D_bind (a := es.toArray) (s₁ := stL life gens drawn os (A ++ dObj es n :: (R ++ [dObj sub k])) t) (p₁ := pos) (D_cast (m := 1 + 0) (D_bind (D_loadPart (get_at A es n _ t)) D_pure) rfl) ?_
    rw [if_neg (by simpa using hne)]
    refine D_bind (a := sub.toArray) (s₁ := stL life gens drawn os (A ++ dObj es n :: (R ++ [dObj sub k])) t) (p₁ := pos) (D_cast (m := 1 + 0) (D_bind (D_loadPart (get_sub A R es n sub k t)) D_pure) rfl) ?_
    refine D_bind (a := k) (s₁ := stL life gens drawn os (A ++ dObj es n :: (R ++ [dObj sub k])) t) (p₁ := pos) (D_cast (m := 1 + 0) (D_bind (D_loadPart (get_sub A R es n sub k t)) D_pure) rfl) ?_
    refine D_bind (a := PUnit.unit) ?_ D_pure
    rw [List.size_toArray, List.range_eq_range']
    refine D_mergeLoop (fun i e es n hi he hs hn => ?_) sub [] (lo := lo) rfl ha hb hl
    obtain ⟨k', tk, v, rfl⟩ := he
    refine D_cast (m := 1 + (4 + (1 + 0))) ?_ rfl
    refine D_bind (a := sub.toArray) (D_cast (m := 1 + 0) (D_bind (D_loadPart (get_sub A R es n sub k t)) D_pure) rfl) ?_
    rw [List.getElem?_toArray, hi]
    dsimp only
    rw [if_neg Bool.false_ne_true]
    refine D_bind (D_holding (D_dictPut hA hs hn)) ?_
    refine D_bind (a := k) (D_cast (m := 1 + 0) (D_bind (D_loadPart (get_sub A R _ _ sub k t)) D_pure) rfl) ?_
    rw [if_neg (by simp)]
    exact D_pure
end does
end T49
namespace T49
section does
variable {pr : Program} {w : World} {n₀ : Nat} {ann : Option Value} {q : Pos} {bd : List Stmt} {env : Env} {life : Life} {gens : Array GenState} {drawn : Drawn} {os : OsState} {pos : Pos}

noncomputable def vals : Nat → List (Nat × List Nat) → List (Value × Value)
  | _, [] => []
  | t, x :: r => (.int (x.1 : Int) t, .str ⟨x.2.toArray⟩ (t + 1)) :: vals (t + 2) r
theorem vals_length : ∀ (l : List (Nat × List Nat)) (t : Nat), (vals t l).length = l.length
  | [], _ => rfl
  | x :: l, t => by rw [vals, List.length_cons, List.length_cons, vals_length l]

theorem D_evalPairs {A : List Obj} : ∀ (l : List (Nat × List Nat)) {t : Nat}, Does pr w n₀ ann (.body bd env) q (3 * l.length) (evalPairs (l.map (pairOf pos))) (stL life gens drawn os A t) pos (vals t l) (stL life gens drawn os A (t + 2 * l.length)) pos
  | [], t => by
    simp only [List.map_nil, List.length_nil, Nat.mul_zero, Nat.add_zero, vals]
    unfold evalPairs
    exact D_pure
  | x :: l, t => by
    rw [List.map_cons, pairOf, evalPairs]
    refine D_cast (m := 1 + (2 + (3 * l.length + 0))) ?_ (by rw [List.length_cons]; (first | lia | omega))
    refine D_bind D_mkInt ?_
    refine D_bind (D_holding D_pairVal) ?_
    have k := D_evalPairs (A := A) l (t := t + 1 + 1)
    refine D_bind (D_holding k) ?_
    rw [show t + 2 * (x :: l).length = t + 1 + 1 + 2 * l.length by rw [List.length_cons]; (first | lia | omega)]
    exact D_pure

theorem D_storeLoop {A : List Obj} {f : Value × Value → PUnit → Sem (ForInStep PUnit)}
    (hf : ∀ (k : Nat) (tk : Tok) (v : Value) (es : List DictEntry) (n t : Nat), es.length < 5000 → k < 2 ^ 31 → noHash es k →
      Does pr w n₀ ann (.body bd env) q 10 (f (.int (k : Int) tk, v) PUnit.unit) (stL life gens drawn os (A ++ [dObj es n]) t) pos (.yield PUnit.unit) (stL life gens drawn os (A ++ [dObj (es ++ [⟨(k : Int), .int (k : Int) tk, v⟩]) (n + 1)]) (t + 1)) pos) :
    ∀ (l : List (Nat × List Nat)) {lo : Int} {es : List DictEntry} {n t u : Nat}, asc lo l → below es lo → es.length + l.length < 5000 →
      Does pr w n₀ ann (.body bd env) q (10 * l.length) (forIn (vals u l) PUnit.unit f) (stL life gens drawn os (A ++ [dObj es n]) t) pos PUnit.unit (stL life gens drawn os (A ++ [dObj (es ++ ents2 u l) (n + l.length)]) (t + l.length)) pos
  | [], _, es, n, t, u, _, _, _ => by
    simp only [ents2, vals, List.append_nil, List.length_nil, Nat.mul_zero, Nat.add_zero]
    exact D_forIn_nil
  | x :: l, lo, es, n, t, u, ha, hb, hs => by
    simp only [List.length_cons] at hs
    have k := D_storeLoop hf l (es := es ++ [ent u x]) (n := n + 1) (t := t + 1) (u := u + 2) ha.2.2 (below_snoc (e := ent u x) hb ha.1) (by simp only [List.length_append, List.length_cons, List.length_nil]; (first | lia | omega))
    have h := hf x.1 u (.str ⟨x.2.toArray⟩ (u + 1)) es n t (by (first | lia | omega)) ha.2.1 (below_noHash hb ha.1)
    have r := D_forIn_cons h k
    simp only [List.append_assoc, List.cons_append, List.nil_append] at r
    refine D_cast ?_ (show 10 + 10 * l.length = 10 * (x :: l).length by rw [List.length_cons]; (first | lia | omega))
    rw [show n + (x :: l).length = n + 1 + l.length by rw [List.length_cons]; (first | lia | omega), show t + (x :: l).length = t + 1 + l.length by rw [List.length_cons]; (first | lia | omega)]
    exact r

theorem D_subShort {A : List Obj} {l : List (Nat × List Nat)} {t : Nat} (hA : Nat.ble n₀ A.length = true) (ha : asc (-1) l) (h15 : l.length ≤ 15) :
    Does pr w n₀ ann (.body bd env) q (1 + 13 * l.length) (subDict (l.map (pairOf pos))) (stL life gens drawn os A t) pos A.length (stL life gens drawn os (A ++ [dObj (ents2 t l) l.length]) (t + 3 * l.length)) pos := by
  unfold subDict
  refine D_cast (m := 1 + (3 * l.length + 10 * l.length + 0)) ?_ (by (first | lia | omega))
  refine D_bind (a := A.length) (s₁ := stL life gens drawn os (A ++ [dObj [] 0]) t) (p₁ := pos) ?_ ?_
  · have := D_alloc (pr := pr) (w := w) (n₀ := n₀) (ann := ann) (c := .body bd env) (q := q) (o := { cls := .type "dict", data := .dict #[] }) (s := stL life gens drawn os A t) (p := pos)
    rw [size_at, push_at] at this
    exact this
  · refine D_bind (a := ()) (p₁ := pos) (s₁ := stL life gens drawn os (A ++ [dObj (ents2 t l) l.length]) (t + 3 * l.length)) ?_ D_pure
    refine D_holding ?_
    rw [if_pos (by rw [List.length_map]; (first | lia | omega))]
    refine D_bind (D_evalPairs l) ?_
    refine D_holding ?_
    have k := D_storeLoop (pr := pr) (w := w) (n₀ := n₀) (ann := ann) (q := q) (bd := bd) (env := env) (life := life) (gens := gens) (drawn := drawn) (os := os) (pos := pos) (A := A)
      (f := fun x _ => do dictSet A.length x.1 x.2; pure (ForInStep.yield PUnit.unit))
      (fun k tk v es n t he hx hn => by
        refine D_cast (m := 10 + 0) ?_ rfl
        refine D_bind (D_dictSet hA he hx hn) ?_
        exact D_pure) l (lo := -1) (es := []) (n := 0) (t := t + 2 * l.length) (u := t) ha (fun e he => (nomatch he)) (by simp only [List.length_nil]; (first | lia | omega))
    rw [Nat.zero_add, List.nil_append, show t + 2 * l.length + l.length = t + 3 * l.length by (first | lia | omega)] at k
    exact D_cast (D_bind k D_pure) (Nat.add_zero _)

noncomputable abbrev DispS := Option Addr × List (Sem Value × Sem Value)
noncomputable def conv (pos : Pos) (x : Nat × List Nat) : Option (Sem Value) × Sem Value := (some (pairOf pos x).1, (pairOf pos x).2)
structure Disp (pr : Program) (w : World) (n₀ : Nat) (ann : Option Value) (c : Code) (q : Pos) (pos : Pos) (f : Option (Sem Value) × Sem Value → DispS → Sem (ForInStep DispS)) : Prop where
  more : ∀ (x : Nat × List Nat) (main : Option Addr) (run : List (Sem Value × Sem Value)) (s : Shared) (p : Pos), run.length + 1 < 17 → Does pr w n₀ ann c q 0 (f (conv pos x) (main, run)) s p (.yield (main, run ++ [pairOf pos x])) s p
  first : ∀ (x : Nat × List Nat) (run : List (Sem Value × Sem Value)) (s : Shared) (p : Pos) (n : Nat) (d : Addr) (s' : Shared) (p' : Pos), run.length + 1 = 17 → Does pr w n₀ ann c q n (subDict (run ++ [pairOf pos x])) s p d s' p' →
    Does pr w n₀ ann c q n (f (conv pos x) (none, run)) s p (.yield (some d, [])) s' p'
  next : ∀ (x : Nat × List Nat) (d : Addr) (run : List (Sem Value × Sem Value)) (s : Shared) (p : Pos) (n m : Nat) (sub : Addr) (s₁ : Shared) (p₁ : Pos) (s' : Shared) (p' : Pos), run.length + 1 = 17 → Does pr w n₀ ann c q n (subDict (run ++ [pairOf pos x])) s p sub s₁ p₁ →
    Does pr w n₀ ann c q m (mergeMapping d (.ref sub) false) s₁ p₁ () s' p' → Does pr w n₀ ann c q (n + m) (f (conv pos x) (some d, run)) s p (.yield (some d, [])) s' p'

section
variable {c : Code} {f : Option (Sem Value) × Sem Value → DispS → Sem (ForInStep DispS)} (F : Disp pr w n₀ ann c q pos f)
include F
theorem D_gather {rest : List (Option (Sem Value) × Sem Value)} {main : Option Addr} {s s' : Shared} {p p' : Pos} {b : DispS} {n : Nat} :
    ∀ (l : List (Nat × List Nat)) (run : List (Sem Value × Sem Value)), run.length + l.length < 17 → Does pr w n₀ ann c q n (forIn rest (main, run ++ l.map (pairOf pos)) f) s p b s' p' → Does pr w n₀ ann c q n (forIn (l.map (conv pos) ++ rest) (main, run) f) s p b s' p'
  | [], run, _, h => by simpa using h
  | x :: l, run, hl, h => by
    simp only [List.length_cons] at hl
    rw [List.map_cons, List.cons_append]
    refine D_cast (m := 0 + n) ?_ (Nat.zero_add n)
    refine D_forIn_cons (F.more x main run s p (by (first | lia | omega))) ?_
    exact D_gather l (run ++ [pairOf pos x]) (by simp only [List.length_append, List.length_cons, List.length_nil]; (first | lia | omega)) (by simpa using h)
theorem D_gather_all {main : Option Addr} {s : Shared} {p : Pos} (l : List (Nat × List Nat)) (hl : l.length < 17) : Does pr w n₀ ann c q 0 (forIn (l.map (conv pos)) (main, []) f) s p (main, l.map (pairOf pos)) s p := by
  have := D_gather F (rest := []) (main := main) (s := s) (p := p) (b := (main, l.map (pairOf pos))) (n := 0) (s' := s) (p' := p) l [] (by simpa using hl) (by rw [List.nil_append]; exact D_forIn_nil)
  simpa using this
theorem D_first {rest : List (Option (Sem Value) × Sem Value)} {l : List (Nat × List Nat)} {s s₁ s' : Shared} {p p₁ p' : Pos} {b : DispS} {n m : Nat} {d : Addr} (hl : l.length = 17) (h : Does pr w n₀ ann c q n (subDict (l.map (pairOf pos))) s p d s₁ p₁)
    (k : Does pr w n₀ ann c q m (forIn rest (some d, []) f) s₁ p₁ b s' p') : Does pr w n₀ ann c q (n + m) (forIn (l.map (conv pos) ++ rest) (none, []) f) s p b s' p' := by
  have hne : l ≠ [] := by intro e; rw [e] at hl; cases hl
  have e : l = l.dropLast ++ [l.getLast hne] := (List.dropLast_concat_getLast hne).symm
  have hd : l.dropLast.length = 16 := by rw [List.length_dropLast, hl]
  rw [e, List.map_append, List.append_assoc]
  refine D_gather F _ _ (by rw [List.length_nil, hd]; decide) ?_
  rw [List.map_cons, List.map_nil, List.cons_append, List.nil_append, List.nil_append]
  refine D_forIn_cons (F.first _ _ s p n d s₁ p₁ (by rw [List.length_map, hd]) ?_) k
  rw [e, List.map_append] at h
  exact h
theorem D_next {rest : List (Option (Sem Value) × Sem Value)} {l : List (Nat × List Nat)} {s s₁ s₂ s' : Shared} {p p₁ p₂ p' : Pos} {b : DispS} {n n' m : Nat} {d sub : Addr} (hl : l.length = 17) (h : Does pr w n₀ ann c q n (subDict (l.map (pairOf pos))) s p sub s₁ p₁)
    (h' : Does pr w n₀ ann c q n' (mergeMapping d (.ref sub) false) s₁ p₁ () s₂ p₂) (k : Does pr w n₀ ann c q m (forIn rest (some d, []) f) s₂ p₂ b s' p') : Does pr w n₀ ann c q (n + n' + m) (forIn (l.map (conv pos) ++ rest) (some d, []) f) s p b s' p' := by
  have hne : l ≠ [] := by intro e; rw [e] at hl; cases hl
  have e : l = l.dropLast ++ [l.getLast hne] := (List.dropLast_concat_getLast hne).symm
  have hd : l.dropLast.length = 16 := by rw [List.length_dropLast, hl]
  rw [e, List.map_append, List.append_assoc]
  refine D_gather F _ _ (by rw [List.length_nil, hd]; decide) ?_
  rw [List.map_cons, List.map_nil, List.cons_append, List.nil_append, List.nil_append]
  refine D_forIn_cons (F.next _ d _ s p n n' sub s₁ p₁ s₂ p₂ (by rw [List.length_map, hd]) ?_ h') k
  rw [e, List.map_append] at h
  exact h
end

/-- the sub dicts of the middle chunks -/
noncomputable def subsOf : Nat → List (List (Nat × List Nat)) → List Obj
  | _, [] => []
  | t, ch :: r => dObj (ents t ch) ch.length :: subsOf (t + 51) r
theorem ents_append : ∀ (a b : List (Nat × List Nat)) (t : Nat), ents t (a ++ b) = ents t a ++ ents (t + 3 * a.length) b
  | [], b, t => rfl
  | x :: a, b, t => by
    rw [List.cons_append, ents, ents, ents_append a b (t + 3), List.cons_append, List.length_cons, show t + 3 + 3 * a.length = t + 3 * (a.length + 1) by (first | lia | omega)]
theorem asc_left : ∀ {a b : List (Nat × List Nat)} {lo : Int}, asc lo (a ++ b) → asc lo a
  | [], _, _, _ => trivial
  | x :: a, b, lo, h => ⟨h.1, h.2.1, asc_left h.2.2⟩
theorem asc_mono : ∀ {a : List (Nat × List Nat)} {lo lo' : Int}, asc lo a → lo' ≤ lo → asc lo' a
  | [], _, _, _, _ => trivial
  | x :: a, _, _, h, hl => ⟨Int.lt_of_le_of_lt hl h.1, h.2⟩
/-- the greatest key so far -/
noncomputable def top : Int → List (Nat × List Nat) → Int
  | lo, [] => lo
  | _, x :: r => top x.1 r
theorem asc_right : ∀ {a b : List (Nat × List Nat)} {lo : Int}, asc lo (a ++ b) → asc (top lo a) b
  | [], _, _, h => h
  | x :: a, b, lo, h => asc_right (a := a) h.2.2
theorem le_top : ∀ {a : List (Nat × List Nat)} {lo : Int}, asc lo a → lo ≤ top lo a
  | [], _, _ => Int.le_refl _
  | x :: a, lo, h => Int.le_trans (Int.le_of_lt h.1) (le_top h.2.2)
theorem below_top : ∀ {a : List (Nat × List Nat)} {lo : Int} {t : Nat}, asc lo a → below (ents t a) (top lo a)
  | [], _, _, _ => fun e he => (nomatch he)
  | x :: a, lo, t, h => fun e he => by
    rcases List.mem_cons.mp he with rfl | he
    · exact le_top h.2.2
    · exact below_top (a := a) h.2.2 e he
theorem below_app {es es' : List DictEntry} {lo lo' : Int} (h : below es lo) (h' : below es' lo') (hl : lo ≤ lo') : below (es ++ es') lo' := fun e he => by
  rcases List.mem_append.mp he with he | he
  · exact Int.le_trans (h e he) hl
  · exact h' e he

theorem D_chunks {f : Option (Sem Value) × Sem Value → DispS → Sem (ForInStep DispS)} (F : Disp pr w n₀ ann (.body bd env) q pos f) {A : List Obj} (hA : Nat.ble n₀ A.length = true) (hS : 1 < A.length) {rest : List (Option (Sem Value) × Sem Value)} {s' : Shared} {p' : Pos} {b : DispS} {m : Nat} :
    ∀ (cs : List (List (Nat × List Nat))) {R : List Obj} {es : List DictEntry} {n t : Nat} {lo : Int}, (∀ ch ∈ cs, ch.length = 17) → asc lo cs.flatten → -1 ≤ lo → below es lo → es ≠ [] → es.length + cs.flatten.length < 5000 →
      Does pr w n₀ ann (.body bd env) q m (forIn rest (some A.length, []) f) (stL life gens drawn os (A ++ dObj (es ++ ents t cs.flatten) (n + cs.flatten.length) :: (R ++ subsOf t cs)) (t + 51 * cs.length)) pos b s' p' →
      Does pr w n₀ ann (.body bd env) q (330 * cs.length + m) (forIn (cs.flatten.map (conv pos) ++ rest) (some A.length, []) f) (stL life gens drawn os (A ++ dObj es n :: R) t) pos b s' p'
  | [], R, es, n, t, lo, _, _, _, _, _, _, k => by
    simpa [ents, subsOf] using k
  | ch :: cs, R, es, n, t, lo, hc, ha, h1, hb, hne, hl, k => by
    have hch : ch.length = 17 := hc ch (List.mem_cons_self ..)
    rw [List.flatten_cons] at ha hl k ⊢
    rw [List.length_append, hch] at hl
    have ha1 := asc_left ha
    have ha2 := asc_right ha
    rw [List.map_append, List.append_assoc]
    have hsub := D_subDict (pr := pr) (w := w) (n₀ := n₀) (ann := ann) (q := q) (bd := bd) (env := env) (life := life) (gens := gens) (drawn := drawn) (os := os) (pos := pos) (A := A ++ dObj es n :: R) (l := ch) (t := t)
      (Nat.ble_eq_true_of_le (by have := Nat.le_of_ble_eq_true hA; simp only [List.length_append, List.length_cons]; (first | lia | omega))) (asc_mono ha1 h1) (by (first | lia | omega)) (by (first | lia | omega))
    simp only [List.append_assoc, List.cons_append, List.length_append, List.length_cons] at hsub
    rw [show A.length + (R.length + 1) = A.length + 1 + R.length by (first | lia | omega)] at hsub
    have hm := D_merge (pr := pr) (w := w) (n₀ := n₀) (ann := ann) (q := q) (bd := bd) (env := env) (life := life) (gens := gens) (drawn := drawn) (os := os) (A := A) (R := R) (es := es) (sub := ents t ch) (n := n) (k := ch.length) (t := t + 3 * ch.length) (pos := pos) hA hS hne (ascE_ents ch ha1) hb (by rw [ents_length]; (first | lia | omega))
    have hr := D_chunks F hA hS cs (R := R ++ [dObj (ents t ch) ch.length]) (es := es ++ ents t ch) (n := n + (ents t ch).length) (t := t + 3 * ch.length) (lo := top lo ch) (fun x hx => hc x (List.mem_cons_of_mem _ hx)) ha2
      (Int.le_trans h1 (le_top ha1)) (below_app hb (below_top ha1) (le_top ha1)) (by intro e; exact hne (List.append_eq_nil_iff.mp e).1) (by rw [List.length_append, ents_length]; (first | lia | omega))
      (by
        rw [ents_append, List.length_append] at k
        simp only [List.append_assoc, List.cons_append, List.nil_append, ents_length] at k ⊢
        rw [subsOf] at k
        rw [hch] at k ⊢
        rw [show t + 51 * (ch :: cs).length = t + 3 * 17 + 51 * cs.length by rw [List.length_cons]; (first | lia | omega), show n + (17 + cs.flatten.length) = n + 17 + cs.flatten.length by (first | lia | omega)] at k
        exact k)
    have z := D_next F hch hsub hm hr
    refine D_cast z ?_
    rw [ents_length, hch, List.length_cons]
    (first | lia | omega)

theorem D_display {A : List Obj} (hA : Nat.ble n₀ A.length = true) (hS : 1 < A.length) {c0 last : List (Nat × List Nat)} {cs : List (List (Nat × List Nat))} {t : Nat} (h0 : c0.length = 17) (hc : ∀ ch ∈ cs, ch.length = 17) (hl0 : last ≠ []) (hl : last.length ≤ 15)
    (ha : asc (-1) (c0 ++ (cs.flatten ++ last))) (hs : c0.length + cs.flatten.length + last.length < 5000) :
    Does pr w n₀ ann (.body bd env) q (223 + (330 * cs.length + (6 + 19 * last.length))) (dictDisplay ((c0 ++ (cs.flatten ++ last)).map (conv pos))) (stL life gens drawn os A t) pos (.ref A.length)
      (stL life gens drawn os (A ++ dObj (ents t (c0 ++ cs.flatten) ++ ents2 (t + 51 + 51 * cs.length) last) (17 + cs.flatten.length + last.length) :: (subsOf (t + 51) cs ++ [dObj (ents2 (t + 51 + 51 * cs.length) last) last.length])) (t + 51 + 51 * cs.length + 3 * last.length)) pos := by
  have ha0 := asc_left ha
  have ha12 := asc_right ha
  have ha1 := asc_left ha12
  have ha2 := asc_right ha12
  unfold dictDisplay
  dsimp only
  refine D_cast (m := (223 + (330 * cs.length + 0)) + ((6 + 19 * last.length) + 0)) ?_ (by (first | lia | omega))
  refine D_bind (a := (some A.length, last.map (pairOf pos))) (s₁ := stL life gens drawn os (A ++ dObj (ents t (c0 ++ cs.flatten)) (17 + cs.flatten.length) :: subsOf (t + 51) cs) (t + 51 + 51 * cs.length)) (p₁ := pos) ?_ ?_
  · have key : ∀ f, Disp pr w n₀ ann (.body bd env) q pos f → Does pr w n₀ ann (.body bd env) q (223 + (330 * cs.length + 0)) (forIn ((c0 ++ (cs.flatten ++ last)).map (conv pos)) ((none, []) : DispS) f) (stL life gens drawn os A t) pos (some A.length, last.map (pairOf pos))
        (stL life gens drawn os (A ++ dObj (ents t (c0 ++ cs.flatten)) (17 + cs.flatten.length) :: subsOf (t + 51) cs) (t + 51 + 51 * cs.length)) pos := fun f F => by
      rw [List.map_append, List.map_append]
      have hsub := D_subDict (pr := pr) (w := w) (n₀ := n₀) (ann := ann) (q := q) (bd := bd) (env := env) (life := life) (gens := gens) (drawn := drawn) (os := os) (pos := pos) (A := A) (l := c0) (t := t) hA ha0 (by (first | lia | omega)) (by (first | lia | omega))
      rw [h0] at hsub
      refine D_first F h0 hsub ?_
      have hr := D_chunks F (life := life) (gens := gens) (drawn := drawn) (os := os) hA hS (rest := last.map (conv pos)) (b := (some A.length, last.map (pairOf pos))) (m := 0) (p' := pos) (s' := stL life gens drawn os (A ++ dObj (ents t c0 ++ ents (t + 51) cs.flatten) (17 + cs.flatten.length) :: ([] ++ subsOf (t + 51) cs)) (t + 51 + 51 * cs.length))
        cs (R := []) (es := ents t c0) (n := 17) (t := t + 51) (lo := top (-1) c0) hc ha1 (le_top ha0) (below_top ha0) (by intro e; have := congrArg List.length e; rw [ents_length, h0] at this; cases this) (by rw [ents_length]; (first | lia | omega))
        (D_gather_all F last (by (first | lia | omega)))
      rw [List.nil_append] at hr
      rw [ents_append, h0]
      exact hr
    refine key _ ⟨?_, ?_, ?_⟩
    · intro x main run s p hr
      dsimp only [conv]
      rw [if_neg (by simp only [List.length_append, List.length_cons, List.length_nil, beq_iff_eq]; (first | lia | omega))]
      exact D_pure
    · intro x run s p n d s' p' hr h
      dsimp only [conv]
      rw [if_pos (by simp only [List.length_append, List.length_cons, List.length_nil, beq_iff_eq]; (first | lia | omega)), if_neg (by simp)]
      refine D_cast (m := (n + 0) + 0) ?_ rfl
      exact D_bind (D_bind h D_pure) D_pure
    · intro x d run s p n m sub s₁ p₁ s' p' hr h h'
      dsimp only [conv]
      rw [if_pos (by simp only [List.length_append, List.length_cons, List.length_nil, beq_iff_eq]; (first | lia | omega)), if_neg (by simp)]
      refine D_cast (m := (n + (m + 0)) + 0) ?_ rfl
      exact D_bind (D_bind (D_holding h) (D_bind (D_onRaise (D_holding h')) D_pure)) D_pure
  · have hne : (last.map (pairOf pos)).isEmpty = false := by
      cases last with
      | nil => exact absurd rfl hl0
      | cons => rfl
    have hsub := D_subShort (pr := pr) (w := w) (n₀ := n₀) (ann := ann) (q := q) (bd := bd) (env := env) (life := life) (gens := gens) (drawn := drawn) (os := os) (pos := pos) (A := A ++ dObj (ents t (c0 ++ cs.flatten)) (17 + cs.flatten.length) :: subsOf (t + 51) cs) (l := last) (t := t + 51 + 51 * cs.length)
      (Nat.ble_eq_true_of_le (by have := Nat.le_of_ble_eq_true hA; simp only [List.length_append, List.length_cons]; (first | lia | omega))) (asc_mono ha2 (Int.le_trans (le_top ha0) (le_top ha1))) hl
    simp only [List.append_assoc, List.cons_append, List.length_append, List.length_cons] at hsub
    rw [show A.length + ((subsOf (t + 51) cs).length + 1) = A.length + 1 + (subsOf (t + 51) cs).length by (first | lia | omega)] at hsub
    have hb : below (ents t (c0 ++ cs.flatten)) (top (top (-1) c0) cs.flatten) := by
      rw [ents_append]
      exact below_app (below_top ha0) (below_top ha1) (le_top ha1)
    have hm := D_merge (pr := pr) (w := w) (n₀ := n₀) (ann := ann) (q := q) (bd := bd) (env := env) (life := life) (gens := gens) (drawn := drawn) (os := os) (A := A) (R := subsOf (t + 51) cs) (es := ents t (c0 ++ cs.flatten)) (sub := ents2 (t + 51 + 51 * cs.length) last) (n := 17 + cs.flatten.length) (k := last.length) (t := t + 51 + 51 * cs.length + 3 * last.length) (pos := pos) hA hS
      (by intro e; have := congrArg List.length e; rw [ents_length, List.length_append, h0] at this; simp at this) (ascE_ents2 last ha2) hb (by rw [ents_length, ents2_length, List.length_append]; (first | lia | omega))
    rw [ents2_length] at hm
    refine D_bind (a := some A.length) (p₁ := pos) (s₁ := stL life gens drawn os (A ++ dObj (ents t (c0 ++ cs.flatten) ++ ents2 (t + 51 + 51 * cs.length) last) (17 + cs.flatten.length + last.length) :: (subsOf (t + 51) cs ++ [dObj (ents2 (t + 51 + 51 * cs.length) last) last.length])) (t + 51 + 51 * cs.length + 3 * last.length)) ?_ D_pure
    rw [if_neg (by rw [hne]; exact Bool.false_ne_true)]
    refine D_cast (m := (1 + 13 * last.length) + ((5 + 6 * last.length) + 0)) ?_ (by (first | lia | omega))
    exact D_bind (D_holding hsub) (D_bind (D_onRaise (D_holding hm)) D_pure)
end does
end T49
namespace T49
noncomputable section
noncomputable abbrev pw : Program := PySem.Challenge.pw_tp0049_01
noncomputable def b3raw : List (Nat × List Nat) := [(181, [956]), (223, [115, 115]), (304, [105, 775]), (329, [700, 110]), (383, [115]), (496, [106, 780]), (837, [953]), (890, [32, 953]), (912, [953, 776, 769]), (944, [965, 776, 769]), (962, [963]), (976, [946]), (977, [952]), (978, [965]), (979, [973]), (980, [971]), (981, [966]), (982, [960]), (1008, [954]), (1009, [961]), (1010, [963]), (1013, [949]), (1415, [1381, 1410]), (7830, [104, 817]), (7831, [116, 776]), (7832, [119, 778]), (7833, [121, 778]), (7834, [97, 702]), (7835, [7777]), (8016, [965, 787]), (8018, [965, 787, 768]), (8020, [965, 787, 769]), (8022, [965, 787, 834]), (8064, [7936, 953]), (8065, [7937, 953]), (8066, [7938, 953]), (8067, [7939, 953]), (8068, [7940, 953]), (8069, [7941, 953]), (8070, [7942, 953]), (8071, [7943, 953]), (8072, [7936, 953]), (8073, [7937, 953]), (8074, [7938, 953]), (8075, [7939, 953]), (8076, [7940, 953]), (8077, [7941, 953]), (8078, [7942, 953]), (8079, [7943, 953]), (8080, [7968, 953]), (8081, [7969, 953]), (8082, [7970, 953]), (8083, [7971, 953]), (8084, [7972, 953]), (8085, [7973, 953]), (8086, [7974, 953]), (8087, [7975, 953]), (8088, [7968, 953]), (8089, [7969, 953]), (8090, [7970, 953]), (8091, [7971, 953]), (8092, [7972, 953]), (8093, [7973, 953]), (8094, [7974, 953]), (8095, [7975, 953]), (8096, [8032, 953]), (8097, [8033, 953]), (8098, [8034, 953]), (8099, [8035, 953]), (8100, [8036, 953]), (8101, [8037, 953]), (8102, [8038, 953]), (8103, [8039, 953]), (8104, [8032, 953]), (8105, [8033, 953]), (8106, [8034, 953]), (8107, [8035, 953]), (8108, [8036, 953]), (8109, [8037, 953]), (8110, [8038, 953]), (8111, [8039, 953]), (8114, [8048, 953]), (8115, [945, 953]), (8116, [940, 953]), (8118, [945, 834]), (8119, [945, 834, 953]), (8124, [945, 953]), (8126, [953]), (8130, [8052, 953]), (8131, [951, 953]), (8132, [942, 953]), (8134, [951, 834]), (8135, [951, 834, 953]), (8140, [951, 953]), (8146, [953, 776, 768]), (8147, [953, 776, 769]), (8150, [953, 834]), (8151, [953, 776, 834]), (8162, [965, 776, 768]), (8163, [965, 776, 769]), (8164, [961, 787]), (8166, [965, 834]), (8167, [965, 776, 834]), (8178, [8060, 953]), (8179, [969, 953]), (8180, [974, 953]), (8182, [969, 834]), (8183, [969, 834, 953]), (8188, [969, 953]), (8360, [114, 115]), (8450, [99]), (8451, [176, 99]), (8455, [603]), (8457, [176, 102]), (8459, [104]), (8460, [104]), (8461, [104]), (8464, [105]), (8465, [105]), (8466, [108]), (8469, [110]), (8470, [110, 111]), (8473, [112]), (8474, [113]), (8475, [114]), (8476, [114]), (8477, [114]), (8480, [115, 109]), (8481, [116, 101, 108]), (8482, [116, 109]), (8484, [122]), (8488, [122]), (8492, [98]), (8493, [99]), (8496, [101]), (8497, [102]), (8499, [109]), (8510, [947]), (8511, [960]), (8517, [100]), (13169, [104, 112, 97]), (13171, [97, 117]), (13173, [111, 118]), (13184, [112, 97]), (13185, [110, 97]), (13186, [956, 97]), (13187, [109, 97]), (13188, [107, 97]), (13189, [107, 98]), (13190, [109, 98]), (13191, [103, 98]), (13194, [112, 102]), (13195, [110, 102]), (13196, [956, 102]), (13200, [104, 122]), (13201, [107, 104, 122]), (13202, [109, 104, 122]), (13203, [103, 104, 122]), (13204, [116, 104, 122]), (13225, [112, 97]), (13226, [107, 112, 97]), (13227, [109, 112, 97]), (13228, [103, 112, 97]), (13236, [112, 118]), (13237, [110, 118]), (13238, [956, 118]), (13239, [109, 118]), (13240, [107, 118]), (13241, [109, 118]), (13242, [112, 119]), (13243, [110, 119]), (13244, [956, 119]), (13245, [109, 119]), (13246, [107, 119]), (13247, [109, 119]), (13248, [107, 969]), (13249, [109, 969]), (13251, [98, 113]), (13254, [99, 8725, 107, 103]), (13255, [99, 111, 46]), (13256, [100, 98]), (13257, [103, 121]), (13259, [104, 112]), (13261, [107, 107]), (13262, [107, 109]), (13271, [112, 104]), (13273, [112, 112, 109]), (13274, [112, 114]), (13276, [115, 118]), (13277, [119, 98]), (64256, [102, 102]), (64257, [102, 105]), (64258, [102, 108]), (64259, [102, 102, 105]), (64260, [102, 102, 108]), (64261, [115, 116]), (64262, [115, 116]), (64275, [1396, 1398]), (64276, [1396, 1381]), (64277, [1396, 1387]), (64278, [1406, 1398]), (64279, [1396, 1389]), (119808, [97]), (119809, [98]), (119810, [99]), (119811, [100]), (119812, [101]), (119813, [102]), (119814, [103]), (119815, [104]), (119816, [105]), (119817, [106]), (119818, [107]), (119819, [108]), (119820, [109]), (119821, [110]), (119822, [111]), (119823, [112]), (119824, [113]), (119825, [114]), (119826, [115]), (119827, [116]), (119828, [117]), (119829, [118]), (119830, [119]), (119831, [120]), (119832, [121]), (119833, [122]), (119860, [97]), (119861, [98]), (119862, [99]), (119863, [100]), (119864, [101]), (119865, [102]), (119866, [103]), (119867, [104]), (119868, [105]), (119869, [106]), (119870, [107]), (119871, [108]), (119872, [109]), (119873, [110]), (119874, [111]), (119875, [112]), (119876, [113]), (119877, [114]), (119878, [115]), (119879, [116]), (119880, [117]), (119881, [118]), (119882, [119]), (119883, [120]), (119884, [121]), (119885, [122]), (119912, [97]), (119913, [98]), (119914, [99]), (119915, [100]), (119916, [101]), (119917, [102]), (119918, [103]), (119919, [104]), (119920, [105]), (119921, [106]), (119922, [107]), (119923, [108]), (119924, [109]), (119925, [110]), (119926, [111]), (119927, [112]), (119928, [113]), (119929, [114]), (119930, [115]), (119931, [116]), (119932, [117]), (119933, [118]), (119934, [119]), (119935, [120]), (119936, [121]), (119937, [122]), (119964, [97]), (119966, [99]), (119967, [100]), (119970, [103]), (119973, [106]), (119974, [107]), (119977, [110]), (119978, [111]), (119979, [112]), (119980, [113]), (119982, [115]), (119983, [116]), (119984, [117]), (119985, [118]), (119986, [119]), (119987, [120]), (119988, [121]), (119989, [122]), (120016, [97]), (120017, [98]), (120018, [99]), (120019, [100]), (120020, [101]), (120021, [102]), (120022, [103]), (120023, [104]), (120024, [105]), (120025, [106]), (120026, [107]), (120027, [108]), (120028, [109]), (120029, [110]), (120030, [111]), (120031, [112]), (120032, [113]), (120033, [114]), (120034, [115]), (120035, [116]), (120036, [117]), (120037, [118]), (120038, [119]), (120039, [120]), (120040, [121]), (120041, [122]), (120068, [97]), (120069, [98]), (120071, [100]), (120072, [101]), (120073, [102]), (120074, [103]), (120077, [106]), (120078, [107]), (120079, [108]), (120080, [109]), (120081, [110]), (120082, [111]), (120083, [112]), (120084, [113]), (120086, [115]), (120087, [116]), (120088, [117]), (120089, [118]), (120090, [119]), (120091, [120]), (120092, [121]), (120120, [97]), (120121, [98]), (120123, [100]), (120124, [101]), (120125, [102]), (120126, [103]), (120128, [105]), (120129, [106]), (120130, [107]), (120131, [108]), (120132, [109]), (120134, [111]), (120138, [115]), (120139, [116]), (120140, [117]), (120141, [118]), (120142, [119]), (120143, [120]), (120144, [121]), (120172, [97]), (120173, [98]), (120174, [99]), (120175, [100]), (120176, [101]), (120177, [102]), (120178, [103]), (120179, [104]), (120180, [105]), (120181, [106]), (120182, [107]), (120183, [108]), (120184, [109]), (120185, [110]), (120186, [111]), (120187, [112]), (120188, [113]), (120189, [114]), (120190, [115]), (120191, [116]), (120192, [117]), (120193, [118]), (120194, [119]), (120195, [120]), (120196, [121]), (120197, [122]), (120224, [97]), (120225, [98]), (120226, [99]), (120227, [100]), (120228, [101]), (120229, [102]), (120230, [103]), (120231, [104]), (120232, [105]), (120233, [106]), (120234, [107]), (120235, [108]), (120236, [109]), (120237, [110]), (120238, [111]), (120239, [112]), (120240, [113]), (120241, [114]), (120242, [115]), (120243, [116]), (120244, [117]), (120245, [118]), (120246, [119]), (120247, [120]), (120248, [121]), (120249, [122]), (120276, [97]), (120277, [98]), (120278, [99]), (120279, [100]), (120280, [101]), (120281, [102]), (120282, [103]), (120283, [104]), (120284, [105]), (120285, [106]), (120286, [107]), (120287, [108]), (120288, [109]), (120289, [110]), (120290, [111]), (120291, [112]), (120292, [113]), (120293, [114]), (120294, [115]), (120295, [116]), (120296, [117]), (120297, [118]), (120298, [119]), (120299, [120]), (120300, [121]), (120301, [122]), (120328, [97]), (120329, [98]), (120330, [99]), (120331, [100]), (120332, [101]), (120333, [102]), (120334, [103]), (120335, [104]), (120336, [105]), (120337, [106]), (120338, [107]), (120339, [108]), (120340, [109]), (120341, [110]), (120342, [111]), (120343, [112]), (120344, [113]), (120345, [114]), (120346, [115]), (120347, [116]), (120348, [117]), (120349, [118]), (120350, [119]), (120351, [120]), (120352, [121]), (120353, [122]), (120380, [97]), (120381, [98]), (120382, [99]), (120383, [100]), (120384, [101]), (120385, [102]), (120386, [103]), (120387, [104]), (120388, [105]), (120389, [106]), (120390, [107]), (120391, [108]), (120392, [109]), (120393, [110]), (120394, [111]), (120395, [112]), (120396, [113]), (120397, [114]), (120398, [115]), (120399, [116]), (120400, [117]), (120401, [118]), (120402, [119]), (120403, [120]), (120404, [121]), (120405, [122]), (120432, [97]), (120433, [98]), (120434, [99]), (120435, [100]), (120436, [101]), (120437, [102]), (120438, [103]), (120439, [104]), (120440, [105]), (120441, [106]), (120442, [107]), (120443, [108]), (120444, [109]), (120445, [110]), (120446, [111]), (120447, [112]), (120448, [113]), (120449, [114]), (120450, [115]), (120451, [116]), (120452, [117]), (120453, [118]), (120454, [119]), (120455, [120]), (120456, [121]), (120457, [122]), (120488, [945]), (120489, [946]), (120490, [947]), (120491, [948]), (120492, [949]), (120493, [950]), (120494, [951]), (120495, [952]), (120496, [953]), (120497, [954]), (120498, [955]), (120499, [956]), (120500, [957]), (120501, [958]), (120502, [959]), (120503, [960]), (120504, [961]), (120505, [952]), (120506, [963]), (120507, [964]), (120508, [965]), (120509, [966]), (120510, [967]), (120511, [968]), (120512, [969]), (120531, [963]), (120546, [945]), (120547, [946]), (120548, [947]), (120549, [948]), (120550, [949]), (120551, [950]), (120552, [951]), (120553, [952]), (120554, [953]), (120555, [954]), (120556, [955]), (120557, [956]), (120558, [957]), (120559, [958]), (120560, [959]), (120561, [960]), (120562, [961]), (120563, [952]), (120564, [963]), (120565, [964]), (120566, [965]), (120567, [966]), (120568, [967]), (120569, [968]), (120570, [969]), (120589, [963]), (120604, [945]), (120605, [946]), (120606, [947]), (120607, [948]), (120608, [949]), (120609, [950]), (120610, [951]), (120611, [952]), (120612, [953]), (120613, [954]), (120614, [955]), (120615, [956]), (120616, [957]), (120617, [958]), (120618, [959]), (120619, [960]), (120620, [961]), (120621, [952]), (120622, [963]), (120623, [964]), (120624, [965]), (120625, [966]), (120626, [967]), (120627, [968]), (120628, [969]), (120647, [963]), (120662, [945]), (120663, [946]), (120664, [947]), (120665, [948]), (120666, [949]), (120667, [950]), (120668, [951]), (120669, [952]), (120670, [953]), (120671, [954]), (120672, [955]), (120673, [956]), (120674, [957]), (120675, [958]), (120676, [959]), (120677, [960]), (120678, [961]), (120679, [952]), (120680, [963]), (120681, [964]), (120682, [965]), (120683, [966]), (120684, [967]), (120685, [968]), (120686, [969]), (120705, [963]), (120720, [945]), (120721, [946]), (120722, [947]), (120723, [948]), (120724, [949]), (120725, [950]), (120726, [951]), (120727, [952]), (120728, [953]), (120729, [954]), (120730, [955]), (120731, [956]), (120732, [957]), (120733, [958]), (120734, [959]), (120735, [960]), (120736, [961]), (120737, [952]), (120738, [963]), (120739, [964]), (120740, [965]), (120741, [966]), (120742, [967]), (120743, [968]), (120744, [969]), (120763, [963])]
noncomputable def tabEntries : List DictEntry := ents 323 (b3raw.take 646) ++ ents2 2261 (b3raw.drop 646)
noncomputable def o77 : Obj := dObj tabEntries 650
noncomputable def o77d (_ : Params) : Obj := o77
noncomputable def subObj (j : Nat) : Obj := dObj (ents (323 + 51 * j) ((b3raw.drop (17 * j)).take 17)) 17
noncomputable def subLast : Obj := dObj (ents2 2261 (b3raw.drop 646)) 4
noncomputable def setEs : Array (Int × Value) := #[(65024, (Value.int 65024 272)), (65025, (Value.int 65025 273)), (65026, (Value.int 65026 274)), (65027, (Value.int 65027 275)), (65028, (Value.int 65028 276)), (65029, (Value.int 65029 277)), (6150, (Value.int 6150 258)), (65030, (Value.int 65030 278)), (65031, (Value.int 65031 279)), (65032, (Value.int 65032 280)), (65033, (Value.int 65033 281)), (6155, (Value.int 6155 259)), (6156, (Value.int 6156 260)), (6157, (Value.int 6157 261)), (8203, (Value.int 8203 262)), (8204, (Value.int 8204 263)), (8205, (Value.int 8205 264)), (65034, (Value.int 65034 282)), (65035, (Value.int 65035 283)), (65036, (Value.int 65036 284)), (65037, (Value.int 65037 285)), (65038, (Value.int 65038 286)), (65039, (Value.int 65039 287)), (173, (Value.int 173 256)), (847, (Value.int 847 257)), (8288, (Value.int 8288 265)), (65279, (Value.int 65279 266))]
noncomputable def o66 (P : Params) : Obj := ⟨.type "set", none, .set setEs 29 ⟨127, #[0, 1, 2, 3, 4, 5, 6, 7, 8, 9, 10, 11, 12, 13, 14, 15, 16, 17, 18, 19, 20, 21, 22, 45, 79, 96, 127], #[], 0, !P.followText "set-order", 2, true⟩, #[]⟩
noncomputable def oS1 (_ : Params) : Obj := subObj 1
noncomputable def oS2 (_ : Params) : Obj := subObj 2
noncomputable def oS3 (_ : Params) : Obj := subObj 3
noncomputable def oS4 (_ : Params) : Obj := subObj 4
noncomputable def oS5 (_ : Params) : Obj := subObj 5
noncomputable def oS6 (_ : Params) : Obj := subObj 6
noncomputable def oS7 (_ : Params) : Obj := subObj 7
noncomputable def oS8 (_ : Params) : Obj := subObj 8
noncomputable def oS9 (_ : Params) : Obj := subObj 9
noncomputable def oS10 (_ : Params) : Obj := subObj 10
noncomputable def oS11 (_ : Params) : Obj := subObj 11
noncomputable def oS12 (_ : Params) : Obj := subObj 12
noncomputable def oS13 (_ : Params) : Obj := subObj 13
noncomputable def oS14 (_ : Params) : Obj := subObj 14
noncomputable def oS15 (_ : Params) : Obj := subObj 15
noncomputable def oS16 (_ : Params) : Obj := subObj 16
noncomputable def oS17 (_ : Params) : Obj := subObj 17
noncomputable def oS18 (_ : Params) : Obj := subObj 18
noncomputable def oS19 (_ : Params) : Obj := subObj 19
noncomputable def oS20 (_ : Params) : Obj := subObj 20
noncomputable def oS21 (_ : Params) : Obj := subObj 21
noncomputable def oS22 (_ : Params) : Obj := subObj 22
noncomputable def oS23 (_ : Params) : Obj := subObj 23
noncomputable def oS24 (_ : Params) : Obj := subObj 24
noncomputable def oS25 (_ : Params) : Obj := subObj 25
noncomputable def oS26 (_ : Params) : Obj := subObj 26
noncomputable def oS27 (_ : Params) : Obj := subObj 27
noncomputable def oS28 (_ : Params) : Obj := subObj 28
noncomputable def oS29 (_ : Params) : Obj := subObj 29
noncomputable def oS30 (_ : Params) : Obj := subObj 30
noncomputable def oS31 (_ : Params) : Obj := subObj 31
noncomputable def oS32 (_ : Params) : Obj := subObj 32
noncomputable def oS33 (_ : Params) : Obj := subObj 33
noncomputable def oS34 (_ : Params) : Obj := subObj 34
noncomputable def oS35 (_ : Params) : Obj := subObj 35
noncomputable def oS36 (_ : Params) : Obj := subObj 36
noncomputable def oS37 (_ : Params) : Obj := subObj 37
noncomputable def oS38 (_ : Params) : Obj := subLast
noncomputable def stAt : List Stmt → Nat → Stmt
  | [], _ => .Pass ⟨0, 0, 0, 0⟩
  | s :: _, 0 => s
  | _ :: r, n + 1 => stAt r n
noncomputable def recOf : Stmt → DefRec
  | .FunctionDef n ar bd _ _ _ sc _ _ po => ⟨n, ar, bd, sc, po⟩
  | _ => ⟨Str.ofString "", ⟨[], [], none, [], [], none, []⟩, [], { kind := .function, names := [], isGenerator := false, isCoroutine := false }, ⟨0, 0, 0, 0⟩⟩
noncomputable abbrev st1 : Stmt := by
  refine' (?F : (d : Stmt) → @Eq Stmt (stAt PySem.Challenge.pw_tp0049_01.main.body 1) d → Stmt) _ (by dsimp only [PySem.Challenge.pw_tp0049_01, stAt])
  exact fun d _ => d
noncomputable abbrev st2 : Stmt := by
  refine' (?F : (d : Stmt) → @Eq Stmt (stAt PySem.Challenge.pw_tp0049_01.main.body 2) d → Stmt) _ (by dsimp only [PySem.Challenge.pw_tp0049_01, stAt])
  exact fun d _ => d
noncomputable abbrev st3 : Stmt := by
  refine' (?F : (d : Stmt) → @Eq Stmt (stAt PySem.Challenge.pw_tp0049_01.main.body 3) d → Stmt) _ (by dsimp only [PySem.Challenge.pw_tp0049_01, stAt])
  exact fun d _ => d
noncomputable abbrev st4 : Stmt := by
  refine' (?F : (d : Stmt) → @Eq Stmt (stAt PySem.Challenge.pw_tp0049_01.main.body 4) d → Stmt) _ (by dsimp only [PySem.Challenge.pw_tp0049_01, stAt])
  exact fun d _ => d
noncomputable abbrev st7 : Stmt := by
  refine' (?F : (d : Stmt) → @Eq Stmt (stAt PySem.Challenge.pw_tp0049_01.main.body 7) d → Stmt) _ (by dsimp only [PySem.Challenge.pw_tp0049_01, stAt])
  exact fun d _ => d
noncomputable abbrev st9 : Stmt := by
  refine' (?F : (d : Stmt) → @Eq Stmt (stAt PySem.Challenge.pw_tp0049_01.main.body 9) d → Stmt) _ (by dsimp only [PySem.Challenge.pw_tp0049_01, stAt])
  exact fun d _ => d
noncomputable abbrev st11 : Stmt := by
  refine' (?F : (d : Stmt) → @Eq Stmt (stAt PySem.Challenge.pw_tp0049_01.main.body 11) d → Stmt) _ (by dsimp only [PySem.Challenge.pw_tp0049_01, stAt])
  exact fun d _ => d
noncomputable abbrev st12 : Stmt := by
  refine' (?F : (d : Stmt) → @Eq Stmt (stAt PySem.Challenge.pw_tp0049_01.main.body 12) d → Stmt) _ (by dsimp only [PySem.Challenge.pw_tp0049_01, stAt])
  exact fun d _ => d
noncomputable abbrev st13 : Stmt := by
  refine' (?F : (d : Stmt) → @Eq Stmt (stAt PySem.Challenge.pw_tp0049_01.main.body 13) d → Stmt) _ (by dsimp only [PySem.Challenge.pw_tp0049_01, stAt])
  exact fun d _ => d
noncomputable abbrev st14 : Stmt := by
  refine' (?F : (d : Stmt) → @Eq Stmt (stAt PySem.Challenge.pw_tp0049_01.main.body 14) d → Stmt) _ (by dsimp only [PySem.Challenge.pw_tp0049_01, stAt])
  exact fun d _ => d
noncomputable abbrev st15 : Stmt := by
  refine' (?F : (d : Stmt) → @Eq Stmt (stAt PySem.Challenge.pw_tp0049_01.main.body 15) d → Stmt) _ (by dsimp only [PySem.Challenge.pw_tp0049_01, stAt])
  exact fun d _ => d
noncomputable abbrev st17 : Stmt := by
  refine' (?F : (d : Stmt) → @Eq Stmt (stAt PySem.Challenge.pw_tp0049_01.main.body 17) d → Stmt) _ (by dsimp only [PySem.Challenge.pw_tp0049_01, stAt])
  exact fun d _ => d
noncomputable abbrev st18 : Stmt := by
  refine' (?F : (d : Stmt) → @Eq Stmt (stAt PySem.Challenge.pw_tp0049_01.main.body 18) d → Stmt) _ (by dsimp only [PySem.Challenge.pw_tp0049_01, stAt])
  exact fun d _ => d
noncomputable abbrev st19 : Stmt := by
  refine' (?F : (d : Stmt) → @Eq Stmt (stAt PySem.Challenge.pw_tp0049_01.main.body 19) d → Stmt) _ (by dsimp only [PySem.Challenge.pw_tp0049_01, stAt])
  exact fun d _ => d
noncomputable abbrev st20 : Stmt := by
  refine' (?F : (d : Stmt) → @Eq Stmt (stAt PySem.Challenge.pw_tp0049_01.main.body 20) d → Stmt) _ (by dsimp only [PySem.Challenge.pw_tp0049_01, stAt])
  exact fun d _ => d
noncomputable abbrev st21 : Stmt := by
  refine' (?F : (d : Stmt) → @Eq Stmt (stAt PySem.Challenge.pw_tp0049_01.main.body 21) d → Stmt) _ (by dsimp only [PySem.Challenge.pw_tp0049_01, stAt])
  exact fun d _ => d
noncomputable abbrev rec4 : DefRec := by
  refine' (?F : (d : DefRec) → @Eq DefRec (recOf st4) d → DefRec) _ (by dsimp only [st4, recOf])
  exact fun d _ => d
noncomputable abbrev rec7 : DefRec := by
  refine' (?F : (d : DefRec) → @Eq DefRec (recOf st7) d → DefRec) _ (by dsimp only [st7, recOf])
  exact fun d _ => d
noncomputable abbrev rec9 : DefRec := by
  refine' (?F : (d : DefRec) → @Eq DefRec (recOf st9) d → DefRec) _ (by dsimp only [st9, recOf])
  exact fun d _ => d
noncomputable abbrev rec14 : DefRec := by
  refine' (?F : (d : DefRec) → @Eq DefRec (recOf st14) d → DefRec) _ (by dsimp only [st14, recOf])
  exact fun d _ => d
noncomputable abbrev rec15 : DefRec := by
  refine' (?F : (d : DefRec) → @Eq DefRec (recOf st15) d → DefRec) _ (by dsimp only [st15, recOf])
  exact fun d _ => d
noncomputable abbrev rec17 : DefRec := by
  refine' (?F : (d : DefRec) → @Eq DefRec (recOf st17) d → DefRec) _ (by dsimp only [st17, recOf])
  exact fun d _ => d
noncomputable abbrev rec18 : DefRec := by
  refine' (?F : (d : DefRec) → @Eq DefRec (recOf st18) d → DefRec) _ (by dsimp only [st18, recOf])
  exact fun d _ => d
noncomputable abbrev rec19 : DefRec := by
  refine' (?F : (d : DefRec) → @Eq DefRec (recOf st19) d → DefRec) _ (by dsimp only [st19, recOf])
  exact fun d _ => d
noncomputable abbrev rec20 : DefRec := by
  refine' (?F : (d : DefRec) → @Eq DefRec (recOf st20) d → DefRec) _ (by dsimp only [st20, recOf])
  exact fun d _ => d
noncomputable abbrev rec21 : DefRec := by
  refine' (?F : (d : DefRec) → @Eq DefRec (recOf st21) d → DefRec) _ (by dsimp only [st21, recOf])
  exact fun d _ => d
noncomputable abbrev kf58 : Obj := by
  refine' (?F : (d : Obj) → @Eq Obj ((Obj.mk (Value.type "function") none (Data.func (FuncData.mk (Str.ofString "parse229") (Str.ofString "parse229") rec4.params (FuncBody.stmts rec4.body) rec4.scope 3 [] Value.none Value.none Value.none (Value.str (Str.ofString "cpy313.ftplib") 187) none (Value.ref 57) Value.none 0)) #[])) d → Obj) _ (by dsimp only [rec4])
  exact fun d _ => d
noncomputable abbrev kf76 : Obj := by
  refine' (?F : (d : Obj) → @Eq Obj ((Obj.mk (Value.type "function") none (Data.func (FuncData.mk (Str.ofString "in_table_b1") (Str.ofString "in_table_b1") rec7.params (FuncBody.stmts rec7.body) rec7.scope 3 [] Value.none Value.none Value.none (Value.str (Str.ofString "cpy313.stringprep") 254) none (Value.ref 75) Value.none 0)) #[])) d → Obj) _ (by dsimp only [rec7])
  exact fun d _ => d
noncomputable abbrev kf122 : Obj := by
  refine' (?F : (d : Obj) → @Eq Obj ((Obj.mk (Value.type "function") none (Data.func (FuncData.mk (Str.ofString "map_table_b3") (Str.ofString "map_table_b3") rec9.params (FuncBody.stmts rec9.body) rec9.scope 3 [] Value.none Value.none Value.none (Value.str (Str.ofString "cpy313.stringprep") 254) none (Value.ref 121) Value.none 0)) #[])) d → Obj) _ (by dsimp only [rec9])
  exact fun d _ => d
noncomputable abbrev kf129 : Obj := by
  refine' (?F : (d : Obj) → @Eq Obj ((Obj.mk (Value.type "function") none (Data.func (FuncData.mk (Str.ofString "_substitution_cost") (Str.ofString "_substitution_cost") rec14.params (FuncBody.stmts rec14.body) rec14.scope 3 [] Value.none Value.none Value.none (Value.str (Str.ofString "cpy313.traceback") 2282) none (Value.ref 128) Value.none 0)) #[])) d → Obj) _ (by dsimp only [rec14])
  exact fun d _ => d
noncomputable abbrev kf136 : Obj := by
  refine' (?F : (d : Obj) → @Eq Obj ((Obj.mk (Value.type "function") none (Data.func (FuncData.mk (Str.ofString "_levenshtein_distance") (Str.ofString "_levenshtein_distance") rec15.params (FuncBody.stmts rec15.body) rec15.scope 3 [] Value.none Value.none Value.none (Value.str (Str.ofString "cpy313.traceback") 2282) none (Value.ref 135) Value.none 0)) #[])) d → Obj) _ (by dsimp only [rec15])
  exact fun d _ => d
noncomputable abbrev kf143 : Obj := by
  refine' (?F : (d : Obj) → @Eq Obj ((Obj.mk (Value.type "function") none (Data.func (FuncData.mk (Str.ofString "_law_forms") (Str.ofString "_law_forms") rec17.params (FuncBody.stmts rec17.body) rec17.scope 3 [] Value.none Value.none Value.none (Value.str (Str.ofString "law_tp0049_01") 2318) none (Value.ref 142) Value.none 0)) #[])) d → Obj) _ (by dsimp only [rec17])
  exact fun d _ => d
noncomputable abbrev kf150 : Obj := by
  refine' (?F : (d : Obj) → @Eq Obj ((Obj.mk (Value.type "function") none (Data.func (FuncData.mk (Str.ofString "_law_told") (Str.ofString "_law_told") rec18.params (FuncBody.stmts rec18.body) rec18.scope 3 [] Value.none Value.none Value.none (Value.str (Str.ofString "law_tp0049_01") 2318) none (Value.ref 149) Value.none 0)) #[])) d → Obj) _ (by dsimp only [rec18])
  exact fun d _ => d
noncomputable abbrev kf155 : Obj := by
  refine' (?F : (d : Obj) → @Eq Obj ((Obj.mk (Value.type "function") none (Data.func (FuncData.mk (Str.ofString "_law_prepared") (Str.ofString "_law_prepared") rec19.params (FuncBody.stmts rec19.body) rec19.scope 3 [] Value.none Value.none Value.none (Value.str (Str.ofString "law_tp0049_01") 2318) none (Value.ref 154) Value.none 0)) #[])) d → Obj) _ (by dsimp only [rec19])
  exact fun d _ => d
noncomputable abbrev kf160 : Obj := by
  refine' (?F : (d : Obj) → @Eq Obj ((Obj.mk (Value.type "function") none (Data.func (FuncData.mk (Str.ofString "_law_reply") (Str.ofString "_law_reply") rec20.params (FuncBody.stmts rec20.body) rec20.scope 3 [] Value.none Value.none Value.none (Value.str (Str.ofString "law_tp0049_01") 2318) none (Value.ref 159) Value.none 0)) #[])) d → Obj) _ (by dsimp only [rec20])
  exact fun d _ => d
noncomputable abbrev kf165 : Obj := by
  refine' (?F : (d : Obj) → @Eq Obj ((Obj.mk (Value.type "function") none (Data.func (FuncData.mk (Str.ofString "law") (Str.ofString "law") rec21.params (FuncBody.stmts rec21.body) rec21.scope 3 [] Value.none Value.none Value.none (Value.str (Str.ofString "law_tp0049_01") 2318) none (Value.ref 164) Value.none 0)) #[])) d → Obj) _ (by dsimp only [rec21])
  exact fun d _ => d
noncomputable def K (P : Params) : Frag := by
  refine' (?F : (d : Frag) → @Eq Frag ((nat_lit 2, (Obj.mk Value.none none (Data.dict #[(DictEntry.mk (PyData.keyHash P (Str.ofString "type.__subclasses__.Exception.0")) (Value.str (Str.ofString "type.__subclasses__.Exception.0") 205) (Value.int 24 0)), (DictEntry.mk (PyData.keyHash P (Str.ofString "type.__subclasses__.Exception.n")) (Value.str (Str.ofString "type.__subclasses__.Exception.n") 206) (Value.int 1 0))] 2) #[])) ::
  (nat_lit 3, (Obj.mk (Value.type "dict") none (Data.dict #[(DictEntry.mk (PyData.keyHash P (Str.ofString "__name__")) (Value.str (Str.ofString "__name__") 165) (Value.str (Str.ofString "law_tp0049_01") 2318)), (DictEntry.mk (PyData.keyHash P (Str.ofString "__doc__")) (Value.str (Str.ofString "__doc__") 166) Value.none), (DictEntry.mk (PyData.keyHash P (Str.ofString "__package__")) (Value.str (Str.ofString "__package__") 167) Value.none), (DictEntry.mk (PyData.keyHash P (Str.ofString "__loader__")) (Value.str (Str.ofString "__loader__") 168) (Value.builtin "__main__.__loader__#opaque")), (DictEntry.mk (PyData.keyHash P (Str.ofString "__spec__")) (Value.str (Str.ofString "__spec__") 169) Value.none), (DictEntry.mk (PyData.keyHash P (Str.ofString "__annotations__")) (Value.str (Str.ofString "__annotations__") 170) (Value.ref 6)), (DictEntry.mk (PyData.keyHash P (Str.ofString "__builtins__")) (Value.str (Str.ofString "__builtins__") 171) (Value.ref 4)), (DictEntry.mk (PyData.keyHash P (Str.ofString "__file__")) (Value.str (Str.ofString "__file__") 173) (Value.str (Str.ofString "/claim/cut.py") 172)), (DictEntry.mk (PyData.keyHash P (Str.ofString "__cached__")) (Value.str (Str.ofString "__cached__") 174) Value.none), (DictEntry.mk (PyData.keyHash P (Str.ofString "Error")) (Value.str (Str.ofString "Error") 208) (Value.ref 24)), (DictEntry.mk (PyData.keyHash P (Str.ofString "error_reply")) (Value.str (Str.ofString "error_reply") 224) (Value.ref 37)), (DictEntry.mk (PyData.keyHash P (Str.ofString "error_proto")) (Value.str (Str.ofString "error_proto") 240) (Value.ref 49)), (DictEntry.mk (PyData.keyHash P (Str.ofString "parse229")) (Value.str (Str.ofString "parse229") 253) (Value.ref 58)), (DictEntry.mk (PyData.keyHash P (Str.ofString "b1_set")) (Value.str (Str.ofString "b1_set") 315) (Value.ref 66)), (DictEntry.mk (PyData.keyHash P (Str.ofString "in_table_b1")) (Value.str (Str.ofString "in_table_b1") 322) (Value.ref 76)), (DictEntry.mk (PyData.keyHash P (Str.ofString "b3_exceptions")) (Value.str (Str.ofString "b3_exceptions") 2273) (Value.ref 77)), (DictEntry.mk (PyData.keyHash P (Str.ofString "map_table_b3")) (Value.str (Str.ofString "map_table_b3") 2281) (Value.ref 122)), (DictEntry.mk (PyData.keyHash P (Str.ofString "_MAX_STRING_SIZE")) (Value.str (Str.ofString "_MAX_STRING_SIZE") 2285) (Value.int 40 2284)), (DictEntry.mk (PyData.keyHash P (Str.ofString "_MOVE_COST")) (Value.str (Str.ofString "_MOVE_COST") 2287) (Value.int 2 2286)), (DictEntry.mk (PyData.keyHash P (Str.ofString "_CASE_COST")) (Value.str (Str.ofString "_CASE_COST") 2289) (Value.int 1 2288)), (DictEntry.mk (PyData.keyHash P (Str.ofString "_substitution_cost")) (Value.str (Str.ofString "_substitution_cost") 2297) (Value.ref 129)), (DictEntry.mk (PyData.keyHash P (Str.ofString "_levenshtein_distance")) (Value.str (Str.ofString "_levenshtein_distance") 2317) (Value.ref 136)), (DictEntry.mk (PyData.keyHash P (Str.ofString "_law_forms")) (Value.str (Str.ofString "_law_forms") 2335) (Value.ref 143)), (DictEntry.mk (PyData.keyHash P (Str.ofString "_law_told")) (Value.str (Str.ofString "_law_told") 2343) (Value.ref 150)), (DictEntry.mk (PyData.keyHash P (Str.ofString "_law_prepared")) (Value.str (Str.ofString "_law_prepared") 2349) (Value.ref 155)), (DictEntry.mk (PyData.keyHash P (Str.ofString "_law_reply")) (Value.str (Str.ofString "_law_reply") 2355) (Value.ref 160)), (DictEntry.mk (PyData.keyHash P (Str.ofString "law")) (Value.str (Str.ofString "law") 2361) (Value.ref 165))] 27) #[])) ::
  (nat_lit 6, (Obj.mk (Value.type "dict") none (Data.dict #[] 0) #[])) ::
  (nat_lit 15, (Obj.mk (Value.type "tuple") none (Data.seq #[(Value.type "Exception")] 0) #[])) ::
  (nat_lit 22, (Obj.mk (Value.type "tuple") none (Data.seq #[] 0) #[])) ::
  (nat_lit 23, (Obj.mk (Value.type "dict") none (Data.dict #[(DictEntry.mk (PyData.keyHash P (Str.ofString "__module__")) (Value.str (Str.ofString "__module__") 196) (Value.str (Str.ofString "cpy313.ftplib") 187)), (DictEntry.mk (PyData.keyHash P (Str.ofString "__firstlineno__")) (Value.str (Str.ofString "__firstlineno__") 200) (Value.int 2 199)), (DictEntry.mk (PyData.keyHash P (Str.ofString "__static_attributes__")) (Value.str (Str.ofString "__static_attributes__") 201) (Value.ref 22)), (DictEntry.mk (PyData.keyHash P (Str.ofString "__weakref__")) (Value.str (Str.ofString "__weakref__") 203) (Value.ref 25)), (DictEntry.mk (PyData.keyHash P (Str.ofString "__doc__")) (Value.str (Str.ofString "__doc__") 204) Value.none)] 3) #[])) ::
  (nat_lit 24, (Obj.mk (Value.type "type") none (Data.cls (ClassData.mk (Str.ofString "Error") [(Value.type "Exception")] [(Value.ref 24), (Value.type "Exception"), (Value.type "BaseException"), (Value.type "object")] 23 (Str.ofString "Error") true [] [(Value.ref 37), (Value.ref 49)] false none false)) #[(some (Value.ref 15)), none, (some (Value.str (Str.ofString "Error") 189)), (some (Value.str (Str.ofString "Error") 197)), (some (Value.builtin "Exception.__new__")), (some (Value.bool true))])) ::
  (nat_lit 25, (Obj.mk (Value.type "getset_descriptor") none (Data.fields #[(Value.str (Str.ofString "__weakref__") 202), (Value.ref 24), (Value.builtin "ExceptionGroup.__weakref__"), Value.none]) #[])) ::
  (nat_lit 28, (Obj.mk (Value.type "tuple") none (Data.seq #[(Value.ref 24)] 0) #[])) ::
  (nat_lit 35, (Obj.mk (Value.type "tuple") none (Data.seq #[] 0) #[])) ::
  (nat_lit 36, (Obj.mk (Value.type "dict") none (Data.dict #[(DictEntry.mk (PyData.keyHash P (Str.ofString "__module__")) (Value.str (Str.ofString "__module__") 216) (Value.str (Str.ofString "cpy313.ftplib") 187)), (DictEntry.mk (PyData.keyHash P (Str.ofString "__firstlineno__")) (Value.str (Str.ofString "__firstlineno__") 220) (Value.int 4 219)), (DictEntry.mk (PyData.keyHash P (Str.ofString "__static_attributes__")) (Value.str (Str.ofString "__static_attributes__") 221) (Value.ref 35)), (DictEntry.mk (PyData.keyHash P (Str.ofString "__doc__")) (Value.str (Str.ofString "__doc__") 222) Value.none)] 2) #[])) ::
  (nat_lit 37, (Obj.mk (Value.type "type") none (Data.cls (ClassData.mk (Str.ofString "error_reply") [(Value.ref 24)] [(Value.ref 37), (Value.ref 24), (Value.type "Exception"), (Value.type "BaseException"), (Value.type "object")] 36 (Str.ofString "error_reply") true [] [] false none false)) #[(some (Value.ref 28)), none, (some (Value.str (Str.ofString "error_reply") 209)), (some (Value.str (Str.ofString "error_reply") 217)), (some (Value.builtin "Exception.__new__")), (some (Value.bool true))])) ::
  (nat_lit 40, (Obj.mk (Value.type "tuple") none (Data.seq #[(Value.ref 24)] 0) #[])) ::
  (nat_lit 47, (Obj.mk (Value.type "tuple") none (Data.seq #[] 0) #[])) ::
  (nat_lit 48, (Obj.mk (Value.type "dict") none (Data.dict #[(DictEntry.mk (PyData.keyHash P (Str.ofString "__module__")) (Value.str (Str.ofString "__module__") 232) (Value.str (Str.ofString "cpy313.ftplib") 187)), (DictEntry.mk (PyData.keyHash P (Str.ofString "__firstlineno__")) (Value.str (Str.ofString "__firstlineno__") 236) (Value.int 6 235)), (DictEntry.mk (PyData.keyHash P (Str.ofString "__static_attributes__")) (Value.str (Str.ofString "__static_attributes__") 237) (Value.ref 47)), (DictEntry.mk (PyData.keyHash P (Str.ofString "__doc__")) (Value.str (Str.ofString "__doc__") 238) Value.none)] 2) #[])) ::
  (nat_lit 49, (Obj.mk (Value.type "type") none (Data.cls (ClassData.mk (Str.ofString "error_proto") [(Value.ref 24)] [(Value.ref 49), (Value.ref 24), (Value.type "Exception"), (Value.type "BaseException"), (Value.type "object")] 48 (Str.ofString "error_proto") true [] [] false none false)) #[(some (Value.ref 40)), none, (some (Value.str (Str.ofString "error_proto") 225)), (some (Value.str (Str.ofString "error_proto") 233)), (some (Value.builtin "Exception.__new__")), (some (Value.bool true))])) ::
  (nat_lit 52, (Obj.mk (Value.type "tuple") none (Data.seq #[] 0) #[])) ::
  (nat_lit 54, (Obj.mk (Value.type "tuple") none (Data.seq #[(Value.str (Str.ofString "resp") 244), (Value.str (Str.ofString "peer") 245), (Value.str (Str.ofString "left") 246), (Value.str (Str.ofString "right") 247), (Value.str (Str.ofString "parts") 248), (Value.str (Str.ofString "host") 249), (Value.str (Str.ofString "port") 250)] 0) #[])) ::
  (nat_lit 55, (Obj.mk (Value.type "tuple") none (Data.seq #[] 0) #[])) ::
  (nat_lit 57, (Obj.mk (Value.type "code") none (Data.fields #[(Value.str (Str.ofString "parse229") 241), (Value.str (Str.ofString "parse229") 242), (Value.str (Str.ofString "/claim/cut.py") 243), (Value.int 8 0), (Value.int 2 0), (Value.int 0 0), (Value.int 0 0), (Value.int 3 0), (Value.ref 52), (Value.bool true), (Value.int 181 0), (Value.ref 53), Value.none, (Value.ref 54), (Value.ref 55), (Value.ref 56), (Value.int 251 0), (Value.int 8 0), (Value.str (Str.ofString "/claim/cut.py") 252)]) #[])) ::
  (nat_lit 58, kf58) ::
  (nat_lit 66, o66 P) ::
  (nat_lit 70, (Obj.mk (Value.type "tuple") none (Data.seq #[] 0) #[])) ::
  (nat_lit 72, (Obj.mk (Value.type "tuple") none (Data.seq #[(Value.str (Str.ofString "code") 319)] 0) #[])) ::
  (nat_lit 73, (Obj.mk (Value.type "tuple") none (Data.seq #[] 0) #[])) ::
  (nat_lit 75, (Obj.mk (Value.type "code") none (Data.fields #[(Value.str (Str.ofString "in_table_b1") 316), (Value.str (Str.ofString "in_table_b1") 317), (Value.str (Str.ofString "/claim/cut.py") 318), (Value.int 27 0), (Value.int 1 0), (Value.int 0 0), (Value.int 0 0), (Value.int 3 0), (Value.ref 70), (Value.bool true), (Value.int 181 0), (Value.ref 71), Value.none, (Value.ref 72), (Value.ref 73), (Value.ref 74), (Value.int 320 0), (Value.int 27 0), (Value.str (Str.ofString "/claim/cut.py") 321)]) #[])) ::
  (nat_lit 76, kf76) ::
  (nat_lit 77, o77) ::
  (nat_lit 116, (Obj.mk (Value.type "tuple") none (Data.seq #[] 0) #[])) ::
  (nat_lit 118, (Obj.mk (Value.type "tuple") none (Data.seq #[(Value.str (Str.ofString "code") 2277), (Value.str (Str.ofString "r") 2278)] 0) #[])) ::
  (nat_lit 119, (Obj.mk (Value.type "tuple") none (Data.seq #[] 0) #[])) ::
  (nat_lit 121, (Obj.mk (Value.type "code") none (Data.fields #[(Value.str (Str.ofString "map_table_b3") 2274), (Value.str (Str.ofString "map_table_b3") 2275), (Value.str (Str.ofString "/claim/cut.py") 2276), (Value.int 30 0), (Value.int 1 0), (Value.int 0 0), (Value.int 0 0), (Value.int 3 0), (Value.ref 116), (Value.bool true), (Value.int 181 0), (Value.ref 117), Value.none, (Value.ref 118), (Value.ref 119), (Value.ref 120), (Value.int 2279 0), (Value.int 30 0), (Value.str (Str.ofString "/claim/cut.py") 2280)]) #[])) ::
  (nat_lit 122, kf122) ::
  (nat_lit 123, (Obj.mk (Value.type "tuple") none (Data.seq #[] 0) #[])) ::
  (nat_lit 125, (Obj.mk (Value.type "tuple") none (Data.seq #[(Value.str (Str.ofString "ch_a") 2293), (Value.str (Str.ofString "ch_b") 2294)] 0) #[])) ::
  (nat_lit 126, (Obj.mk (Value.type "tuple") none (Data.seq #[] 0) #[])) ::
  (nat_lit 128, (Obj.mk (Value.type "code") none (Data.fields #[(Value.str (Str.ofString "_substitution_cost") 2290), (Value.str (Str.ofString "_substitution_cost") 2291), (Value.str (Str.ofString "/claim/cut.py") 2292), (Value.int 39 0), (Value.int 2 0), (Value.int 0 0), (Value.int 0 0), (Value.int 3 0), (Value.ref 123), (Value.bool true), (Value.int 181 0), (Value.ref 124), Value.none, (Value.ref 125), (Value.ref 126), (Value.ref 127), (Value.int 2295 0), (Value.int 39 0), (Value.str (Str.ofString "/claim/cut.py") 2296)]) #[])) ::
  (nat_lit 129, kf129) ::
  (nat_lit 130, (Obj.mk (Value.type "tuple") none (Data.seq #[] 0) #[])) ::
  (nat_lit 132, (Obj.mk (Value.type "tuple") none (Data.seq #[(Value.str (Str.ofString "a") 2301), (Value.str (Str.ofString "b") 2302), (Value.str (Str.ofString "max_cost") 2303), (Value.str (Str.ofString "pre") 2304), (Value.str (Str.ofString "post") 2305), (Value.str (Str.ofString "row") 2306), (Value.str (Str.ofString "result") 2307), (Value.str (Str.ofString "bindex") 2308), (Value.str (Str.ofString "bchar") 2309), (Value.str (Str.ofString "distance") 2310), (Value.str (Str.ofString "minimum") 2311), (Value.str (Str.ofString "index") 2312), (Value.str (Str.ofString "substitute") 2313), (Value.str (Str.ofString "insert_delete") 2314)] 0) #[])) ::
  (nat_lit 133, (Obj.mk (Value.type "tuple") none (Data.seq #[] 0) #[])) ::
  (nat_lit 135, (Obj.mk (Value.type "code") none (Data.fields #[(Value.str (Str.ofString "_levenshtein_distance") 2298), (Value.str (Str.ofString "_levenshtein_distance") 2299), (Value.str (Str.ofString "/claim/cut.py") 2300), (Value.int 45 0), (Value.int 3 0), (Value.int 0 0), (Value.int 0 0), (Value.int 3 0), (Value.ref 130), (Value.bool true), (Value.int 181 0), (Value.ref 131), Value.none, (Value.ref 132), (Value.ref 133), (Value.ref 134), (Value.int 2315 0), (Value.int 45 0), (Value.str (Str.ofString "/claim/cut.py") 2316)]) #[])) ::
  (nat_lit 136, kf136) ::
  (nat_lit 137, (Obj.mk (Value.type "tuple") none (Data.seq #[] 0) #[])) ::
  (nat_lit 139, (Obj.mk (Value.type "tuple") none (Data.seq #[(Value.str (Str.ofString "y") 2323), (Value.str (Str.ofString "letter") 2324), (Value.str (Str.ofString "alphabets") 2325), (Value.str (Str.ofString "small") 2326), (Value.str (Str.ofString "wide") 2327), (Value.str (Str.ofString "other") 2328), (Value.str (Str.ofString "first") 2329), (Value.str (Str.ofString "second") 2330), (Value.str (Str.ofString "last") 2331), (Value.str (Str.ofString "forms") 2332)] 0) #[])) ::
  (nat_lit 140, (Obj.mk (Value.type "tuple") none (Data.seq #[] 0) #[])) ::
  (nat_lit 142, (Obj.mk (Value.type "code") none (Data.fields #[(Value.str (Str.ofString "_law_forms") 2320), (Value.str (Str.ofString "_law_forms") 2321), (Value.str (Str.ofString "/claim/cut.py") 2322), (Value.int 84 0), (Value.int 1 0), (Value.int 0 0), (Value.int 0 0), (Value.int 3 0), (Value.ref 137), (Value.bool true), (Value.int 181 0), (Value.ref 138), Value.none, (Value.ref 139), (Value.ref 140), (Value.ref 141), (Value.int 2333 0), (Value.int 84 0), (Value.str (Str.ofString "/claim/cut.py") 2334)]) #[])) ::
  (nat_lit 143, kf143) ::
  (nat_lit 144, (Obj.mk (Value.type "tuple") none (Data.seq #[] 0) #[])) ::
  (nat_lit 146, (Obj.mk (Value.type "tuple") none (Data.seq #[(Value.str (Str.ofString "reply") 2339), (Value.str (Str.ofString "error") 2340)] 0) #[])) ::
  (nat_lit 147, (Obj.mk (Value.type "tuple") none (Data.seq #[] 0) #[])) ::
  (nat_lit 149, (Obj.mk (Value.type "code") none (Data.fields #[(Value.str (Str.ofString "_law_told") 2336), (Value.str (Str.ofString "_law_told") 2337), (Value.str (Str.ofString "/claim/cut.py") 2338), (Value.int 99 0), (Value.int 1 0), (Value.int 0 0), (Value.int 0 0), (Value.int 3 0), (Value.ref 144), (Value.bool true), (Value.int 181 0), (Value.ref 145), Value.none, (Value.ref 146), (Value.ref 147), (Value.ref 148), (Value.int 2341 0), (Value.int 99 0), (Value.str (Str.ofString "/claim/cut.py") 2342)]) #[])) ::
  (nat_lit 150, kf150) ::
  (nat_lit 151, (Obj.mk (Value.type "tuple") none (Data.seq #[] 0) #[])) ::
  (nat_lit 154, (Obj.mk (Value.type "code") none (Data.fields #[(Value.str (Str.ofString "_law_prepared") 2344), (Value.str (Str.ofString "_law_prepared") 2345), (Value.str (Str.ofString "/claim/cut.py") 2346), (Value.int 104 0), (Value.int 1 0), (Value.int 0 0), (Value.int 0 0), (Value.int 3 0), (Value.ref 151), (Value.bool true), (Value.int 181 0), (Value.ref 152), Value.none, Value.none, Value.none, (Value.ref 153), (Value.int 2347 0), (Value.int 104 0), (Value.str (Str.ofString "/claim/cut.py") 2348)]) #[])) ::
  (nat_lit 155, kf155) ::
  (nat_lit 156, (Obj.mk (Value.type "tuple") none (Data.seq #[] 0) #[])) ::
  (nat_lit 159, (Obj.mk (Value.type "code") none (Data.fields #[(Value.str (Str.ofString "_law_reply") 2350), (Value.str (Str.ofString "_law_reply") 2351), (Value.str (Str.ofString "/claim/cut.py") 2352), (Value.int 106 0), (Value.int 3 0), (Value.int 0 0), (Value.int 0 0), (Value.int 3 0), (Value.ref 156), (Value.bool true), (Value.int 181 0), (Value.ref 157), Value.none, Value.none, Value.none, (Value.ref 158), (Value.int 2353 0), (Value.int 106 0), (Value.str (Str.ofString "/claim/cut.py") 2354)]) #[])) ::
  (nat_lit 160, kf160) ::
  (nat_lit 161, (Obj.mk (Value.type "tuple") none (Data.seq #[] 0) #[])) ::
  (nat_lit 164, (Obj.mk (Value.type "code") none (Data.fields #[(Value.str (Str.ofString "law") 2356), (Value.str (Str.ofString "law") 2357), (Value.str (Str.ofString "/claim/cut.py") 2358), (Value.int 109 0), (Value.int 1 0), (Value.int 0 0), (Value.int 0 0), (Value.int 3 0), (Value.ref 161), (Value.bool true), (Value.int 181 0), (Value.ref 162), Value.none, Value.none, Value.none, (Value.ref 163), (Value.int 2359 0), (Value.int 109 0), (Value.str (Str.ofString "/claim/cut.py") 2360)]) #[])) ::
  (nat_lit 165, kf165) :: []) d → Frag) _ (by delta kf58 kf76 kf122 kf129 kf136 kf143 kf150 kf155 kf160 kf165; exact rfl)
  exact fun d _ => d
noncomputable abbrev dLaw : DefRec := by
  refine' (?F : (d : DefRec) → @Eq DefRec (recOf st21) d → DefRec) _ (by dsimp only [st21, recOf])
  exact fun d _ => d
noncomputable def vw : Program := by
  refine' (?F : (d : Program) → @Eq Program ({ pw with main := { pw.main with body := [st1, st2, st3, st4, st7, st9, st11, st12, st13, st14, st15, st17, st18, st19, st20, st21] } }) d → Program) _ (by delta st1 st2 st3 st4 st7 st9 st11 st12 st13 st14 st15 st17 st18 st19 st20 st21; exact rfl)
  exact fun d _ => d
noncomputable def loose : List Str := [(Str.ofString "b1_set"), (Str.ofString "b3_exceptions")]
noncomputable def kAt (P : Params) (a : Nat) : Obj := ((K P).lookup a).getD default
noncomputable def o11 (P : Params) : Obj := (Obj.mk (Value.type "tuple") none (Data.seq #[] 0) #[])
noncomputable def o12v0 (P : Params) : Obj := (Obj.mk Value.none none (Data.fields #[]) #[])
noncomputable def o13 (P : Params) : Obj := (Obj.mk (Value.type "code") none (Data.fields #[(Value.str (Str.ofString "<module>") 182), (Value.str (Str.ofString "<module>") 183), (Value.str (Str.ofString "/claim/cut.py") 184), (Value.int 1 0), (Value.int 0 0), (Value.int 0 0), (Value.int 0 0), (Value.int 0 0), (Value.ref 11), (Value.bool false), (Value.int 181 0), (Value.ref 12), Value.none, Value.none, Value.none, Value.none, (Value.int 185 0), (Value.int 1 0), (Value.str (Str.ofString "/claim/cut.py") 186)]) #[])
noncomputable def o14 (P : Params) : Obj := (Obj.mk (Value.type "frame") none Data.plain #[(some (Value.ref 13)), (some (Value.ref 3)), (some (Value.ref 3)), none, (some (Value.str (Str.ofString "__main__") 164)), none, (some (Value.ref 0))])
noncomputable def T0 (P : Params) : BT := (.node (boot_o_0 P) (.node (boot_o_1 P) (.node (boot_o_3 P) (.node (boot_o_7 P) .nil .nil) (.node (o11 P) .nil .nil)) (.node (boot_o_5 P) (.node (boot_o_9 P) .nil .nil) (.node (o13 P) .nil .nil))) (.node (boot_o_2 P) (.node (boot_o_4 P) (.node (boot_o_8 P) .nil .nil) (.node (o12v0 P) .nil .nil)) (.node (boot_o_6 P) (.node (boot_o_10 P) .nil .nil) (.node (o14 P) .nil .nil))))
noncomputable def S0 (w : World) (os : OsState) : SharedT := ⟨T0 w.params, 15, (Life.mk [] [] [] 0 [] [] false #[] [] 0 false false false 0 [2000, 10, 10] false 0 true [] [] 0 false), #[], (Drawn.mk 0 0 0 0), 187, os⟩
noncomputable def pos0 : Pos := ⟨0, 0, 0, 0⟩
noncomputable def o2 (P : Params) : Obj := kAt P 2
noncomputable def o3v1 (P : Params) : Obj := (Obj.mk (Value.type "dict") none (Data.dict #[(DictEntry.mk (PyData.keyHash P (Str.ofString "__name__")) (Value.str (Str.ofString "__name__") 165) (Value.str (Str.ofString "cpy313.ftplib") 187)), (DictEntry.mk (PyData.keyHash P (Str.ofString "__doc__")) (Value.str (Str.ofString "__doc__") 166) Value.none), (DictEntry.mk (PyData.keyHash P (Str.ofString "__package__")) (Value.str (Str.ofString "__package__") 167) Value.none), (DictEntry.mk (PyData.keyHash P (Str.ofString "__loader__")) (Value.str (Str.ofString "__loader__") 168) (Value.builtin "__main__.__loader__#opaque")), (DictEntry.mk (PyData.keyHash P (Str.ofString "__spec__")) (Value.str (Str.ofString "__spec__") 169) Value.none), (DictEntry.mk (PyData.keyHash P (Str.ofString "__annotations__")) (Value.str (Str.ofString "__annotations__") 170) (Value.ref 6)), (DictEntry.mk (PyData.keyHash P (Str.ofString "__builtins__")) (Value.str (Str.ofString "__builtins__") 171) (Value.ref 4)), (DictEntry.mk (PyData.keyHash P (Str.ofString "__file__")) (Value.str (Str.ofString "__file__") 173) (Value.str (Str.ofString "/claim/cut.py") 172)), (DictEntry.mk (PyData.keyHash P (Str.ofString "__cached__")) (Value.str (Str.ofString "__cached__") 174) Value.none), (DictEntry.mk (PyData.keyHash P (Str.ofString "Error")) (Value.str (Str.ofString "Error") 208) (Value.ref 24))] 10) #[])
noncomputable def o12v1 (P : Params) : Obj := (Obj.mk Value.none none (Data.fields #[(Value.int 2 0), (Value.int 0 0), (Value.ref 20)]) #[])
noncomputable def o15 (P : Params) : Obj := kAt P 15
noncomputable def o16 (P : Params) : Obj := (Obj.mk (Value.type "builtin_function_or_method") none (Data.fields #[(Value.builtin "type.__prepare__"), (Value.type "type")]) #[])
noncomputable def o17 (P : Params) : Obj := (Obj.mk (Value.type "dict") none (Data.dict #[(DictEntry.mk (PyData.keyHash P (Str.ofString "__module__")) (Value.str (Str.ofString "__module__") 196) (Value.str (Str.ofString "cpy313.ftplib") 187)), (DictEntry.mk (PyData.keyHash P (Str.ofString "__qualname__")) (Value.str (Str.ofString "__qualname__") 198) (Value.str (Str.ofString "Error") 197)), (DictEntry.mk (PyData.keyHash P (Str.ofString "__firstlineno__")) (Value.str (Str.ofString "__firstlineno__") 200) (Value.int 2 199)), (DictEntry.mk (PyData.keyHash P (Str.ofString "__static_attributes__")) (Value.str (Str.ofString "__static_attributes__") 201) (Value.ref 22))] 4) #[])
noncomputable def o18 (P : Params) : Obj := (Obj.mk (Value.type "tuple") none (Data.seq #[] 0) #[])
noncomputable def o19 (P : Params) : Obj := (Obj.mk Value.none none (Data.fields #[]) #[])
noncomputable def o20 (P : Params) : Obj := (Obj.mk (Value.type "code") none (Data.fields #[(Value.str (Str.ofString "Error") 191), (Value.str (Str.ofString "Error") 192), (Value.str (Str.ofString "/claim/cut.py") 193), (Value.int 2 0), (Value.int 0 0), (Value.int 0 0), (Value.int 0 0), (Value.int 0 0), (Value.ref 18), (Value.bool false), (Value.int 181 0), (Value.ref 19), Value.none, Value.none, Value.none, Value.none, (Value.int 194 0), (Value.int 2 0), (Value.str (Str.ofString "/claim/cut.py") 195)]) #[])
noncomputable def o21 (P : Params) : Obj := (Obj.mk (Value.type "frame") none Data.plain #[(some (Value.ref 20)), (some (Value.ref 3)), (some (Value.ref 17)), none, (some (Value.str (Str.ofString "cpy313.ftplib") 187)), none, (some (Value.ref 0))])
noncomputable def o22 (P : Params) : Obj := kAt P 22
noncomputable def o23 (P : Params) : Obj := kAt P 23
noncomputable def o24v1 (P : Params) : Obj := (Obj.mk (Value.type "type") none (Data.cls (ClassData.mk (Str.ofString "Error") [(Value.type "Exception")] [(Value.ref 24), (Value.type "Exception"), (Value.type "BaseException"), (Value.type "object")] 23 (Str.ofString "Error") true [] [] false none false)) #[(some (Value.ref 15)), none, (some (Value.str (Str.ofString "Error") 189)), (some (Value.str (Str.ofString "Error") 197)), (some (Value.builtin "Exception.__new__")), (some (Value.bool true))])
noncomputable def o25 (P : Params) : Obj := kAt P 25
noncomputable def o26 (P : Params) : Obj := (Obj.mk (Value.type "super") none (Data.fields #[(Value.ref 24), (Value.ref 24), (Value.ref 24)]) #[])
noncomputable def o27 (P : Params) : Obj := (Obj.mk (Value.type "builtin_function_or_method") none (Data.fields #[(Value.builtin "object.__init_subclass__"), (Value.ref 24)]) #[])
noncomputable def T1 (P : Params) : BT := (.node (boot_o_0 P) (.node (boot_o_1 P) (.node (o3v1 P) (.node (boot_o_7 P) (.node (o15 P) .nil .nil) (.node (o23 P) .nil .nil)) (.node (o11 P) (.node (o19 P) .nil .nil) (.node (o27 P) .nil .nil))) (.node (boot_o_5 P) (.node (boot_o_9 P) (.node (o17 P) .nil .nil) (.node (o25 P) .nil .nil)) (.node (o13 P) (.node (o21 P) .nil .nil) .nil))) (.node (o2 P) (.node (boot_o_4 P) (.node (boot_o_8 P) (.node (o16 P) .nil .nil) (.node (o24v1 P) .nil .nil)) (.node (o12v1 P) (.node (o20 P) .nil .nil) .nil)) (.node (boot_o_6 P) (.node (boot_o_10 P) (.node (o18 P) .nil .nil) (.node (o26 P) .nil .nil)) (.node (o14 P) (.node (o22 P) .nil .nil) .nil))))
noncomputable def S1 (w : World) (os : OsState) : SharedT := ⟨T1 w.params, 28, (Life.mk [] [] [] 0 [] [] false #[] [] 0 false false false 0 [2000, 10, 10] false 0 true [] [] 0 false), #[], (Drawn.mk 0 0 0 0), 209, os⟩
noncomputable def pos1 : Pos := ⟨2, 0, 3, 8⟩
noncomputable def o3v2 (P : Params) : Obj := (Obj.mk (Value.type "dict") none (Data.dict #[(DictEntry.mk (PyData.keyHash P (Str.ofString "__name__")) (Value.str (Str.ofString "__name__") 165) (Value.str (Str.ofString "cpy313.ftplib") 187)), (DictEntry.mk (PyData.keyHash P (Str.ofString "__doc__")) (Value.str (Str.ofString "__doc__") 166) Value.none), (DictEntry.mk (PyData.keyHash P (Str.ofString "__package__")) (Value.str (Str.ofString "__package__") 167) Value.none), (DictEntry.mk (PyData.keyHash P (Str.ofString "__loader__")) (Value.str (Str.ofString "__loader__") 168) (Value.builtin "__main__.__loader__#opaque")), (DictEntry.mk (PyData.keyHash P (Str.ofString "__spec__")) (Value.str (Str.ofString "__spec__") 169) Value.none), (DictEntry.mk (PyData.keyHash P (Str.ofString "__annotations__")) (Value.str (Str.ofString "__annotations__") 170) (Value.ref 6)), (DictEntry.mk (PyData.keyHash P (Str.ofString "__builtins__")) (Value.str (Str.ofString "__builtins__") 171) (Value.ref 4)), (DictEntry.mk (PyData.keyHash P (Str.ofString "__file__")) (Value.str (Str.ofString "__file__") 173) (Value.str (Str.ofString "/claim/cut.py") 172)), (DictEntry.mk (PyData.keyHash P (Str.ofString "__cached__")) (Value.str (Str.ofString "__cached__") 174) Value.none), (DictEntry.mk (PyData.keyHash P (Str.ofString "Error")) (Value.str (Str.ofString "Error") 208) (Value.ref 24)), (DictEntry.mk (PyData.keyHash P (Str.ofString "error_reply")) (Value.str (Str.ofString "error_reply") 224) (Value.ref 37))] 11) #[])
noncomputable def o12v2 (P : Params) : Obj := (Obj.mk Value.none none (Data.fields #[(Value.int 2 0), (Value.int 0 0), (Value.ref 20), (Value.int 4 0), (Value.int 0 0), (Value.ref 33)]) #[])
noncomputable def o24v2 (P : Params) : Obj := (Obj.mk (Value.type "type") none (Data.cls (ClassData.mk (Str.ofString "Error") [(Value.type "Exception")] [(Value.ref 24), (Value.type "Exception"), (Value.type "BaseException"), (Value.type "object")] 23 (Str.ofString "Error") true [] [(Value.ref 37)] false none false)) #[(some (Value.ref 15)), none, (some (Value.str (Str.ofString "Error") 189)), (some (Value.str (Str.ofString "Error") 197)), (some (Value.builtin "Exception.__new__")), (some (Value.bool true))])
noncomputable def o28 (P : Params) : Obj := kAt P 28
noncomputable def o29 (P : Params) : Obj := (Obj.mk (Value.type "builtin_function_or_method") none (Data.fields #[(Value.builtin "type.__prepare__"), (Value.type "type")]) #[])
noncomputable def o30 (P : Params) : Obj := (Obj.mk (Value.type "dict") none (Data.dict #[(DictEntry.mk (PyData.keyHash P (Str.ofString "__module__")) (Value.str (Str.ofString "__module__") 216) (Value.str (Str.ofString "cpy313.ftplib") 187)), (DictEntry.mk (PyData.keyHash P (Str.ofString "__qualname__")) (Value.str (Str.ofString "__qualname__") 218) (Value.str (Str.ofString "error_reply") 217)), (DictEntry.mk (PyData.keyHash P (Str.ofString "__firstlineno__")) (Value.str (Str.ofString "__firstlineno__") 220) (Value.int 4 219)), (DictEntry.mk (PyData.keyHash P (Str.ofString "__static_attributes__")) (Value.str (Str.ofString "__static_attributes__") 221) (Value.ref 35))] 4) #[])
noncomputable def o31 (P : Params) : Obj := (Obj.mk (Value.type "tuple") none (Data.seq #[] 0) #[])
noncomputable def o32 (P : Params) : Obj := (Obj.mk Value.none none (Data.fields #[]) #[])
noncomputable def o33 (P : Params) : Obj := (Obj.mk (Value.type "code") none (Data.fields #[(Value.str (Str.ofString "error_reply") 211), (Value.str (Str.ofString "error_reply") 212), (Value.str (Str.ofString "/claim/cut.py") 213), (Value.int 4 0), (Value.int 0 0), (Value.int 0 0), (Value.int 0 0), (Value.int 0 0), (Value.ref 31), (Value.bool false), (Value.int 181 0), (Value.ref 32), Value.none, Value.none, Value.none, Value.none, (Value.int 214 0), (Value.int 4 0), (Value.str (Str.ofString "/claim/cut.py") 215)]) #[])
noncomputable def o34 (P : Params) : Obj := (Obj.mk (Value.type "frame") none Data.plain #[(some (Value.ref 33)), (some (Value.ref 3)), (some (Value.ref 30)), none, (some (Value.str (Str.ofString "cpy313.ftplib") 187)), none, (some (Value.ref 0))])
noncomputable def o35 (P : Params) : Obj := kAt P 35
noncomputable def o36 (P : Params) : Obj := kAt P 36
noncomputable def o37 (P : Params) : Obj := kAt P 37
noncomputable def o38 (P : Params) : Obj := (Obj.mk (Value.type "super") none (Data.fields #[(Value.ref 37), (Value.ref 37), (Value.ref 37)]) #[])
noncomputable def o39 (P : Params) : Obj := (Obj.mk (Value.type "builtin_function_or_method") none (Data.fields #[(Value.builtin "object.__init_subclass__"), (Value.ref 37)]) #[])
noncomputable def T2 (P : Params) : BT := (.node (boot_o_0 P) (.node (boot_o_1 P) (.node (o3v2 P) (.node (boot_o_7 P) (.node (o15 P) (.node (o31 P) .nil .nil) .nil) (.node (o23 P) (.node (o39 P) .nil .nil) .nil)) (.node (o11 P) (.node (o19 P) (.node (o35 P) .nil .nil) .nil) (.node (o27 P) .nil .nil))) (.node (boot_o_5 P) (.node (boot_o_9 P) (.node (o17 P) (.node (o33 P) .nil .nil) .nil) (.node (o25 P) .nil .nil)) (.node (o13 P) (.node (o21 P) (.node (o37 P) .nil .nil) .nil) (.node (o29 P) .nil .nil)))) (.node (o2 P) (.node (boot_o_4 P) (.node (boot_o_8 P) (.node (o16 P) (.node (o32 P) .nil .nil) .nil) (.node (o24v2 P) .nil .nil)) (.node (o12v2 P) (.node (o20 P) (.node (o36 P) .nil .nil) .nil) (.node (o28 P) .nil .nil))) (.node (boot_o_6 P) (.node (boot_o_10 P) (.node (o18 P) (.node (o34 P) .nil .nil) .nil) (.node (o26 P) .nil .nil)) (.node (o14 P) (.node (o22 P) (.node (o38 P) .nil .nil) .nil) (.node (o30 P) .nil .nil)))))
noncomputable def S2 (w : World) (os : OsState) : SharedT := ⟨T2 w.params, 40, (Life.mk [] [] [] 0 [] [] false #[] [] 0 false false false 0 [2000, 10, 10] false 0 true [] [] 0 false), #[], (Drawn.mk 0 0 0 0), 225, os⟩
noncomputable def pos2 : Pos := ⟨4, 0, 5, 8⟩
noncomputable def o3v3 (P : Params) : Obj := (Obj.mk (Value.type "dict") none (Data.dict #[(DictEntry.mk (PyData.keyHash P (Str.ofString "__name__")) (Value.str (Str.ofString "__name__") 165) (Value.str (Str.ofString "cpy313.stringprep") 254)), (DictEntry.mk (PyData.keyHash P (Str.ofString "__doc__")) (Value.str (Str.ofString "__doc__") 166) Value.none), (DictEntry.mk (PyData.keyHash P (Str.ofString "__package__")) (Value.str (Str.ofString "__package__") 167) Value.none), (DictEntry.mk (PyData.keyHash P (Str.ofString "__loader__")) (Value.str (Str.ofString "__loader__") 168) (Value.builtin "__main__.__loader__#opaque")), (DictEntry.mk (PyData.keyHash P (Str.ofString "__spec__")) (Value.str (Str.ofString "__spec__") 169) Value.none), (DictEntry.mk (PyData.keyHash P (Str.ofString "__annotations__")) (Value.str (Str.ofString "__annotations__") 170) (Value.ref 6)), (DictEntry.mk (PyData.keyHash P (Str.ofString "__builtins__")) (Value.str (Str.ofString "__builtins__") 171) (Value.ref 4)), (DictEntry.mk (PyData.keyHash P (Str.ofString "__file__")) (Value.str (Str.ofString "__file__") 173) (Value.str (Str.ofString "/claim/cut.py") 172)), (DictEntry.mk (PyData.keyHash P (Str.ofString "__cached__")) (Value.str (Str.ofString "__cached__") 174) Value.none), (DictEntry.mk (PyData.keyHash P (Str.ofString "Error")) (Value.str (Str.ofString "Error") 208) (Value.ref 24)), (DictEntry.mk (PyData.keyHash P (Str.ofString "error_reply")) (Value.str (Str.ofString "error_reply") 224) (Value.ref 37)), (DictEntry.mk (PyData.keyHash P (Str.ofString "error_proto")) (Value.str (Str.ofString "error_proto") 240) (Value.ref 49)), (DictEntry.mk (PyData.keyHash P (Str.ofString "parse229")) (Value.str (Str.ofString "parse229") 253) (Value.ref 58))] 13) #[])
noncomputable def o12v3 (P : Params) : Obj := (Obj.mk Value.none none (Data.fields #[(Value.int 2 0), (Value.int 0 0), (Value.ref 20), (Value.int 4 0), (Value.int 0 0), (Value.ref 33), (Value.int 6 0), (Value.int 0 0), (Value.ref 45), (Value.int 8 0), (Value.int 0 0), (Value.ref 57)]) #[])
noncomputable def o24 (P : Params) : Obj := kAt P 24
noncomputable def o40 (P : Params) : Obj := kAt P 40
noncomputable def o41 (P : Params) : Obj := (Obj.mk (Value.type "builtin_function_or_method") none (Data.fields #[(Value.builtin "type.__prepare__"), (Value.type "type")]) #[])
noncomputable def o42 (P : Params) : Obj := (Obj.mk (Value.type "dict") none (Data.dict #[(DictEntry.mk (PyData.keyHash P (Str.ofString "__module__")) (Value.str (Str.ofString "__module__") 232) (Value.str (Str.ofString "cpy313.ftplib") 187)), (DictEntry.mk (PyData.keyHash P (Str.ofString "__qualname__")) (Value.str (Str.ofString "__qualname__") 234) (Value.str (Str.ofString "error_proto") 233)), (DictEntry.mk (PyData.keyHash P (Str.ofString "__firstlineno__")) (Value.str (Str.ofString "__firstlineno__") 236) (Value.int 6 235)), (DictEntry.mk (PyData.keyHash P (Str.ofString "__static_attributes__")) (Value.str (Str.ofString "__static_attributes__") 237) (Value.ref 47))] 4) #[])
noncomputable def o43 (P : Params) : Obj := (Obj.mk (Value.type "tuple") none (Data.seq #[] 0) #[])
noncomputable def o44 (P : Params) : Obj := (Obj.mk Value.none none (Data.fields #[]) #[])
noncomputable def o45 (P : Params) : Obj := (Obj.mk (Value.type "code") none (Data.fields #[(Value.str (Str.ofString "error_proto") 227), (Value.str (Str.ofString "error_proto") 228), (Value.str (Str.ofString "/claim/cut.py") 229), (Value.int 6 0), (Value.int 0 0), (Value.int 0 0), (Value.int 0 0), (Value.int 0 0), (Value.ref 43), (Value.bool false), (Value.int 181 0), (Value.ref 44), Value.none, Value.none, Value.none, Value.none, (Value.int 230 0), (Value.int 6 0), (Value.str (Str.ofString "/claim/cut.py") 231)]) #[])
noncomputable def o46 (P : Params) : Obj := (Obj.mk (Value.type "frame") none Data.plain #[(some (Value.ref 45)), (some (Value.ref 3)), (some (Value.ref 42)), none, (some (Value.str (Str.ofString "cpy313.ftplib") 187)), none, (some (Value.ref 0))])
noncomputable def o47 (P : Params) : Obj := kAt P 47
noncomputable def o48 (P : Params) : Obj := kAt P 48
noncomputable def o49 (P : Params) : Obj := kAt P 49
noncomputable def o50 (P : Params) : Obj := (Obj.mk (Value.type "super") none (Data.fields #[(Value.ref 49), (Value.ref 49), (Value.ref 49)]) #[])
noncomputable def o51 (P : Params) : Obj := (Obj.mk (Value.type "builtin_function_or_method") none (Data.fields #[(Value.builtin "object.__init_subclass__"), (Value.ref 49)]) #[])
noncomputable def o52 (P : Params) : Obj := kAt P 52
noncomputable def o53 (P : Params) : Obj := (Obj.mk Value.none none (Data.fields #[]) #[])
noncomputable def o54 (P : Params) : Obj := kAt P 54
noncomputable def o55 (P : Params) : Obj := kAt P 55
noncomputable def o56 (P : Params) : Obj := by
  refine' (?F : (d : Obj) → @Eq Obj ((Obj.mk Value.none none (Data.func (FuncData.mk (Str.ofString "parse229") (Str.ofString "parse229") rec4.params (FuncBody.stmts rec4.body) rec4.scope 0 [] Value.none Value.none Value.none Value.none none Value.none Value.none 0)) #[])) d → Obj) _ (by dsimp only [rec4])
  exact fun d _ => d
noncomputable def o57 (P : Params) : Obj := kAt P 57
noncomputable def o58 (P : Params) : Obj := kAt P 58
noncomputable def T3 (P : Params) : BT := (.node (boot_o_0 P) (.node (boot_o_1 P) (.node (o3v3 P) (.node (boot_o_7 P) (.node (o15 P) (.node (o31 P) .nil .nil) (.node (o47 P) .nil .nil)) (.node (o23 P) (.node (o39 P) .nil .nil) (.node (o55 P) .nil .nil))) (.node (o11 P) (.node (o19 P) (.node (o35 P) .nil .nil) (.node (o51 P) .nil .nil)) (.node (o27 P) (.node (o43 P) .nil .nil) .nil))) (.node (boot_o_5 P) (.node (boot_o_9 P) (.node (o17 P) (.node (o33 P) .nil .nil) (.node (o49 P) .nil .nil)) (.node (o25 P) (.node (o41 P) .nil .nil) (.node (o57 P) .nil .nil))) (.node (o13 P) (.node (o21 P) (.node (o37 P) .nil .nil) (.node (o53 P) .nil .nil)) (.node (o29 P) (.node (o45 P) .nil .nil) .nil)))) (.node (o2 P) (.node (boot_o_4 P) (.node (boot_o_8 P) (.node (o16 P) (.node (o32 P) .nil .nil) (.node (o48 P) .nil .nil)) (.node (o24 P) (.node (o40 P) .nil .nil) (.node (o56 P) .nil .nil))) (.node (o12v3 P) (.node (o20 P) (.node (o36 P) .nil .nil) (.node (o52 P) .nil .nil)) (.node (o28 P) (.node (o44 P) .nil .nil) .nil))) (.node (boot_o_6 P) (.node (boot_o_10 P) (.node (o18 P) (.node (o34 P) .nil .nil) (.node (o50 P) .nil .nil)) (.node (o26 P) (.node (o42 P) .nil .nil) (.node (o58 P) .nil .nil))) (.node (o14 P) (.node (o22 P) (.node (o38 P) .nil .nil) (.node (o54 P) .nil .nil)) (.node (o30 P) (.node (o46 P) .nil .nil) .nil)))))
noncomputable def S3 (w : World) (os : OsState) : SharedT := ⟨T3 w.params, 59, (Life.mk [] [] [] 0 [] [] false #[] [] 0 false false false 0 [2000, 10, 10] false 0 true [] [] 0 false), #[], (Drawn.mk 0 0 0 0), 256, os⟩
noncomputable def pos3 : Pos := ⟨25, 0, 25, 8⟩
noncomputable def o3v4 (P : Params) : Obj := (Obj.mk (Value.type "dict") none (Data.dict #[(DictEntry.mk (PyData.keyHash P (Str.ofString "__name__")) (Value.str (Str.ofString "__name__") 165) (Value.str (Str.ofString "cpy313.stringprep") 254)), (DictEntry.mk (PyData.keyHash P (Str.ofString "__doc__")) (Value.str (Str.ofString "__doc__") 166) Value.none), (DictEntry.mk (PyData.keyHash P (Str.ofString "__package__")) (Value.str (Str.ofString "__package__") 167) Value.none), (DictEntry.mk (PyData.keyHash P (Str.ofString "__loader__")) (Value.str (Str.ofString "__loader__") 168) (Value.builtin "__main__.__loader__#opaque")), (DictEntry.mk (PyData.keyHash P (Str.ofString "__spec__")) (Value.str (Str.ofString "__spec__") 169) Value.none), (DictEntry.mk (PyData.keyHash P (Str.ofString "__annotations__")) (Value.str (Str.ofString "__annotations__") 170) (Value.ref 6)), (DictEntry.mk (PyData.keyHash P (Str.ofString "__builtins__")) (Value.str (Str.ofString "__builtins__") 171) (Value.ref 4)), (DictEntry.mk (PyData.keyHash P (Str.ofString "__file__")) (Value.str (Str.ofString "__file__") 173) (Value.str (Str.ofString "/claim/cut.py") 172)), (DictEntry.mk (PyData.keyHash P (Str.ofString "__cached__")) (Value.str (Str.ofString "__cached__") 174) Value.none), (DictEntry.mk (PyData.keyHash P (Str.ofString "Error")) (Value.str (Str.ofString "Error") 208) (Value.ref 24)), (DictEntry.mk (PyData.keyHash P (Str.ofString "error_reply")) (Value.str (Str.ofString "error_reply") 224) (Value.ref 37)), (DictEntry.mk (PyData.keyHash P (Str.ofString "error_proto")) (Value.str (Str.ofString "error_proto") 240) (Value.ref 49)), (DictEntry.mk (PyData.keyHash P (Str.ofString "parse229")) (Value.str (Str.ofString "parse229") 253) (Value.ref 58)), (DictEntry.mk (PyData.keyHash P (Str.ofString "b1_set")) (Value.str (Str.ofString "b1_set") 315) (Value.ref 66))] 14) #[])
noncomputable def o59 (P : Params) : Obj := (Obj.mk (Value.type "list") none (Data.seq #[(Value.int 173 256), (Value.int 847 257), (Value.int 6150 258), (Value.int 6155 259), (Value.int 6156 260), (Value.int 6157 261), (Value.int 8203 262), (Value.int 8204 263), (Value.int 8205 264), (Value.int 8288 265), (Value.int 65279 266)] 0) #[])
noncomputable def o60 (P : Params) : Obj := (Obj.mk (Value.type "range") none (Data.fields #[(Value.int 65024 267), (Value.int 65040 268), (Value.int 1 269)]) #[])
noncomputable def o61 (P : Params) : Obj := (Obj.mk (Value.type "list") none (Data.seq #[(Value.int 65024 272), (Value.int 65025 273), (Value.int 65026 274), (Value.int 65027 275), (Value.int 65028 276), (Value.int 65029 277), (Value.int 65030 278), (Value.int 65031 279), (Value.int 65032 280), (Value.int 65033 281), (Value.int 65034 282), (Value.int 65035 283), (Value.int 65036 284), (Value.int 65037 285), (Value.int 65038 286), (Value.int 65039 287)] 18) #[])
noncomputable def o62 (P : Params) : Obj := (Obj.mk (Value.type "range_iterator") none (Data.fields #[(Value.int 65040 0), (Value.int 0 0), (Value.int 1 0)]) #[])
noncomputable def o63 (P : Params) : Obj := (Obj.mk (Value.type "tuple") none (Data.seq #[] 0) #[])
noncomputable def o64 (P : Params) : Obj := (Obj.mk (Value.type "StopIteration") none (Data.fields #[(Value.ref 63), Value.none, Value.none, Value.none, (Value.bool false), Value.none]) #[])
noncomputable def o65 (P : Params) : Obj := (Obj.mk (Value.type "list") none (Data.seq #[(Value.int 173 256), (Value.int 847 257), (Value.int 6150 258), (Value.int 6155 259), (Value.int 6156 260), (Value.int 6157 261), (Value.int 8203 262), (Value.int 8204 263), (Value.int 8205 264), (Value.int 8288 265), (Value.int 65279 266), (Value.int 65024 272), (Value.int 65025 273), (Value.int 65026 274), (Value.int 65027 275), (Value.int 65028 276), (Value.int 65029 277), (Value.int 65030 278), (Value.int 65031 279), (Value.int 65032 280), (Value.int 65033 281), (Value.int 65034 282), (Value.int 65035 283), (Value.int 65036 284), (Value.int 65037 285), (Value.int 65038 286), (Value.int 65039 287)] 0) #[])
noncomputable def o67 (P : Params) : Obj := (Obj.mk (Value.type "list_iterator") none (Data.fields #[Value.none, (Value.int 27 0)]) #[])
noncomputable def o68 (P : Params) : Obj := (Obj.mk (Value.type "tuple") none (Data.seq #[] 0) #[])
noncomputable def o69 (P : Params) : Obj := (Obj.mk (Value.type "StopIteration") none (Data.fields #[(Value.ref 68), Value.none, Value.none, Value.none, (Value.bool false), Value.none]) #[])
noncomputable def T4 (P : Params) : BT := (.node (boot_o_0 P) (.node (boot_o_1 P) (.node (o3v4 P) (.node (boot_o_7 P) (.node (o15 P) (.node (o31 P) (.node (o63 P) .nil .nil) .nil) (.node (o47 P) .nil .nil)) (.node (o23 P) (.node (o39 P) .nil .nil) (.node (o55 P) .nil .nil))) (.node (o11 P) (.node (o19 P) (.node (o35 P) (.node (o67 P) .nil .nil) .nil) (.node (o51 P) .nil .nil)) (.node (o27 P) (.node (o43 P) .nil .nil) (.node (o59 P) .nil .nil)))) (.node (boot_o_5 P) (.node (boot_o_9 P) (.node (o17 P) (.node (o33 P) (.node (o65 P) .nil .nil) .nil) (.node (o49 P) .nil .nil)) (.node (o25 P) (.node (o41 P) .nil .nil) (.node (o57 P) .nil .nil))) (.node (o13 P) (.node (o21 P) (.node (o37 P) (.node (o69 P) .nil .nil) .nil) (.node (o53 P) .nil .nil)) (.node (o29 P) (.node (o45 P) .nil .nil) (.node (o61 P) .nil .nil))))) (.node (o2 P) (.node (boot_o_4 P) (.node (boot_o_8 P) (.node (o16 P) (.node (o32 P) (.node (o64 P) .nil .nil) .nil) (.node (o48 P) .nil .nil)) (.node (o24 P) (.node (o40 P) .nil .nil) (.node (o56 P) .nil .nil))) (.node (o12v3 P) (.node (o20 P) (.node (o36 P) (.node (o68 P) .nil .nil) .nil) (.node (o52 P) .nil .nil)) (.node (o28 P) (.node (o44 P) .nil .nil) (.node (o60 P) .nil .nil)))) (.node (boot_o_6 P) (.node (boot_o_10 P) (.node (o18 P) (.node (o34 P) (.node (o66 P) .nil .nil) .nil) (.node (o50 P) .nil .nil)) (.node (o26 P) (.node (o42 P) .nil .nil) (.node (o58 P) .nil .nil))) (.node (o14 P) (.node (o22 P) (.node (o38 P) .nil .nil) (.node (o54 P) .nil .nil)) (.node (o30 P) (.node (o46 P) .nil .nil) (.node (o62 P) .nil .nil))))))
noncomputable def S4 (w : World) (os : OsState) : SharedT := ⟨T4 w.params, 70, (Life.mk [] [] [] 0 [] [] false #[] [] 0 false false false 0 [2000, 10, 10] false 0 true [] [] 0 false), #[], (Drawn.mk 0 0 0 0), 316, os⟩
noncomputable def pos4 : Pos := ⟨26, 0, 26, 6⟩
noncomputable def o3v5 (P : Params) : Obj := (Obj.mk (Value.type "dict") none (Data.dict #[(DictEntry.mk (PyData.keyHash P (Str.ofString "__name__")) (Value.str (Str.ofString "__name__") 165) (Value.str (Str.ofString "cpy313.stringprep") 254)), (DictEntry.mk (PyData.keyHash P (Str.ofString "__doc__")) (Value.str (Str.ofString "__doc__") 166) Value.none), (DictEntry.mk (PyData.keyHash P (Str.ofString "__package__")) (Value.str (Str.ofString "__package__") 167) Value.none), (DictEntry.mk (PyData.keyHash P (Str.ofString "__loader__")) (Value.str (Str.ofString "__loader__") 168) (Value.builtin "__main__.__loader__#opaque")), (DictEntry.mk (PyData.keyHash P (Str.ofString "__spec__")) (Value.str (Str.ofString "__spec__") 169) Value.none), (DictEntry.mk (PyData.keyHash P (Str.ofString "__annotations__")) (Value.str (Str.ofString "__annotations__") 170) (Value.ref 6)), (DictEntry.mk (PyData.keyHash P (Str.ofString "__builtins__")) (Value.str (Str.ofString "__builtins__") 171) (Value.ref 4)), (DictEntry.mk (PyData.keyHash P (Str.ofString "__file__")) (Value.str (Str.ofString "__file__") 173) (Value.str (Str.ofString "/claim/cut.py") 172)), (DictEntry.mk (PyData.keyHash P (Str.ofString "__cached__")) (Value.str (Str.ofString "__cached__") 174) Value.none), (DictEntry.mk (PyData.keyHash P (Str.ofString "Error")) (Value.str (Str.ofString "Error") 208) (Value.ref 24)), (DictEntry.mk (PyData.keyHash P (Str.ofString "error_reply")) (Value.str (Str.ofString "error_reply") 224) (Value.ref 37)), (DictEntry.mk (PyData.keyHash P (Str.ofString "error_proto")) (Value.str (Str.ofString "error_proto") 240) (Value.ref 49)), (DictEntry.mk (PyData.keyHash P (Str.ofString "parse229")) (Value.str (Str.ofString "parse229") 253) (Value.ref 58)), (DictEntry.mk (PyData.keyHash P (Str.ofString "b1_set")) (Value.str (Str.ofString "b1_set") 315) (Value.ref 66)), (DictEntry.mk (PyData.keyHash P (Str.ofString "in_table_b1")) (Value.str (Str.ofString "in_table_b1") 322) (Value.ref 76))] 15) #[])
noncomputable def o12v5 (P : Params) : Obj := (Obj.mk Value.none none (Data.fields #[(Value.int 2 0), (Value.int 0 0), (Value.ref 20), (Value.int 4 0), (Value.int 0 0), (Value.ref 33), (Value.int 6 0), (Value.int 0 0), (Value.ref 45), (Value.int 8 0), (Value.int 0 0), (Value.ref 57), (Value.int 27 0), (Value.int 0 0), (Value.ref 75)]) #[])
noncomputable def o70 (P : Params) : Obj := kAt P 70
noncomputable def o71 (P : Params) : Obj := (Obj.mk Value.none none (Data.fields #[]) #[])
noncomputable def o72 (P : Params) : Obj := kAt P 72
noncomputable def o73 (P : Params) : Obj := kAt P 73
noncomputable def o74 (P : Params) : Obj := by
  refine' (?F : (d : Obj) → @Eq Obj ((Obj.mk Value.none none (Data.func (FuncData.mk (Str.ofString "in_table_b1") (Str.ofString "in_table_b1") rec7.params (FuncBody.stmts rec7.body) rec7.scope 0 [] Value.none Value.none Value.none Value.none none Value.none Value.none 0)) #[])) d → Obj) _ (by dsimp only [rec7])
  exact fun d _ => d
noncomputable def o75 (P : Params) : Obj := kAt P 75
noncomputable def o76 (P : Params) : Obj := kAt P 76
noncomputable def T5 (P : Params) : BT := (.node (boot_o_0 P) (.node (boot_o_1 P) (.node (o3v5 P) (.node (boot_o_7 P) (.node (o15 P) (.node (o31 P) (.node (o63 P) .nil .nil) .nil) (.node (o47 P) .nil .nil)) (.node (o23 P) (.node (o39 P) (.node (o71 P) .nil .nil) .nil) (.node (o55 P) .nil .nil))) (.node (o11 P) (.node (o19 P) (.node (o35 P) (.node (o67 P) .nil .nil) .nil) (.node (o51 P) .nil .nil)) (.node (o27 P) (.node (o43 P) (.node (o75 P) .nil .nil) .nil) (.node (o59 P) .nil .nil)))) (.node (boot_o_5 P) (.node (boot_o_9 P) (.node (o17 P) (.node (o33 P) (.node (o65 P) .nil .nil) .nil) (.node (o49 P) .nil .nil)) (.node (o25 P) (.node (o41 P) (.node (o73 P) .nil .nil) .nil) (.node (o57 P) .nil .nil))) (.node (o13 P) (.node (o21 P) (.node (o37 P) (.node (o69 P) .nil .nil) .nil) (.node (o53 P) .nil .nil)) (.node (o29 P) (.node (o45 P) .nil .nil) (.node (o61 P) .nil .nil))))) (.node (o2 P) (.node (boot_o_4 P) (.node (boot_o_8 P) (.node (o16 P) (.node (o32 P) (.node (o64 P) .nil .nil) .nil) (.node (o48 P) .nil .nil)) (.node (o24 P) (.node (o40 P) (.node (o72 P) .nil .nil) .nil) (.node (o56 P) .nil .nil))) (.node (o12v5 P) (.node (o20 P) (.node (o36 P) (.node (o68 P) .nil .nil) .nil) (.node (o52 P) .nil .nil)) (.node (o28 P) (.node (o44 P) (.node (o76 P) .nil .nil) .nil) (.node (o60 P) .nil .nil)))) (.node (boot_o_6 P) (.node (boot_o_10 P) (.node (o18 P) (.node (o34 P) (.node (o66 P) .nil .nil) .nil) (.node (o50 P) .nil .nil)) (.node (o26 P) (.node (o42 P) (.node (o74 P) .nil .nil) .nil) (.node (o58 P) .nil .nil))) (.node (o14 P) (.node (o22 P) (.node (o38 P) (.node (o70 P) .nil .nil) .nil) (.node (o54 P) .nil .nil)) (.node (o30 P) (.node (o46 P) .nil .nil) (.node (o62 P) .nil .nil))))))
noncomputable def S5 (w : World) (os : OsState) : SharedT := ⟨T5 w.params, 77, (Life.mk [] [] [] 0 [] [] false #[] [] 0 false false false 0 [2000, 10, 10] false 0 true [] [] 0 false), #[], (Drawn.mk 0 0 0 0), 323, os⟩
noncomputable def pos5 : Pos := ⟨27, 0, 28, 30⟩
noncomputable def o3v6 (P : Params) : Obj := (Obj.mk (Value.type "dict") none (Data.dict #[(DictEntry.mk (PyData.keyHash P (Str.ofString "__name__")) (Value.str (Str.ofString "__name__") 165) (Value.str (Str.ofString "cpy313.stringprep") 254)), (DictEntry.mk (PyData.keyHash P (Str.ofString "__doc__")) (Value.str (Str.ofString "__doc__") 166) Value.none), (DictEntry.mk (PyData.keyHash P (Str.ofString "__package__")) (Value.str (Str.ofString "__package__") 167) Value.none), (DictEntry.mk (PyData.keyHash P (Str.ofString "__loader__")) (Value.str (Str.ofString "__loader__") 168) (Value.builtin "__main__.__loader__#opaque")), (DictEntry.mk (PyData.keyHash P (Str.ofString "__spec__")) (Value.str (Str.ofString "__spec__") 169) Value.none), (DictEntry.mk (PyData.keyHash P (Str.ofString "__annotations__")) (Value.str (Str.ofString "__annotations__") 170) (Value.ref 6)), (DictEntry.mk (PyData.keyHash P (Str.ofString "__builtins__")) (Value.str (Str.ofString "__builtins__") 171) (Value.ref 4)), (DictEntry.mk (PyData.keyHash P (Str.ofString "__file__")) (Value.str (Str.ofString "__file__") 173) (Value.str (Str.ofString "/claim/cut.py") 172)), (DictEntry.mk (PyData.keyHash P (Str.ofString "__cached__")) (Value.str (Str.ofString "__cached__") 174) Value.none), (DictEntry.mk (PyData.keyHash P (Str.ofString "Error")) (Value.str (Str.ofString "Error") 208) (Value.ref 24)), (DictEntry.mk (PyData.keyHash P (Str.ofString "error_reply")) (Value.str (Str.ofString "error_reply") 224) (Value.ref 37)), (DictEntry.mk (PyData.keyHash P (Str.ofString "error_proto")) (Value.str (Str.ofString "error_proto") 240) (Value.ref 49)), (DictEntry.mk (PyData.keyHash P (Str.ofString "parse229")) (Value.str (Str.ofString "parse229") 253) (Value.ref 58)), (DictEntry.mk (PyData.keyHash P (Str.ofString "b1_set")) (Value.str (Str.ofString "b1_set") 315) (Value.ref 66)), (DictEntry.mk (PyData.keyHash P (Str.ofString "in_table_b1")) (Value.str (Str.ofString "in_table_b1") 322) (Value.ref 76)), (DictEntry.mk (PyData.keyHash P (Str.ofString "b3_exceptions")) (Value.str (Str.ofString "b3_exceptions") 2273) (Value.ref 77))] 16) #[])
noncomputable def T6 (P : Params) : BT := (.node (boot_o_0 P) (.node (boot_o_1 P) (.node (o3v6 P) (.node (boot_o_7 P) (.node (o15 P) (.node (o31 P) (.node (o63 P) .nil .nil) (.node (oS18 P) .nil .nil)) (.node (o47 P) (.node (oS2 P) .nil .nil) (.node (oS34 P) .nil .nil))) (.node (o23 P) (.node (o39 P) (.node (o71 P) .nil .nil) (.node (oS26 P) .nil .nil)) (.node (o55 P) (.node (oS10 P) .nil .nil) .nil))) (.node (o11 P) (.node (o19 P) (.node (o35 P) (.node (o67 P) .nil .nil) (.node (oS22 P) .nil .nil)) (.node (o51 P) (.node (oS6 P) .nil .nil) (.node (oS38 P) .nil .nil))) (.node (o27 P) (.node (o43 P) (.node (o75 P) .nil .nil) (.node (oS30 P) .nil .nil)) (.node (o59 P) (.node (oS14 P) .nil .nil) .nil)))) (.node (boot_o_5 P) (.node (boot_o_9 P) (.node (o17 P) (.node (o33 P) (.node (o65 P) .nil .nil) (.node (oS20 P) .nil .nil)) (.node (o49 P) (.node (oS4 P) .nil .nil) (.node (oS36 P) .nil .nil))) (.node (o25 P) (.node (o41 P) (.node (o73 P) .nil .nil) (.node (oS28 P) .nil .nil)) (.node (o57 P) (.node (oS12 P) .nil .nil) .nil))) (.node (o13 P) (.node (o21 P) (.node (o37 P) (.node (o69 P) .nil .nil) (.node (oS24 P) .nil .nil)) (.node (o53 P) (.node (oS8 P) .nil .nil) .nil)) (.node (o29 P) (.node (o45 P) (.node (o77d P) .nil .nil) (.node (oS32 P) .nil .nil)) (.node (o61 P) (.node (oS16 P) .nil .nil) .nil))))) (.node (o2 P) (.node (boot_o_4 P) (.node (boot_o_8 P) (.node (o16 P) (.node (o32 P) (.node (o64 P) .nil .nil) (.node (oS19 P) .nil .nil)) (.node (o48 P) (.node (oS3 P) .nil .nil) (.node (oS35 P) .nil .nil))) (.node (o24 P) (.node (o40 P) (.node (o72 P) .nil .nil) (.node (oS27 P) .nil .nil)) (.node (o56 P) (.node (oS11 P) .nil .nil) .nil))) (.node (o12v5 P) (.node (o20 P) (.node (o36 P) (.node (o68 P) .nil .nil) (.node (oS23 P) .nil .nil)) (.node (o52 P) (.node (oS7 P) .nil .nil) .nil)) (.node (o28 P) (.node (o44 P) (.node (o76 P) .nil .nil) (.node (oS31 P) .nil .nil)) (.node (o60 P) (.node (oS15 P) .nil .nil) .nil)))) (.node (boot_o_6 P) (.node (boot_o_10 P) (.node (o18 P) (.node (o34 P) (.node (o66 P) .nil .nil) (.node (oS21 P) .nil .nil)) (.node (o50 P) (.node (oS5 P) .nil .nil) (.node (oS37 P) .nil .nil))) (.node (o26 P) (.node (o42 P) (.node (o74 P) .nil .nil) (.node (oS29 P) .nil .nil)) (.node (o58 P) (.node (oS13 P) .nil .nil) .nil))) (.node (o14 P) (.node (o22 P) (.node (o38 P) (.node (o70 P) .nil .nil) (.node (oS25 P) .nil .nil)) (.node (o54 P) (.node (oS9 P) .nil .nil) .nil)) (.node (o30 P) (.node (o46 P) (.node (oS1 P) .nil .nil) (.node (oS33 P) .nil .nil)) (.node (o62 P) (.node (oS17 P) .nil .nil) .nil))))))
noncomputable def S6 (w : World) (os : OsState) : SharedT := ⟨T6 w.params, 116, (Life.mk [] [] [] 0 [] [] false #[] [] 0 false false false 0 [2000, 10, 10] false 0 true [] [] 0 false), #[], (Drawn.mk 0 0 0 0), 2274, os⟩
noncomputable def pos6 : Pos := ⟨29, 0, 29, 13⟩
noncomputable def o3 (P : Params) : Obj := kAt P 3
noncomputable def o12 (P : Params) : Obj := (Obj.mk Value.none none (Data.fields #[(Value.int 2 0), (Value.int 0 0), (Value.ref 20), (Value.int 4 0), (Value.int 0 0), (Value.ref 33), (Value.int 6 0), (Value.int 0 0), (Value.ref 45), (Value.int 8 0), (Value.int 0 0), (Value.ref 57), (Value.int 27 0), (Value.int 0 0), (Value.ref 75), (Value.int 30 0), (Value.int 0 0), (Value.ref 121), (Value.int 39 0), (Value.int 0 0), (Value.ref 128), (Value.int 45 0), (Value.int 0 0), (Value.ref 135), (Value.int 84 0), (Value.int 0 0), (Value.ref 142), (Value.int 99 0), (Value.int 0 0), (Value.ref 149), (Value.int 104 0), (Value.int 0 0), (Value.ref 154), (Value.int 106 0), (Value.int 0 0), (Value.ref 159), (Value.int 109 0), (Value.int 0 0), (Value.ref 164)]) #[])
noncomputable def o116 (P : Params) : Obj := kAt P 116
noncomputable def o117 (P : Params) : Obj := (Obj.mk Value.none none (Data.fields #[]) #[])
noncomputable def o118 (P : Params) : Obj := kAt P 118
noncomputable def o119 (P : Params) : Obj := kAt P 119
noncomputable def o120 (P : Params) : Obj := by
  refine' (?F : (d : Obj) → @Eq Obj ((Obj.mk Value.none none (Data.func (FuncData.mk (Str.ofString "map_table_b3") (Str.ofString "map_table_b3") rec9.params (FuncBody.stmts rec9.body) rec9.scope 0 [] Value.none Value.none Value.none Value.none none Value.none Value.none 0)) #[])) d → Obj) _ (by dsimp only [rec9])
  exact fun d _ => d
noncomputable def o121 (P : Params) : Obj := kAt P 121
noncomputable def o122 (P : Params) : Obj := kAt P 122
noncomputable def o123 (P : Params) : Obj := kAt P 123
noncomputable def o124 (P : Params) : Obj := (Obj.mk Value.none none (Data.fields #[]) #[])
noncomputable def o125 (P : Params) : Obj := kAt P 125
noncomputable def o126 (P : Params) : Obj := kAt P 126
noncomputable def o127 (P : Params) : Obj := by
  refine' (?F : (d : Obj) → @Eq Obj ((Obj.mk Value.none none (Data.func (FuncData.mk (Str.ofString "_substitution_cost") (Str.ofString "_substitution_cost") rec14.params (FuncBody.stmts rec14.body) rec14.scope 0 [] Value.none Value.none Value.none Value.none none Value.none Value.none 0)) #[])) d → Obj) _ (by dsimp only [rec14])
  exact fun d _ => d
noncomputable def o128 (P : Params) : Obj := kAt P 128
noncomputable def o129 (P : Params) : Obj := kAt P 129
noncomputable def o130 (P : Params) : Obj := kAt P 130
noncomputable def o131 (P : Params) : Obj := (Obj.mk Value.none none (Data.fields #[]) #[])
noncomputable def o132 (P : Params) : Obj := kAt P 132
noncomputable def o133 (P : Params) : Obj := kAt P 133
noncomputable def o134 (P : Params) : Obj := by
  refine' (?F : (d : Obj) → @Eq Obj ((Obj.mk Value.none none (Data.func (FuncData.mk (Str.ofString "_levenshtein_distance") (Str.ofString "_levenshtein_distance") rec15.params (FuncBody.stmts rec15.body) rec15.scope 0 [] Value.none Value.none Value.none Value.none none Value.none Value.none 0)) #[])) d → Obj) _ (by dsimp only [rec15])
  exact fun d _ => d
noncomputable def o135 (P : Params) : Obj := kAt P 135
noncomputable def o136 (P : Params) : Obj := kAt P 136
noncomputable def o137 (P : Params) : Obj := kAt P 137
noncomputable def o138 (P : Params) : Obj := (Obj.mk Value.none none (Data.fields #[]) #[])
noncomputable def o139 (P : Params) : Obj := kAt P 139
noncomputable def o140 (P : Params) : Obj := kAt P 140
noncomputable def o141 (P : Params) : Obj := by
  refine' (?F : (d : Obj) → @Eq Obj ((Obj.mk Value.none none (Data.func (FuncData.mk (Str.ofString "_law_forms") (Str.ofString "_law_forms") rec17.params (FuncBody.stmts rec17.body) rec17.scope 0 [] Value.none Value.none Value.none Value.none none Value.none Value.none 0)) #[])) d → Obj) _ (by dsimp only [rec17])
  exact fun d _ => d
noncomputable def o142 (P : Params) : Obj := kAt P 142
noncomputable def o143 (P : Params) : Obj := kAt P 143
noncomputable def o144 (P : Params) : Obj := kAt P 144
noncomputable def o145 (P : Params) : Obj := (Obj.mk Value.none none (Data.fields #[]) #[])
noncomputable def o146 (P : Params) : Obj := kAt P 146
noncomputable def o147 (P : Params) : Obj := kAt P 147
noncomputable def o148 (P : Params) : Obj := by
  refine' (?F : (d : Obj) → @Eq Obj ((Obj.mk Value.none none (Data.func (FuncData.mk (Str.ofString "_law_told") (Str.ofString "_law_told") rec18.params (FuncBody.stmts rec18.body) rec18.scope 0 [] Value.none Value.none Value.none Value.none none Value.none Value.none 0)) #[])) d → Obj) _ (by dsimp only [rec18])
  exact fun d _ => d
noncomputable def o149 (P : Params) : Obj := kAt P 149
noncomputable def o150 (P : Params) : Obj := kAt P 150
noncomputable def o151 (P : Params) : Obj := kAt P 151
noncomputable def o152 (P : Params) : Obj := (Obj.mk Value.none none (Data.fields #[]) #[])
noncomputable def o153 (P : Params) : Obj := by
  refine' (?F : (d : Obj) → @Eq Obj ((Obj.mk Value.none none (Data.func (FuncData.mk (Str.ofString "_law_prepared") (Str.ofString "_law_prepared") rec19.params (FuncBody.stmts rec19.body) rec19.scope 0 [] Value.none Value.none Value.none Value.none none Value.none Value.none 0)) #[])) d → Obj) _ (by dsimp only [rec19])
  exact fun d _ => d
noncomputable def o154 (P : Params) : Obj := kAt P 154
noncomputable def o155 (P : Params) : Obj := kAt P 155
noncomputable def o156 (P : Params) : Obj := kAt P 156
noncomputable def o157 (P : Params) : Obj := (Obj.mk Value.none none (Data.fields #[]) #[])
noncomputable def o158 (P : Params) : Obj := by
  refine' (?F : (d : Obj) → @Eq Obj ((Obj.mk Value.none none (Data.func (FuncData.mk (Str.ofString "_law_reply") (Str.ofString "_law_reply") rec20.params (FuncBody.stmts rec20.body) rec20.scope 0 [] Value.none Value.none Value.none Value.none none Value.none Value.none 0)) #[])) d → Obj) _ (by dsimp only [rec20])
  exact fun d _ => d
noncomputable def o159 (P : Params) : Obj := kAt P 159
noncomputable def o160 (P : Params) : Obj := kAt P 160
noncomputable def o161 (P : Params) : Obj := kAt P 161
noncomputable def o162 (P : Params) : Obj := (Obj.mk Value.none none (Data.fields #[]) #[])
noncomputable def o163 (P : Params) : Obj := by
  refine' (?F : (d : Obj) → @Eq Obj ((Obj.mk Value.none none (Data.func (FuncData.mk (Str.ofString "law") (Str.ofString "law") rec21.params (FuncBody.stmts rec21.body) rec21.scope 0 [] Value.none Value.none Value.none Value.none none Value.none Value.none 0)) #[])) d → Obj) _ (by dsimp only [rec21])
  exact fun d _ => d
noncomputable def o164 (P : Params) : Obj := kAt P 164
noncomputable def o165 (P : Params) : Obj := kAt P 165
noncomputable def T7 (P : Params) : BT := (.node (boot_o_0 P) (.node (boot_o_1 P) (.node (o3 P) (.node (boot_o_7 P) (.node (o15 P) (.node (o31 P) (.node (o63 P) (.node (o127 P) .nil .nil) .nil) (.node (oS18 P) (.node (o159 P) .nil .nil) .nil)) (.node (o47 P) (.node (oS2 P) (.node (o143 P) .nil .nil) .nil) (.node (oS34 P) .nil .nil))) (.node (o23 P) (.node (o39 P) (.node (o71 P) (.node (o135 P) .nil .nil) .nil) (.node (oS26 P) .nil .nil)) (.node (o55 P) (.node (oS10 P) (.node (o151 P) .nil .nil) .nil) (.node (o119 P) .nil .nil)))) (.node (o11 P) (.node (o19 P) (.node (o35 P) (.node (o67 P) (.node (o131 P) .nil .nil) .nil) (.node (oS22 P) (.node (o163 P) .nil .nil) .nil)) (.node (o51 P) (.node (oS6 P) (.node (o147 P) .nil .nil) .nil) (.node (oS38 P) .nil .nil))) (.node (o27 P) (.node (o43 P) (.node (o75 P) (.node (o139 P) .nil .nil) .nil) (.node (oS30 P) .nil .nil)) (.node (o59 P) (.node (oS14 P) (.node (o155 P) .nil .nil) .nil) (.node (o123 P) .nil .nil))))) (.node (boot_o_5 P) (.node (boot_o_9 P) (.node (o17 P) (.node (o33 P) (.node (o65 P) (.node (o129 P) .nil .nil) .nil) (.node (oS20 P) (.node (o161 P) .nil .nil) .nil)) (.node (o49 P) (.node (oS4 P) (.node (o145 P) .nil .nil) .nil) (.node (oS36 P) .nil .nil))) (.node (o25 P) (.node (o41 P) (.node (o73 P) (.node (o137 P) .nil .nil) .nil) (.node (oS28 P) .nil .nil)) (.node (o57 P) (.node (oS12 P) (.node (o153 P) .nil .nil) .nil) (.node (o121 P) .nil .nil)))) (.node (o13 P) (.node (o21 P) (.node (o37 P) (.node (o69 P) (.node (o133 P) .nil .nil) .nil) (.node (oS24 P) (.node (o165 P) .nil .nil) .nil)) (.node (o53 P) (.node (oS8 P) (.node (o149 P) .nil .nil) .nil) (.node (o117 P) .nil .nil))) (.node (o29 P) (.node (o45 P) (.node (o77d P) (.node (o141 P) .nil .nil) .nil) (.node (oS32 P) .nil .nil)) (.node (o61 P) (.node (oS16 P) (.node (o157 P) .nil .nil) .nil) (.node (o125 P) .nil .nil)))))) (.node (o2 P) (.node (boot_o_4 P) (.node (boot_o_8 P) (.node (o16 P) (.node (o32 P) (.node (o64 P) (.node (o128 P) .nil .nil) .nil) (.node (oS19 P) (.node (o160 P) .nil .nil) .nil)) (.node (o48 P) (.node (oS3 P) (.node (o144 P) .nil .nil) .nil) (.node (oS35 P) .nil .nil))) (.node (o24 P) (.node (o40 P) (.node (o72 P) (.node (o136 P) .nil .nil) .nil) (.node (oS27 P) .nil .nil)) (.node (o56 P) (.node (oS11 P) (.node (o152 P) .nil .nil) .nil) (.node (o120 P) .nil .nil)))) (.node (o12 P) (.node (o20 P) (.node (o36 P) (.node (o68 P) (.node (o132 P) .nil .nil) .nil) (.node (oS23 P) (.node (o164 P) .nil .nil) .nil)) (.node (o52 P) (.node (oS7 P) (.node (o148 P) .nil .nil) .nil) (.node (o116 P) .nil .nil))) (.node (o28 P) (.node (o44 P) (.node (o76 P) (.node (o140 P) .nil .nil) .nil) (.node (oS31 P) .nil .nil)) (.node (o60 P) (.node (oS15 P) (.node (o156 P) .nil .nil) .nil) (.node (o124 P) .nil .nil))))) (.node (boot_o_6 P) (.node (boot_o_10 P) (.node (o18 P) (.node (o34 P) (.node (o66 P) (.node (o130 P) .nil .nil) .nil) (.node (oS21 P) (.node (o162 P) .nil .nil) .nil)) (.node (o50 P) (.node (oS5 P) (.node (o146 P) .nil .nil) .nil) (.node (oS37 P) .nil .nil))) (.node (o26 P) (.node (o42 P) (.node (o74 P) (.node (o138 P) .nil .nil) .nil) (.node (oS29 P) .nil .nil)) (.node (o58 P) (.node (oS13 P) (.node (o154 P) .nil .nil) .nil) (.node (o122 P) .nil .nil)))) (.node (o14 P) (.node (o22 P) (.node (o38 P) (.node (o70 P) (.node (o134 P) .nil .nil) .nil) (.node (oS25 P) .nil .nil)) (.node (o54 P) (.node (oS9 P) (.node (o150 P) .nil .nil) .nil) (.node (o118 P) .nil .nil))) (.node (o30 P) (.node (o46 P) (.node (oS1 P) (.node (o142 P) .nil .nil) .nil) (.node (oS33 P) .nil .nil)) (.node (o62 P) (.node (oS17 P) (.node (o158 P) .nil .nil) .nil) (.node (o126 P) .nil .nil)))))))
noncomputable def S7 (w : World) (os : OsState) : SharedT := ⟨T7 w.params, 166, (Life.mk [] [] [] 0 [] [] false #[] [] 0 false false false 0 [2000, 10, 10] false 0 true [] [] 0 false), #[], (Drawn.mk 0 0 0 0), 2362, os⟩
noncomputable def pos7 : Pos := ⟨109, 0, 139, 15⟩

noncomputable def env : Env := { scope := pw.main.scope, locals := mainNs, globals := mainNs, cells := [], code := .ref 13, frame := some 14 }
noncomputable def body : List Stmt := behindTheImports pw
noncomputable def cE : Code := .body body env
noncomputable def B : List Frame := [topFrame ⟨0, 0, 0, 0⟩]

set_option maxHeartbeats 0 in
theorem piece1s (w : World) (os : OsState) : PySem.W.Fast.tw10110043849684766642 PySem.W.Fast.tw14364793385576792824 pw w 11 (some (.ref 6)) 1 206 (S0 w os) ⟨(PySem.W.Fast.tw12563942051412417395 ((body.drop 0).take 2) env).wrap doneF deadEnd id id, cE, pos0, B⟩ = some (.next, S1 w os, cE, pos1) := by kernel_rfl
theorem piece1 (w : World) (os : OsState) : segRunT treeTable pw w 11 (some (.ref 6)) 1 206 (S0 w os) (piecesOf ((body.drop 0).take 2) env cE pos0 B) = some (.next, S1 w os, cE, pos1) := by
  rw [PySem.W.Fast.te10110043849684766642, PySem.W.Fast.te14364793385576792824]
  show _ = _
  have h := piece1s w os
  rw [← PySem.W.Fast.te12563942051412417395] at h
  exact h

set_option maxHeartbeats 0 in
theorem piece2s (w : World) (os : OsState) : PySem.W.Fast.tw10110043849684766642 PySem.W.Fast.tw14364793385576792824 pw w 11 (some (.ref 6)) 1 214 (S1 w os) ⟨(PySem.W.Fast.tw12563942051412417395 ((body.drop 2).take 1) env).wrap doneF deadEnd id id, cE, pos1, B⟩ = some (.next, S2 w os, cE, pos2) := by kernel_rfl
theorem piece2 (w : World) (os : OsState) : segRunT treeTable pw w 11 (some (.ref 6)) 1 214 (S1 w os) (piecesOf ((body.drop 2).take 1) env cE pos1 B) = some (.next, S2 w os, cE, pos2) := by
  rw [PySem.W.Fast.te10110043849684766642, PySem.W.Fast.te14364793385576792824]
  show _ = _
  have h := piece2s w os
  rw [← PySem.W.Fast.te12563942051412417395] at h
  exact h

set_option maxHeartbeats 0 in
theorem piece3s (w : World) (os : OsState) : PySem.W.Fast.tw10110043849684766642 PySem.W.Fast.tw14364793385576792824 pw w 11 (some (.ref 6)) 1 258 (S2 w os) ⟨(PySem.W.Fast.tw12563942051412417395 ((body.drop 3).take 3) env).wrap doneF deadEnd id id, cE, pos2, B⟩ = some (.next, S3 w os, cE, pos3) := by kernel_rfl
theorem piece3 (w : World) (os : OsState) : segRunT treeTable pw w 11 (some (.ref 6)) 1 258 (S2 w os) (piecesOf ((body.drop 3).take 3) env cE pos2 B) = some (.next, S3 w os, cE, pos3) := by
  rw [PySem.W.Fast.te10110043849684766642, PySem.W.Fast.te14364793385576792824]
  show _ = _
  have h := piece3s w os
  rw [← PySem.W.Fast.te12563942051412417395] at h
  exact h

set_option maxHeartbeats 0 in
theorem piece4s (w : World) (os : OsState) : PySem.W.Fast.tw10110043849684766642 PySem.W.Fast.tw14364793385576792824 pw w 11 (some (.ref 6)) 1 999 (S3 w os) ⟨(PySem.W.Fast.tw12563942051412417395 ((body.drop 6).take 1) env).wrap doneF deadEnd id id, cE, pos3, B⟩ = some (.next, S4 w os, cE, pos4) := by
  revert os w
  intro w
  refine byRow2 "special-get-raises" (P := fun w => ∀ os, PySem.W.Fast.tw10110043849684766642 PySem.W.Fast.tw14364793385576792824 pw w 11 (some (.ref 6)) 1 999 (S3 w os) ⟨(PySem.W.Fast.tw12563942051412417395 ((body.drop 6).take 1) env).wrap doneF deadEnd id id, cE, pos3, B⟩ = some (.next, S4 w os, cE, pos4)) ?_ ?_ w
  · intro w os; kernel_rfl
  · intro w os; kernel_rfl
theorem piece4 (w : World) (os : OsState) : segRunT treeTable pw w 11 (some (.ref 6)) 1 999 (S3 w os) (piecesOf ((body.drop 6).take 1) env cE pos3 B) = some (.next, S4 w os, cE, pos4) := by
  rw [PySem.W.Fast.te10110043849684766642, PySem.W.Fast.te14364793385576792824]
  show _ = _
  have h := piece4s w os
  rw [← PySem.W.Fast.te12563942051412417395] at h
  exact h

set_option maxHeartbeats 0 in
theorem piece5s (w : World) (os : OsState) : PySem.W.Fast.tw10110043849684766642 PySem.W.Fast.tw14364793385576792824 pw w 11 (some (.ref 6)) 1 30 (S4 w os) ⟨(PySem.W.Fast.tw12563942051412417395 ((body.drop 7).take 1) env).wrap doneF deadEnd id id, cE, pos4, B⟩ = some (.next, S5 w os, cE, pos5) := by kernel_rfl
theorem piece5 (w : World) (os : OsState) : segRunT treeTable pw w 11 (some (.ref 6)) 1 30 (S4 w os) (piecesOf ((body.drop 7).take 1) env cE pos4 B) = some (.next, S5 w os, cE, pos5) := by
  rw [PySem.W.Fast.te10110043849684766642, PySem.W.Fast.te14364793385576792824]
  show _ = _
  have h := piece5s w os
  rw [← PySem.W.Fast.te12563942051412417395] at h
  exact h

set_option maxHeartbeats 0 in
theorem piece7s (w : World) (os : OsState) : PySem.W.Fast.tw10110043849684766642 PySem.W.Fast.tw14364793385576792824 pw w 11 (some (.ref 6)) 1 294 (S6 w os) ⟨(PySem.W.Fast.tw12563942051412417395 ((body.drop 9).take 13) env).wrap doneF deadEnd id id, cE, pos6, B⟩ = some (.next, S7 w os, cE, pos7) := by kernel_rfl
theorem piece7 (w : World) (os : OsState) : segRunT treeTable pw w 11 (some (.ref 6)) 1 294 (S6 w os) (piecesOf ((body.drop 9).take 13) env cE pos6 B) = some (.next, S7 w os, cE, pos7) := by
  rw [PySem.W.Fast.te10110043849684766642, PySem.W.Fast.te14364793385576792824]
  show _ = _
  have h := piece7s w os
  rw [← PySem.W.Fast.te12563942051412417395] at h
  exact h
end
end T49
namespace T49
noncomputable section
noncomputable def kAs : List Addr := [2, 3, 6, 15, 22, 23, 24, 25, 28, 35, 36, 37, 40, 47, 48, 49, 52, 54, 55, 57, 58, 66, 70, 72, 73, 75, 76, 77, 116, 118, 119, 121, 122, 123, 125, 126, 128, 129, 130, 132, 133, 135, 136, 137, 139, 140, 142, 143, 144, 146, 147, 149, 150, 151, 154, 155, 156, 159, 160, 161, 164, 165]
theorem kAs_eq : ∀ P, kAs = (K P).map (·.1) := fun P => by kernel_rfl
noncomputable abbrev H : Hook := kHook K kAs kAs_eq
noncomputable def H1 (P : Params) : Heap := absHeap (T7 P) 166 (S7 ⟨fun _ _ => 0, P⟩ default).life
noncomputable def rw49 : OpenLaw := PySem.Challenge.rw_tp0049_01

theorem look1 (w : World) (os : OsState) : (staticsOk (importedModules pw.main.body) (boot_heap w.params) (H1 w.params) && namesBound pw (H1 w.params) && gensDone ⟨H1 w.params, #[], ⟨0, 0, 0, 0⟩, 2362, os⟩ && laidKept (boot_heap w.params) (H1 w.params)) = true := by kernel_rfl
theorem look3 (w : World) (os : OsState) : H.obs ⟨H1 w.params, #[], ⟨0, 0, 0, 0⟩, 2362, os⟩ = H.val w := by kernel_rfl
theorem look2 (w : World) (os : OsState) : openSeen vw loose (importedModules pw.main.body) (fun s => xlAt vw [] s && recOk (RowW.records (OpenLaw.row rw49).toRowW) s) true ⟨H1 w.params, #[], ⟨0, 0, 0, 0⟩, 2362, os⟩ = openGood vw loose := by
  rw [PySem.W.Fast.te4187177175401517315]
  kernel_rfl
end
end T49
namespace T49
noncomputable section
theorem openEq : opening pw = plainProg pw.main.scope.names := by kernel_rfl
theorem fenceEq : ∀ s, fenceModules? pw s = some s := fun s => by kernel_rfl
theorem openH : ∀ w : World, (fencedOpening treeTable pw w 30000).map (fun s => (s.heap, s.gens, s.drawn, s.toks)) = some (boot_heap w.params, Array.mk [], boot_drawn, boot_toks) :=
  boot_open openEq (by decide) fenceEq
theorem sizeH : ∀ w : World, ((boot_heap w.params).isNs mainGlobals && (Array.mk [] : Array GenState).size == 0, (boot_heap w.params).objs.size, (boot_heap w.params).nsMap mainGlobals "__annotations__") = (true, 11, some (.ref 6)) := fun w => by kernel_rfl
theorem preHs (w : World) (os : OsState) : PySem.W.Fast.tw15667345088766844465 PySem.W.Fast.tw14364793385576792824 pw w 11 (some (.ref 6)) 12 ⟨boot_heap w.params, Array.mk [], boot_drawn, boot_toks, os⟩ (topStub pw) = some ((S0 w os).abs, ⟨PySem.W.Fast.tw11892475500146522536 PySem.W.Fast.tw14364793385576792824 cE, cE, ⟨0, 0, 0, 0⟩, B⟩) := by
  kernel_rfl
theorem preH (w : World) (os : OsState) : topGo treeTable pw w 11 (some (.ref 6)) 12 ⟨boot_heap w.params, Array.mk [], boot_drawn, boot_toks, os⟩ (topStub pw) = some ((S0 w os).abs, ⟨denote treeTable cE, cE, ⟨0, 0, 0, 0⟩, B⟩) := by
  rw [PySem.W.Fast.te15667345088766844465, PySem.W.Fast.te11892475500146522536, PySem.W.Fast.te14364793385576792824]
  exact preHs w os
theorem blockH (w : World) (os : OsState) : segRun treeTable pw w 11 (some (.ref 6)) 1 1 (S0 w os).abs (blockOf body env cE ⟨0, 0, 0, 0⟩ B) = some (.next, (S0 w os).abs, cE, pos0) := by
  kernel_rfl
theorem finH (w : World) (os : OsState) : topRun treeTable pw w 11 (some (.ref 6)) 2 (S7 w os).abs ⟨doneF .next, cE, pos7, B⟩ = some (S7 w os).abs := by
  kernel_rfl
theorem bodyEq : body = (body.drop 0).take 2 ++ ((body.drop 2).take 1 ++ ((body.drop 3).take 3 ++ ((body.drop 6).take 1 ++ ((body.drop 7).take 1 ++ ((body.drop 8).take 1 ++ ((body.drop 9).take 13 ++ [])))))) := by kernel_rfl
end
end T49
namespace T49
noncomputable section
noncomputable def ascB : Nat → List (Nat × List Nat) → Bool
  | _, [] => true
  | lo, x :: r => Nat.blt lo x.1 && Nat.blt x.1 2147483648 && ascB x.1 r
theorem asc_of : ∀ (l : List (Nat × List Nat)) {lo : Nat}, ascB lo l = true → asc lo l
  | [], _, _ => trivial
  | x :: r, lo, h => by
    simp only [ascB, Bool.and_eq_true, Nat.blt_eq] at h
    exact ⟨by (first | lia | omega), by (first | lia | omega), asc_of r h.2⟩
noncomputable def c0 : List (Nat × List Nat) := b3raw.take 17
noncomputable def mids : List (List (Nat × List Nat)) := (List.range 37).map fun j => (b3raw.drop (17 * (j + 1))).take 17
noncomputable def last4 : List (Nat × List Nat) := b3raw.drop 646
theorem b3split : b3raw = c0 ++ (mids.flatten ++ last4) := by kernel_rfl
theorem b3asc : asc (-1) b3raw := asc_mono (lo := (0 : Nat)) (asc_of _ (by kernel_rfl)) (by decide)
theorem mids17 : ∀ ch ∈ mids, ch.length = 17 := by
  have : mids.all (fun ch => Nat.beq ch.length 17) = true := by kernel_rfl
  intro ch h
  exact Nat.eq_of_beq_eq_true (List.all_eq_true.mp this ch h)
noncomputable def stmt8 : Stmt := body.getD 8 default
noncomputable def dictE : PySem.Expr := match stmt8 with | .Assign _ v _ => v | _ => .Constant .none 0 default
noncomputable def tg8 : List PySem.Expr := match stmt8 with | .Assign t _ _ => t | _ => []
noncomputable def posA : Pos := match stmt8 with | .Assign _ _ p => p | _ => default
noncomputable def keysD : List (Option PySem.Expr) := match dictE with | .Dict k _ _ => k | _ => []
noncomputable def valsD : List PySem.Expr := match dictE with | .Dict _ v _ => v | _ => []
noncomputable def posD : Pos := match dictE with | .Dict _ _ p => p | _ => default
theorem stmt8_eq : (body.drop 8).take 1 = [Stmt.Assign tg8 (.Dict keysD valsD posD) posA] := by kernel_rfl
theorem items_eq : (evalEachOpt keysD env).zip ((evalEach valsD env).map fun v => do let x ← v; standAt posD; pure x) = b3raw.map (conv posD) := by kernel_rfl
noncomputable def restA (env : Env) (tg : List PySem.Expr) (value : PySem.Expr) (v : Value) : Sem Flow := do
  let x ← swappedStores tg value env
  let f ← assignStores env v x ((assignEach tg env).map (·.2))
  match f with
  | .next => execs [] env
  | f => pure f
theorem exec_dict {env : Env} {tg : List PySem.Expr} {keys : List (Option PySem.Expr)} {vals : List PySem.Expr} {posD posA : Pos} {items : List (Option (Sem Value) × Sem Value)} (hs : swapsWithSole tg (.Dict keys vals posD) posA.line env = pure false)
    (hi : (evalEachOpt keys env).zip ((evalEach vals env).map fun v => do let x ← v; standAt posD; pure x) = items) :
    execs [Stmt.Assign tg (.Dict keys vals posD) posA] env = (do standAt posA; standAt posD; dictDisplay items) >>= restA env tg (.Dict keys vals posD) := by
  rw [arm_execs_cons, arm_exec_Assign, hs, arm_eval_Dict, hi]
  simp only [bind_assoc, pure_bind, Bool.false_eq_true, if_false]
  rfl
theorem swaps8 : swapsWithSole tg8 (.Dict keysD valsD posD) posA.line env = pure false := by kernel_rfl
theorem exec8 : execs [Stmt.Assign tg8 (.Dict keysD valsD posD) posA] env = (do standAt posA; standAt posD; dictDisplay (b3raw.map (conv posD))) >>= restA env tg8 (.Dict keysD valsD posD) := exec_dict swaps8 items_eq
noncomputable def T6' (P : Params) : BT := (T6 P).set 3 (fun _ => o3v5 P)
noncomputable def S6' (w : World) (os : OsState) : SharedT := { S6 w os with tree := T6' w.params, toks := 2273 }
noncomputable abbrev lf (w : World) (os : OsState) : Life := (S5 w os).life
theorem S5_eq (w : World) (os : OsState) : (S5 w os).abs = stL (lf w os) #[] ⟨0, 0, 0, 0⟩ os ((T5 w.params).list 77) 323 := by kernel_rfl
theorem list77 (w : World) : ((T5 w.params).list 77).length = 77 := by kernel_rfl
theorem S6'_eq (w : World) (os : OsState) : stL (lf w os) #[] ⟨0, 0, 0, 0⟩ os ((T5 w.params).list 77 ++ dObj (ents 323 (c0 ++ mids.flatten) ++ ents2 (323 + 51 + 51 * mids.length) last4) (17 + mids.flatten.length + last4.length) :: (subsOf (323 + 51) mids ++ [dObj (ents2 (323 + 51 + 51 * mids.length) last4) last4.length])) (323 + 51 + 51 * mids.length + 3 * last4.length) = (S6' w os).abs := by kernel_rfl
theorem tail8 (w : World) (os : OsState) : segRunT treeTable pw w 11 (some (.ref 6)) 1 8 (S6' w os) ⟨(restA env tg8 (.Dict keysD valsD posD) (.ref 77)).wrap doneF deadEnd id id, cE, posD, B⟩ = some (.next, S6 w os, cE, pos6) := by
  rw [PySem.W.Fast.te10110043849684766642, PySem.W.Fast.te14364793385576792824]
  kernel_rfl
theorem piece6 (w : World) (os : OsState) : segRun treeTable pw w 11 (some (.ref 6)) 1 (2 + (223 + (330 * mids.length + (6 + 19 * last4.length))) + 8) (S5 w os).abs (piecesOf ((body.drop 8).take 1) env cE pos5 B) = some (.next, (S6 w os).abs, cE, pos6) := by
  have ht := segRun_of (tail8 w os)
  have hd := D_display (pr := pw) (w := w) (n₀ := 11) (ann := some (.ref 6)) (q := ⟨0, 0, 0, 0⟩) (bd := body) (env := env) (life := lf w os) (gens := #[]) (drawn := ⟨0, 0, 0, 0⟩) (os := os) (pos := posD) (A := (T5 w.params).list 77) (by rw [list77]; rfl) (by rw [list77]; decide)
    (c0 := c0) (last := last4) (cs := mids) (t := 323) (by kernel_rfl) mids17 (by intro e; have := congrArg List.length e; revert this; decide +kernel) (by decide +kernel) (by rw [← b3split]; exact b3asc) (by decide +kernel)
  rw [← b3split, S6'_eq, list77] at hd
  have hx : Does pw w 11 (some (.ref 6)) (.body body env) ⟨0, 0, 0, 0⟩ (2 + (223 + (330 * mids.length + (6 + 19 * last4.length)))) (do standAt posA; standAt posD; dictDisplay (b3raw.map (conv posD))) (S5 w os).abs pos5 (.ref 77) (S6' w os).abs posD := by
    rw [S5_eq]
    refine D_cast (m := 1 + (1 + (223 + (330 * mids.length + (6 + 19 * last4.length))))) ?_ (by (first | lia | omega))
    exact D_bind D_at (D_bind D_at hd)
  have h := hx (fun v => (restA env tg8 (.Dict keysD valsD posD) v).wrap doneF deadEnd id id) deadEnd id id
  have e : piecesOf ((body.drop 8).take 1) env cE pos5 B = ⟨((do standAt posA; standAt posD; dictDisplay (b3raw.map (conv posD))) : Sem Value).wrap (fun v => (restA env tg8 (.Dict keysD valsD posD) v).wrap doneF deadEnd id id) deadEnd id id, cE, pos5, B⟩ := by
    rw [stmt8_eq]
    show Thread.mk ((execs [Stmt.Assign tg8 (.Dict keysD valsD posD) posA] env).wrap doneF deadEnd id id) _ _ _ = _
    rw [exec8, Sem.bind_eq_wrap', Sem.wrap_wrap]
    rfl
  rw [e]
  exact seg_go h ht
end
end T49
namespace T49
noncomputable section
theorem runH (w : World) (os : OsState) : topRun treeTable pw w 11 (some (.ref 6)) (12 + (1 + (206 + (214 + (258 + (999 + (30 + ((2 + (223 + (330 * mids.length + (6 + 19 * last4.length))) + 8) + (294 + 2))))))))) ⟨boot_heap w.params, Array.mk [], boot_drawn, boot_toks, os⟩ (topStub pw) = some (S7 w os).abs := by
  refine go_top (preH w os) ?_
  refine piece_block (q := ⟨0, 0, 0, 0⟩) (blockH w os) ?_
  rw [bodyEq]
  refine piece_app (q := ⟨0, 0, 0, 0⟩) (segRun_of (piece1 w os)) ?_
  refine piece_app (q := ⟨0, 0, 0, 0⟩) (segRun_of (piece2 w os)) ?_
  refine piece_app (q := ⟨0, 0, 0, 0⟩) (segRun_of (piece3 w os)) ?_
  refine piece_app (q := ⟨0, 0, 0, 0⟩) (segRun_of (piece4 w os)) ?_
  refine piece_app (q := ⟨0, 0, 0, 0⟩) (segRun_of (piece5 w os)) ?_
  refine piece_app (q := ⟨0, 0, 0, 0⟩) (piece6 w os) ?_
  refine piece_app (q := ⟨0, 0, 0, 0⟩) (segRun_of (piece7 w os)) ?_
  exact piece_nil (finH w os)
theorem S7_abs (w : World) (os : OsState) : (S7 w os).abs = ⟨H1 w.params, #[], ⟨0, 0, 0, 0⟩, 2362, os⟩ := rfl
noncomputable abbrev XtH : Shared → Bool := fun s => xlAt vw [] s && recOk (RowW.records (OpenLaw.row rw49).toRowW) s
theorem leftH : LeftO pw vw loose XtH H.obs H.val 30000 :=
  LeftO.of_pieces openH sizeH (fun w os => (runH w os).trans (congrArg some (S7_abs w os))) (by decide +kernel)
    (fun w => by
      funext os
      exact looks_pair (look1 w os) (looks_pair (look2 w os) (look3 w os)))
end
end T49
namespace T49
theorem hdefL : defOf vw (Str.ofString "law") = some (dLaw, []) := by kernel_rfl
theorem hpL : pw.theDef (Str.ofString "law") = some (dLaw.params, dLaw.body, dLaw.scope) := by kernel_rfl
theorem hkL : kwWritten? dLaw.params.kwonlyargs dLaw.params.kw_defaults = some [] := by kernel_rfl
theorem okL : (chainsOk vw && opensWell (OpenLaw.row PySem.Challenge.rw_tp0049_01).prog && (frees (OpenLaw.row PySem.Challenge.rw_tp0049_01).toRowW && (OpenLaw.row PySem.Challenge.rw_tp0049_01).within.isEmpty)) = true := by kernel_rfl
theorem bareL : pw.bare := ⟨rfl, rfl, rfl, rfl, rfl, by kernel_rfl⟩
end T49
namespace T49
theorem regKHJ01 : (∀ P, T49.K P = T49.K P) ∧ PySem.Challenge.rw_tp0049_01 = PySem.Challenge.rw_tp0049_01 := by
  k_fill
  exact ⟨fun _ => rfl, rfl⟩
noncomputable def cost (a b : Str) : Int := if a = b then 0 else if Txt.lower a = Txt.lower b then 1 else 2
local macro_rules | `(tactic| walk_at $s:str) => `(tactic| k_extra $s)
set_option maxHeartbeats 8000000 in
theorem C_cost {w : World} {loose : List Str} {mean : ExcName → Option Value} {mg mb : Str → Option Value} {dp un : Nat} {gd : Option (List Code)} {cn : Str} {cs : Scope} {ca : Addr} {ccd : Value} {cl : List (Str × Addr)} {outer : List Env} {A₀ : Around} {base h₀ : Heap} {L : Addr} {m : Str → Option Value} {s : Shared} {Q E : Value → Shared → Prop} {news : List (Addr × Obj)}
    (B : Below A₀ base outer h₀) (F : Fr h₀ L s.heap m) (X : (T49.K w.params).In h₀) (N : News h₀ L s.heap news) (T : Top T49.vw loose mean mg mb h₀) (hk : cs.kind = .function) (hd : dp + 5 < recursionLimit) (hu : un + 60 < cLine)
    {x y : Str} {tx ty : Tok} (hx : x.length ≤ 1000) (hy : y.length ≤ 1000)
    (hret : ∀ (t : Tok) (h' : Heap) (tk' : Nat), Fr h₀ L h' m → News h₀ L h' news → Q (.int (cost x y) t) { s with heap := h', toks := tk' }) :
    wpAny (model PySem.Challenge.rw_tp0049_01.row.prog w) (ktrTop dp un gd cn cs L ca ccd cl outer) (call (.ref 129) [.str x tx, .str y ty]) Q E s := by
  k_with_none
  (k_with "call builtin:str.lower" => ((k_here; (with_reducible show wpAny _ _ (call (Value.builtin "str.lower") [Value.str _ _]) _ _ _); (refine SCL.lower (by omega) ?_); intro _)))
  refine wpAny_call ?_
  k_dflt cell_enter
  k_steps
  · refine cb_retI hret ?_ (by k_asm) (by k_asm)
    simp_all [cost]
  · refine cb_retI hret ?_ (by k_asm) (by k_asm)
    simp_all [cost]
  · refine cb_retI hret ?_ (by k_asm) (by k_asm)
    simp_all [cost]
theorem regKC1 : (∀ P, T49.K P = T49.K P) ∧ PySem.Challenge.rw_tp0049_01 = PySem.Challenge.rw_tp0049_01 := by
  k_fill
  exact ⟨fun _ => rfl, rfl⟩
noncomputable def b1B (k : Int) : Bool := setEs.toList.any fun e => Value.isInt k e.2
theorem setOf66 {prog : Program} {w : World} {P : Params} {h : Heap} (X : h.get? 66 = some (o66 P)) : h.SetOf (intKind prog w) 66 b1B 27 := by
  refine ⟨o66 P, setEs, 29, _, X, ⟨rfl, rfl, rfl⟩, rfl, ?_, ?_, by decide +kernel, by cases P.followText "set-order" <;> rfl, rfl⟩
  · have hc : setEs.toList.all (fun e => match e.2 with | .int k _ => e.1 == hashInt k | _ => false) = true := by kernel_rfl
    intro e he
    have := List.all_eq_true.mp hc e he
    obtain ⟨h0, v⟩ := e
    cases v with
    | int k t => exact ⟨⟨k, by simp [intKind, Value.isInt], eq_of_beq this⟩, rfl⟩
    | _ => cases this
  · intro k
    unfold b1B
    rw [List.any_eq_true]
    rfl
theorem in_b1 {prog : Program} {w : World} {A : Around} {E : Value → Shared → Prop} {s : Shared} {P : Params} {k : Int} {tk : Tok} {Q : Value → Shared → Prop} (X : s.heap.get? 66 = some (o66 P)) (h : Q (.bool (b1B k)) { s with toks := s.toks + 1 }) :
    wpAny (model prog w) A (compareOp .In (.int k tk) (.ref 66)) Q E s :=
  wpAny_inSet_of (knd := intKind prog w) (k := k) (by simp [intKind, Value.isInt]) rfl (setOf66 X) h

noncomputable def b3of (x : Nat) : Option (List Nat) := (b3raw.find? fun p => p.1 == x).map (·.2)
theorem find_ents (x : Nat) : ∀ (l : List (Nat × List Nat)) (t : Nat), match l.find? (fun p => p.1 == x) with
    | some p => ∃ tok, (ents t l).find? (fun e => Value.isInt (x : Int) e.key) = some ⟨x, .int x tok, .str ⟨p.2.toArray⟩ (tok + 1)⟩
    | none => (ents t l).find? (fun e => Value.isInt (x : Int) e.key) = none
  | [], t => rfl
  | p :: l, t => by
    have hk : (Value.isInt (x : Int) (ent t p).key) = (p.1 == x) := by
      show ((p.1 : Int) == (x : Int)) = (p.1 == x)
      cases h : (p.1 == x) with
      | true => rw [beq_iff_eq] at h; subst h; exact beq_self_eq_true _
      | false => rw [beq_eq_false_iff_ne] at h ⊢; omega
    rw [ents, List.find?_cons, List.find?_cons, hk]
    cases h : (p.1 == x) with
    | true => rw [beq_iff_eq] at h; subst h; exact ⟨t, rfl⟩
    | false => exact find_ents x l (t + 3)
theorem find_ents2 (x : Nat) : ∀ (l : List (Nat × List Nat)) (t : Nat), match l.find? (fun p => p.1 == x) with
    | some p => ∃ tok, (ents2 t l).find? (fun e => Value.isInt (x : Int) e.key) = some ⟨x, .int x tok, .str ⟨p.2.toArray⟩ (tok + 1)⟩
    | none => (ents2 t l).find? (fun e => Value.isInt (x : Int) e.key) = none
  | [], t => rfl
  | p :: l, t => by
    have hk : (Value.isInt (x : Int) (ent t p).key) = (p.1 == x) := by
      show ((p.1 : Int) == (x : Int)) = (p.1 == x)
      cases h : (p.1 == x) with
      | true => rw [beq_iff_eq] at h; subst h; exact beq_self_eq_true _
      | false => rw [beq_eq_false_iff_ne] at h ⊢; omega
    rw [ents2, List.find?_cons, List.find?_cons, hk]
    cases h : (p.1 == x) with
    | true => rw [beq_iff_eq] at h; subst h; exact ⟨t, rfl⟩
    | false => exact find_ents2 x l (t + 2)
theorem find_tab (x : Nat) : match b3of x with
    | some v => ∃ tok, tabEntries.find? (fun e => Value.isInt (x : Int) e.key) = some ⟨x, .int x tok, .str ⟨v.toArray⟩ (tok + 1)⟩
    | none => tabEntries.find? (fun e => Value.isInt (x : Int) e.key) = none := by
  have h1 := find_ents x (b3raw.take 646) 323
  have h2 := find_ents2 x (b3raw.drop 646) 2261
  have e : b3raw.find? (fun p => p.1 == x) = ((b3raw.take 646).find? (fun p => p.1 == x)).or ((b3raw.drop 646).find? (fun p => p.1 == x)) := by
    rw [← List.find?_append, List.take_append_drop]
  unfold b3of tabEntries
  rw [e, List.find?_append]
  cases q1 : (b3raw.take 646).find? (fun p => p.1 == x) with
  | some p =>
    rw [q1] at h1
    obtain ⟨tok, h1⟩ := h1
    rw [h1]
    exact ⟨tok, rfl⟩
  | none =>
    rw [q1] at h1
    dsimp only at h1
    rw [h1]
    cases q2 : (b3raw.drop 646).find? (fun p => p.1 == x) with
    | some p =>
      rw [q2] at h2
      obtain ⟨tok, h2⟩ := h2
      exact ⟨tok, by rw [h2]; rfl⟩
    | none =>
      rw [q2] at h2
      dsimp only at h2
      show Option.or none _ = none
      rw [h2]; rfl
theorem mapOf77 {prog : Program} {w : World} {h : Heap} (X : h.get? 77 = some o77) : h.MapOf (intKind prog w) 77 (fun k => findBy Value.isInt tabEntries.toArray k) := by
  refine ⟨o77, tabEntries.toArray, 650, X, ⟨rfl, rfl, rfl⟩, rfl, ?_, fun _ => rfl⟩
  have hc : tabEntries.all (fun e => match e.key with | .int k _ => e.hash == hashInt k | _ => false) = true := by kernel_rfl
  intro e he
  have := List.all_eq_true.mp hc e (by simpa using he)
  obtain ⟨h0, v, u⟩ := e
  cases v with
  | int k t => exact ⟨k, by simp [intKind, Value.isInt], eq_of_beq this⟩
  | _ => cases this
theorem get_b3 {prog : Program} {w : World} {A : Around} {E : Value → Shared → Prop} {s : Shared} {x : Nat} {tk : Tok} {Q : Value → Shared → Prop} (X : s.heap.get? 77 = some o77)
    (h1 : ∀ v tok, b3of x = some v → Q (.str ⟨v.toArray⟩ tok) { s with toks := s.toks + 1 }) (h2 : b3of x = none → Q .none { s with toks := s.toks + 1 }) :
    wpAny (model prog w) A (call (.builtin "dict.get") [.ref 77, .int (x : Int) tk]) Q E s := by
  have hd := mapOf77 (prog := prog) (w := w) X
  refine call_meetsIn PySem.F.slot_dict_get (s := s) (by exact ⟨o77, X, rfl⟩) PySem.F.entry_dict_get (PySem.F.args_dict_get_2 _ _) (meets_dict_get (intKind prog w) 77 (k := (x : Int)) (by simp [intKind, Value.isInt]) (by decide)) ⟨_, hd, ?_⟩
  have hf := find_tab x
  unfold findBy
  cases q : b3of x with
  | some v =>
    rw [q] at hf
    obtain ⟨tok, hf⟩ := hf
    rw [List.find?_toArray, hf]
    exact h1 v _ q
  | none =>
    rw [q] at hf
    dsimp only at hf
    rw [List.find?_toArray, hf]
    exact h2 q
theorem meth_b3 {prog : Program} {w : World} {A : Around} {E : Value → Shared → Prop} {s : Shared} {pl : Sem Bool} {Q : Value × List Value → Shared → Prop} (X : s.heap.get? 77 = some o77) (h : Q (.builtin "dict.get", [.ref 77]) s) :
    wpAny (model prog w) A (getMethod (.ref 77) "get" pl) Q E s :=
  getMethod_builtin (show s.TypeIs (.ref 77) "dict" from ⟨o77, X, rfl⟩) PySem.F.plainAttrs_dict PySem.F.slot_dict_get PySem.F.type_dict_get (mapOf77 (prog := prog) (w := w) X).noDict h
noncomputable def b3 (x : Nat) : Str := match b3of x with | some v => ⟨v.toArray⟩ | none => Txt.lower ⟨#[x]⟩
theorem look66 {P : Params} : (T49.K P).lookup 66 = some (o66 P) := by kernel_rfl
theorem look77 {P : Params} : (T49.K P).lookup 77 = some o77 := by kernel_rfl
theorem regKC3 : (∀ P, T49.K P = T49.K P) ∧ PySem.Challenge.rw_tp0049_01 = PySem.Challenge.rw_tp0049_01 := by
  k_fill
  exact ⟨fun _ => rfl, rfl⟩
set_option maxHeartbeats 8000000 in
theorem C_b1 {w : World} {loose : List Str} {mean : ExcName → Option Value} {mg mb : Str → Option Value} {dp un : Nat} {gd : Option (List Code)} {cn : Str} {cs : Scope} {ca : Addr} {ccd : Value} {cl : List (Str × Addr)} {outer : List Env} {A₀ : Around} {base h₀ : Heap} {L : Addr} {m : Str → Option Value} {s : Shared} {Q E : Value → Shared → Prop} {news : List (Addr × Obj)}
    (B : Below A₀ base outer h₀) (F : Fr h₀ L s.heap m) (X : (T49.K w.params).In h₀) (N : News h₀ L s.heap news) (T : Top T49.vw loose mean mg mb h₀) (hk : cs.kind = .function) (hd : dp + 5 < recursionLimit) (hu : un + 60 < cLine)
    {x : Nat} {tx : Tok} 
    (hret : ∀ (t : Tok) (h' : Heap) (tk' : Nat), Fr h₀ L h' m → News h₀ L h' news → Q (.bool (b1B x)) { s with heap := h', toks := tk' }) :
    wpAny (model PySem.Challenge.rw_tp0049_01.row.prog w) (ktrTop dp un gd cn cs L ca ccd cl outer) (call (.ref 76) [.str ⟨#[x]⟩ tx]) Q E s := by
  k_with_none
  (k_with "compareOp In" => ((k_here; (with_reducible show wpAny _ _ (compareOp CmpOp.In (Value.int _ _) (Value.ref 66)) _ _ _); refine in_b1 ((show (T49.K _).In _ from by k_in) 66 _ look66) ?_)))
  (k_with "getMethod ref" => ((k_here; (with_reducible show wpAny _ _ (getMethod (Value.ref 77) _ _) _ _ _); refine meth_b3 ((show (T49.K _).In _ from by k_in) 77 _ look77) ?_)))
  (k_with "call builtin:dict.get" => ((k_here; (with_reducible show wpAny _ _ (call (Value.builtin "dict.get") [Value.ref 77, Value.int _ _]) _ _ _); refine get_b3 ((show (T49.K _).In _ from by k_in) 77 _ look77) ?_ ?_ <;> intros)))
  (k_with "call builtin:str.lower" => ((k_here; (with_reducible show wpAny _ _ (call (Value.builtin "str.lower") [Value.str _ _]) _ _ _); (refine SCL.lower (by first | omega | exact Nat.le_of_ble_eq_true rfl) ?_); intro _)))
  refine wpAny_call ?_
  k_dflt cell_enter
  k_steps
  · exact cb_retB hret rfl (by k_asm) (by k_asm)
set_option maxHeartbeats 8000000 in
theorem C_b3 {w : World} {loose : List Str} {mean : ExcName → Option Value} {mg mb : Str → Option Value} {dp un : Nat} {gd : Option (List Code)} {cn : Str} {cs : Scope} {ca : Addr} {ccd : Value} {cl : List (Str × Addr)} {outer : List Env} {A₀ : Around} {base h₀ : Heap} {L : Addr} {m : Str → Option Value} {s : Shared} {Q E : Value → Shared → Prop} {news : List (Addr × Obj)}
    (B : Below A₀ base outer h₀) (F : Fr h₀ L s.heap m) (X : (T49.K w.params).In h₀) (N : News h₀ L s.heap news) (T : Top T49.vw loose mean mg mb h₀) (hk : cs.kind = .function) (hd : dp + 5 < recursionLimit) (hu : un + 60 < cLine)
    {x : Nat} {tx : Tok} 
    (hret : ∀ (t : Tok) (h' : Heap) (tk' : Nat), Fr h₀ L h' m → News h₀ L h' news → Q (.str (b3 x) t) { s with heap := h', toks := tk' }) :
    wpAny (model PySem.Challenge.rw_tp0049_01.row.prog w) (ktrTop dp un gd cn cs L ca ccd cl outer) (call (.ref 122) [.str ⟨#[x]⟩ tx]) Q E s := by
  k_with_none
  (k_with "compareOp In" => ((k_here; (with_reducible show wpAny _ _ (compareOp CmpOp.In (Value.int _ _) (Value.ref 66)) _ _ _); refine in_b1 ((show (T49.K _).In _ from by k_in) 66 _ look66) ?_)))
  (k_with "getMethod ref" => ((k_here; (with_reducible show wpAny _ _ (getMethod (Value.ref 77) _ _) _ _ _); refine meth_b3 ((show (T49.K _).In _ from by k_in) 77 _ look77) ?_)))
  (k_with "call builtin:dict.get" => ((k_here; (with_reducible show wpAny _ _ (call (Value.builtin "dict.get") [Value.ref 77, Value.int _ _]) _ _ _); refine get_b3 ((show (T49.K _).In _ from by k_in) 77 _ look77) ?_ ?_ <;> intros)))
  (k_with "call builtin:str.lower" => ((k_here; (with_reducible show wpAny _ _ (call (Value.builtin "str.lower") [Value.str _ _]) _ _ _); (refine SCL.lower (by first | omega | exact Nat.le_of_ble_eq_true rfl) ?_); intro _)))
  refine wpAny_call ?_
  k_dflt cell_enter
  k_steps
  · refine cb_retS hret ?_ (by k_asm) (by k_asm)
    simp_all [b3]
  · refine cb_retS hret ?_ (by k_asm) (by k_asm)
    simp_all [b3]
open PySem PySem.W PyProof.Rows PySem.Calls
section
variable {prog : Program} {w : World} {A₀ A : Around} {s : Shared} {base h₀ : Heap} {env : Env} {L : Addr} {m : Str → Option Value} {news : List (Addr × Obj)} {K : Frag} {p : Program} {loose : List Str} {mean : ExcName → Option Value} {mg mb : Str → Option Value}
    {R : Result → Shared → Prop} {name qual : Str} {params : Arguments} {body : List Stmt} {scope : Scope} {dV kV doc pm cdv ct oc : Value} {an od : Option Addr} {osl : Array (Option Value)} {f : Addr} {args : Args} {binds : List (Str × Value)}

/-- a def that bears a try, called from a frame with cells -/
theorem code_tryX (B : Below A₀ base [] h₀) (F : Fr h₀ L s.heap m) (X₀ : K.In h₀) (N : News h₀ L s.heap news) (T : Top p loose mean mg mb h₀) (hA : A.frames = some [env]) (hfr : env.frame = some L) (hke : env.scope.kind = .function)
    (ho : K.lookup f = some ⟨oc, od, .func (fnOf name qual params body scope dV kV doc pm an cdv ct), osl⟩) (hcd : codeIn K cdv qual = true) (hroom : A.depth < recursionLimit)
    (hbind : BindsTo s (fnOf name qual params body scope dV kV doc pm an cdv ct) args binds) (hloc : ∀ y ∈ binds, scope.names.lookup y.1 = some .local)
    (h : ∀ g L' h₁, Fr h₀ L g m → Fr g L' h₁ (fun y => binds.reverse.lookup y) → News g L' h₁ news → Below A base [env] g → K.In g → Top p loose mean mg mb g → KtsDicts ([env].filterMap (·.frame)) g →
      wpAny (model prog w) (A.deeper (envOf qual scope L' f cdv)) (execs body (envOf qual scope L' f cdv))
        (fun fl s' => LeaveS0 ([env].filterMap (·.frame)) h₀ L m g R (match fl with | .ret v => v | _ => .none) s')
        (fun e s' => wpAny (model prog w) (A.deeper (envOf qual scope L' f cdv)) (leaving (envOf qual scope L' f cdv) e) (fun _ s'' => R (.error e) s'') (fun e' s'' => R (.error e') s'') s')
        { s with heap := h₁, toks := s.toks + binds.length })
    (hco : scope.isCoroutine = false) (hgen : scope.isGenerator = false) (hk : scope.kind = .function)
    (hcell : ∀ x ∈ scope.names, x.2 ≠ .cell) : codeAny (model prog w) A (.call (.ref f) args) R s := by
  have X := X₀.keeps F.keep
  obtain ⟨FG, BG, st, -⟩ := groundX (R := R) B F N hA hfr hke
  have only : ∀ b, b ∈ [env].filterMap (·.frame) → b = L := fun b hb => by
    simp only [List.filterMap_cons, hfr, List.filterMap_nil, List.mem_singleton] at hb
    exact hb
  obtain ⟨oL, es, ep, hLg, hLd, hLk, hLf⟩ := FG.ns
  refine codeAny_call_def (fd := fnOf name qual params body scope dV kV doc pm an cdv ct) (body := body) (binds := binds) hroom (X _ _ ho) rfl (T.nolimit.keeps F.keep) (codeRec_of X hcd) rfl hbind hcell hloc (fun h₁ hns hk₁ => ?_) hco hgen hk
  refine wpAny_mono (h _ s.heap.objs.size h₁ FG ⟨hns, fun b o e => hk₁ b o (of_hideAll _ e), Nat.le_of_eq (hideAll_size _ _)⟩
    (fun q hq => ⟨hk₁ _ _ (N q hq).1, Nat.ne_of_lt (Heap.lt_size (N q hq).1), hideAll_none _ (List.mem_map_of_mem hq)⟩) BG (X₀.keeps st) (T.keeps st) (fun b hb => by
      rw [only b hb]
      exact ⟨oL, es, ep, hLg, hLd⟩)) (fun fl s' hl => ?_) fun _ _ y => y
  obtain ⟨g', L', m', news', T', F', N', k⟩ := hl
  have nL₀ : h₀.get? L = none := kts_self F
  obtain ⟨sl, hs⟩ := T'.up hLg
  refine k ⟨⟨_, es, ep, F'.keep _ _ hs, hLd, hLk, hLf⟩, fun b o e => F'.keep b o (T'.other b o (st b o e) fun q => by
    rw [only b q, nL₀] at e
    cases e), F.above⟩ fun q hq => ⟨(N' q hq).1, fun z => ?_, ?_⟩
  · have := (N' q hq).2.2
    rw [z, hs] at this
    cases this
  · cases z : h₀.get? q.1 with
    | none => rfl
    | some o =>
      obtain ⟨sl', hs'⟩ := T'.up (st _ _ z)
      have := (N' q hq).2.2
      rw [hs'] at this
      cases this
end
section
open PySem PySem.W PyProof.Rows PySem.Calls
open Builtin Builtin.Str Builtin.BaseException
section
variable {prog : Program} {w : World} {A : Around} {E : Value → Shared → Prop} {s : Shared} {K : Frag} {e t0 C : Addr} {x : Str} {tk : Tok}
/-- an exception of an own class that holds one text -/
noncomputable def ExcOne (h : Heap) (e C : Addr) (x : Str) (tk : Tok) : Prop :=
  ∃ o ws t0, h.get? e = some o ∧ o.cls = .ref C ∧ o.data = .fields ws ∧ ws[0]? = some (.ref t0) ∧ h.TupAt t0 [.str x tk]
theorem ExcOne.of_got {h₀ h : Heap} {L : Addr} {news : List (Addr × Obj)} (N : News h₀ L h news) (G : Got news e t0 (.ref C) [.str x tk]) : ExcOne h e C x tk := by
  obtain ⟨oe, ot, ws, nt, h1, h2, hc, hd, h0, hct, hdt⟩ := G
  exact ⟨oe, ws, t0, (N _ h1).1, hc, hd, h0, ot, nt, (N _ h2).1, hct, hdt⟩
theorem ExcOne.type {M : Model} (G : ExcOne s.heap e C x tk) : Looks M s.heap (typeOf (.ref e)) (.ref C) := by
  obtain ⟨o, ws, t0, ho, hc, -⟩ := G
  intro A Q E s' hk q
  refine wpAny_bind (wpAny_loadPart (hk _ _ ho) ?_)
  rw [hc]
  exact wpAny_pure q
theorem bexc_body {Q : Fin → Shared → Prop} (G : ExcOne s.heap e C x tk) (hq : Q (.done (.ret (.str x tk))) s) : wpAny (model prog w) A (Builtin.«BaseException.__str__» ⟨[.ref e], []⟩) Q E s := by
  obtain ⟨o, ws, t0, ho, hc, hd, h0, ot, k, hto, htc, htd⟩ := G
  have hb : ∀ {Q' : Value × List Value → Shared → Prop}, Q' (.ref t0, [.str x tk]) s → wpAny (model prog w) A (bexcArgs (.ref e)) Q' E s := fun {Q'} hq' => by
    unfold bexcArgs
    refine wpAny_bind (wpAny_field ho hd h0 (wpAny_bind (wpAny_seqItems hto htd ?_)))
    exact wpAny_pure hq'
  unfold Builtin.«BaseException.__str__»
  repeat (first | with_reducible refine hb ?_ | wp_step)
  exact hq
theorem bexc_check {Q : Unit → Shared → Prop} (X : K.In s.heap) (G : ExcOne s.heap e C x tk) (hs : subIn K (.ref C) (.type "BaseException") = some true) (hq : Q () s) :
    wpAny (model prog w) A (checkBuiltinCall "BaseException.__str__" ⟨[.ref e], []⟩) Q E s := by
  have hk : builtinKind "BaseException.__str__" = some .slot := by decide +kernel
  have hsplit : splitId "BaseException.__str__" = some ("BaseException", "__str__") := by decide +kernel
  have ha := PySem.F.args_bexc_str (.ref e)
  simp only [checkBuiltinCall, hk, hsplit]
  refine wpAny_bind ?_
  unfold isInstance
  refine wpAny_bind (G.type.here ((looks_subIn X hs).here ?_))
  simp only [Bool.not_true, Bool.false_eq_true, if_false]
  cases hsig : Manifest.signature? "BaseException.__str__" with
  | none => exact wpAny_pure hq
  | some sig =>
    simp only [argsOk, hsig] at ha
    have h2 : Bind.checkArgs "BaseException.__str__" sig ⟨[.ref e], []⟩ = pure () := ha
    show wpAny _ A (Bind.checkArgs "BaseException.__str__" sig ⟨[.ref e], []⟩) Q E s
    rw [h2]; exact wpAny_pure hq
theorem bexc_call {Q : Value → Shared → Prop} (X : K.In s.heap) (G : ExcOne s.heap e C x tk) (hs : subIn K (.ref C) (.type "BaseException") = some true) (hq : Q (.str x tk) s) :
    wpAny (model prog w) A (call (.builtin "BaseException.__str__") [.ref e]) Q E s :=
  wpAny_call (codeAny_call_builtin (by decide +kernel) PySem.F.entry_bexc_str (bexc_check X G hs (bexc_body (A := A.in1) G hq)))
theorem strOf_own {Q : Value → Shared → Prop} (hu : A.units < cLine) (X : K.In s.heap) (G : ExcOne s.heap e C x tk) (hf : findIn K (.ref C) "__str__" = some (some (.builtin "BaseException.__str__")))
    (hs : subIn K (.ref C) (.type "BaseException") = some true) (hq : Q (.str x tk) s) : wpAny (model prog w) A (Builtin.Str.strOf (.ref e)) Q E s := by
  have hc : ∀ {Q' : Option Value → Shared → Prop}, Q' (some (.str x tk)) s → wpAny (model prog w) A (callSpecial? (.ref e) "__str__") Q' E s := fun {Q'} hq' => by
    simp only [callSpecial?]
    refine wpAny_bind ?_
    unfold specialOf
    refine wpAny_bind (G.type.here ((looks_findIn X hf).here ?_))
    dsimp only
    refine wpAny_holding ?_
    have hb : bindSpecial (.builtin "BaseException.__str__") (.ref e) = pure (.builtin "BaseException.__str__", [.ref e]) := by kernel_rfl
    rw [hb]
    refine wpAny_bind (wpAny_pure ?_)
    dsimp only [List.append_nil]
    exact wpAny_bind (bexc_call X G hs (wpAny_pure hq'))
  unfold Builtin.Str.strOf
  repeat (first | with_reducible refine wpAny_cRoomFor hu ?_ | with_reducible refine hc ?_ | wp_step)
  exact hq
theorem str_own {Q : Value → Shared → Prop} (hu : A.units + 2 < cLine) (X : K.In s.heap) (G : ExcOne s.heap e C x tk) (hf : findIn K (.ref C) "__str__" = some (some (.builtin "BaseException.__str__")))
    (hs : subIn K (.ref C) (.type "BaseException") = some true) (hq : Q (.str x tk) s) : wpAny (model prog w) A (call (.type "str") [.ref e]) Q E s :=
  callType_new PySem.F.called_str (by decide) (PySem.F.typeCall_str_1 _) (PySem.F.newCall_str_1 _) (fun obj => PySem.F.args_object_init_2 obj _) PySem.F.entry_str_new
    (meets_str_new (S := fun A' R s' => A'.units + 1 < cLine ∧ K.In s'.heap ∧ ExcOne s'.heap e C x tk ∧ R (.ok (.ret (.str x tk))) s')
      fun _ _ A' _ _ hq => strOf_own (A := A'.in1) hq.1 hq.2.1 hq.2.2.1 hf hs hq.2.2.2)
    ⟨(show A.units + 1 + 1 < cLine from hu), X, G, typeIs_str _ _ _, hq⟩
end
end
theorem regKC6w : (∀ P, T49.K P = T49.K P) ∧ PySem.Challenge.rw_tp0049_01 = PySem.Challenge.rw_tp0049_01 := by
  k_fill
  exact ⟨fun _ => rfl, rfl⟩
theorem find_is {prog : Program} {w : World} {A : Around} {E : Value → Shared → Prop} {s : Shared} {x y : Str} {t u : Tok} {k : Int} {Q : Value → Shared → Prop} (e : Txt.find x y = k) (h : Q (.int k s.toks) { s with toks := s.toks + 1 }) : wpAny (model prog w) A (call (.builtin "str.find") [.str x t, .str y u]) Q E s := SC.find (by rw [e]; exact h)
theorem find3_is {prog : Program} {w : World} {A : Around} {E : Value → Shared → Prop} {s : Shared} {x y : Str} {t u v : Tok} {i k : Int} {Q : Value → Shared → Prop} (e : Txt.find3 x y i = k) (h : Q (.int k s.toks) { s with toks := s.toks + 1 }) : wpAny (model prog w) A (call (.builtin "str.find") [.str x t, .str y u, .int i v]) Q E s := SC.find3 (by rw [e]; exact h)
theorem told_len {l : List (Str × Tok)} {ps : List Str} (hl : List.map (fun x => x.fst) l = ps) : (l.length : Int) = (ps.length : Int) := by rw [← hl, List.length_map]
theorem told_int {l : List (Str × Tok)} {ps : List Str} {y y₀ : Str} {n : Int} (hl : List.map (fun x => x.fst) l = ps) (ha : (List.map (fun x => x.fst) l)[Int.toNat 3]? = some y) (hy : ps[3]? = some y₀) (hn : PySem.intText? y₀ = some n) : PySem.intText? y = some n := by
  rw [hl] at ha
  have : some y = some y₀ := ha.symm.trans hy
  cases this
  exact hn
theorem of_allLt {d : Addr} : ∀ {l : List (Addr × Obj)}, AllLt d l → ∀ p ∈ l, p.1 < d
  | [], _, _, h => nomatch h
  | _ :: _, h, p, hp => by
    rcases List.mem_cons.mp hp with rfl | hp
    · exact h.1
    · exact of_allLt h.2 p hp
theorem News.dropSecond {h₀ h : Heap} {L : Addr} {a b : Addr × Obj} {news : List (Addr × Obj)} (N : News h₀ L h (a :: b :: news)) : News h₀ L h (a :: news) := cb_drop N fun p hp => by
  rcases List.mem_cons.mp hp with rfl | hp
  · exact .head _
  · exact .tail _ (.tail _ hp)
theorem told_absurd {l : List (Str × Tok)} {ps : List Str} {u v : Str} (hl : List.map (fun x => x.fst) l = ps) (h5 : (l.length : Int) = 5) (he : (u != v) = false) (hb : u ≠ v ∨ ps.length ≠ 5) : False := by
  have := told_len hl
  rcases hb with hb | hb
  · exact hb (by simpa using he)
  · omega
set_option maxHeartbeats 8000000 in
theorem C_bad {w : World} {loose : List Str} {mean : ExcName → Option Value} {mg mb : Str → Option Value} {dp un : Nat} {gd : Option (List Code)} {cn : Str} {cs : Scope} {ca : Addr} {ccd : Value} {cl : List (Str × Addr)} {A₀ : Around} {base h₀ : Heap} {L : Addr} {m : Str → Option Value} {s : Shared} {Q E : Value → Shared → Prop} {news : List (Addr × Obj)}
    (B : Below A₀ base [] h₀) (F : Fr h₀ L s.heap m) (X : (T49.K w.params).In h₀) (N : News h₀ L s.heap news) (T : Top T49.vw loose mean mg mb h₀) (hk : cs.kind = .function) (hd : dp + 5 < recursionLimit) (hu : un + 60 < cLine) (XB : (T49.K w.params).In base) (TB : Top T49.vw loose mean mg mb base)
    {x : Str} {tx : Tok} {r : Int} (h0 : (Txt.slice x none (some 3) != Str.ofString "229") = false) (h1 : Txt.find x (Str.ofString "(") = 4) (h2 : Txt.find3 x (Str.ofString ")") (4 + 1) = r) (hr : 9 ≤ r) (hrl : r < (x.length : Int)) (hx : x.length ≤ 600) (hbad : Txt.item x (4 + 1) ≠ Txt.item x (r - 1) ∨ (Txt.split (Txt.slice x (some (4 + 1)) (some r)) (Txt.item x (4 + 1))).length ≠ 5)
    (hret : ∀ (l : Addr) (h' : Heap) (tk' : Nat), Fr h₀ L h' m → News h₀ L h' ((l, W.listOf #[.str x tx] 0) :: news) → (∀ p ∈ news, p.1 < l) → Q (.ref l) { s with heap := h', toks := tk' }) :
    wpAny (model PySem.Challenge.rw_tp0049_01.row.prog w) (ktrTop dp un gd cn cs L ca ccd cl []) (call (.ref 150) [.str x tx]) Q E s := by
  k_with_none
  (k_with "call builtin:str.find" => ((k_here; (with_reducible show wpAny _ _ (call (Value.builtin "str.find") [Value.str _ _, Value.str _ _]) _ _ _); refine find_is (by assumption) ?_)))
  (k_with "call builtin:str.find" => ((k_here; (with_reducible show wpAny _ _ (call (Value.builtin "str.find") [Value.str _ _, Value.str _ _, Value.int _ _]) _ _ _); refine find3_is (by assumption) ?_)))
  (k_with "call type:str" => ((k_here; (with_reducible show wpAny _ _ (call (Value.type "str") [Value.ref _]) _ _ _); (with_reducible rename Got _ _ _ _ _ => gotX); k_dflt (refine' str_own (K := T49.K _) ?ku ?kX ?kG ?kf ?ks ?_; (case kG => exact ExcOne.of_got (by assumption) gotX); (case kX => k_in); (case ku => ktr_units); (case kf => k_is); (case ks => k_is); k_whole))))
  (k_with "call type:int" => ((k_here; (with_reducible show wpAny _ _ (call (Value.type "int") [Value.str _ _]) _ _ _); (refine' KIN.call_text ?k1 ?k2 ?_; (case k1 => exact told_int (by assumption) (by assumption) (by assumption) (by assumption)); (case k2 => have hq := (by assumption : ∀ (a : Str), a ∈ _ → a.length ≤ _) _ (List.mem_of_getElem? (by assumption)); omega); k_whole))))
  (k_with "call ref" => ((k_here; (with_reducible show wpAny _ _ (call (Value.ref 58) _) _ _ _); refine wpAny_call ?_; k_dflt (refine' code_def ?k1 ?k2 ?k3 ?k4 ?k5 ?kA ?kF ?kK ?k6 ?k7 ?k8 ?k9 ?kB ?_ ?c2 ?c3 ?c4 ?c5; (case kA => exact rfl); (case kF => exact rfl); (case kK => first | exact rfl | assumption); (case k1 => k_asm); (case k2 => k_asm); (case k3 => k_asm); (case k4 => k_asm); (case k5 => k_asm); (case k6 => k_is); (case k7 => k_is); (case k8 => ktr_room); (case k9 => exact BindsTo.of_eq rfl); (case c5 => decide); (case kB => exact locs rfl); (case c2 => exact rfl); (case c3 => exact rfl); (case c4 => exact rfl); k_whole; intro g' L' h' FG' F' N' B' X' T'; (try dsimp only); (try k_lift B'); (try k_fold)))))
  refine wpAny_call ?_
  k_dflt (refine' code_tryX B F X N T rfl rfl hk ?k6 ?k7 ?k8 ?k9 ?kB ?_ ?c2 ?c3 ?c4 ?c5; (case k6 => k_is); (case k7 => k_is); (case k8 => ktr_room); (case k9 => exact BindsTo.of_eq rfl); (case kB => exact locs rfl); (case c2 => exact rfl); (case c3 => exact rfl); (case c4 => exact rfl); (case c5 => decide); k_whole; intro g' L' h' FG' F' N' B' X' T' D'; (try dsimp only); (try k_lift B'); (try k_fold))
  k_steps
  · exact hret _ _ _ (by assumption) (by (refine' cb_drop ?cbN ?cbS; (case cbN => assumption); (case cbS => kcj_all))) (by first | exact of_allLt (by assumption) | exact of_allLt (And.right (by assumption)) | exact of_allLt (And.right (And.right (by assumption))))
  · exact hret _ _ _ (by assumption) (by (refine' cb_drop ?cbN ?cbS; (case cbN => assumption); (case cbS => kcj_all))) (by first | exact of_allLt (by assumption) | exact of_allLt (And.right (by assumption)) | exact of_allLt (And.right (And.right (by assumption))))
  · exact absurd hbad (fun hb => told_absurd (by assumption) (by assumption) (by assumption) hb)
set_option maxHeartbeats 8000000 in
theorem C_ok {w : World} {loose : List Str} {mean : ExcName → Option Value} {mg mb : Str → Option Value} {dp un : Nat} {gd : Option (List Code)} {cn : Str} {cs : Scope} {ca : Addr} {ccd : Value} {cl : List (Str × Addr)} {A₀ : Around} {base h₀ : Heap} {L : Addr} {m : Str → Option Value} {s : Shared} {Q E : Value → Shared → Prop} {news : List (Addr × Obj)}
    (B : Below A₀ base [] h₀) (F : Fr h₀ L s.heap m) (X : (T49.K w.params).In h₀) (N : News h₀ L s.heap news) (T : Top T49.vw loose mean mg mb h₀) (hk : cs.kind = .function) (hd : dp + 5 < recursionLimit) (hu : un + 60 < cLine) (XB : (T49.K w.params).In base) (TB : Top T49.vw loose mean mg mb base)
    {x : Str} {tx : Tok} {r n : Int} {y : Str} (h0 : (Txt.slice x none (some 3) != Str.ofString "229") = false) (h1 : Txt.find x (Str.ofString "(") = 4) (h2 : Txt.find3 x (Str.ofString ")") (4 + 1) = r) (hr : 9 ≤ r) (hrl : r < (x.length : Int)) (hx : x.length ≤ 600) (hit : Txt.item x (4 + 1) = Txt.item x (r - 1)) (hl5 : (Txt.split (Txt.slice x (some (4 + 1)) (some r)) (Txt.item x (4 + 1))).length = 5) (hy : (Txt.split (Txt.slice x (some (4 + 1)) (some r)) (Txt.item x (4 + 1)))[3]? = some y) (hn : PySem.intText? y = some n)
    (hret : ∀ (l : Addr) (h' : Heap) (tk' : Nat) (t₁ t₂ : Tok), Fr h₀ L h' m → News h₀ L h' ((l, { cls := .type "tuple", data := .seq #[.str (Str.ofString "host") t₁, .int n t₂] }) :: news) → (∀ p ∈ news, p.1 < l) → Q (.ref l) { s with heap := h', toks := tk' }) :
    wpAny (model PySem.Challenge.rw_tp0049_01.row.prog w) (ktrTop dp un gd cn cs L ca ccd cl []) (call (.ref 150) [.str x tx]) Q E s := by
  k_with_none
  (k_with "call builtin:str.find" => ((k_here; (with_reducible show wpAny _ _ (call (Value.builtin "str.find") [Value.str _ _, Value.str _ _]) _ _ _); refine find_is (by assumption) ?_)))
  (k_with "call builtin:str.find" => ((k_here; (with_reducible show wpAny _ _ (call (Value.builtin "str.find") [Value.str _ _, Value.str _ _, Value.int _ _]) _ _ _); refine find3_is (by assumption) ?_)))
  (k_with "call type:str" => ((k_here; (with_reducible show wpAny _ _ (call (Value.type "str") [Value.ref _]) _ _ _); (with_reducible rename Got _ _ _ _ _ => gotX); k_dflt (refine' str_own (K := T49.K _) ?ku ?kX ?kG ?kf ?ks ?_; (case kG => exact ExcOne.of_got (by assumption) gotX); (case kX => k_in); (case ku => ktr_units); (case kf => k_is); (case ks => k_is); k_whole))))
  (k_with "call type:int" => ((k_here; (with_reducible show wpAny _ _ (call (Value.type "int") [Value.str _ _]) _ _ _); (refine' KIN.call_text ?k1 ?k2 ?_; (case k1 => exact told_int (by assumption) (by assumption) (by assumption) (by assumption)); (case k2 => have hq := (by assumption : ∀ (a : Str), a ∈ _ → a.length ≤ _) _ (List.mem_of_getElem? (by assumption)); omega); k_whole))))
  (k_with "call ref" => ((k_here; (with_reducible show wpAny _ _ (call (Value.ref 58) _) _ _ _); refine wpAny_call ?_; k_dflt (refine' code_def ?k1 ?k2 ?k3 ?k4 ?k5 ?kA ?kF ?kK ?k6 ?k7 ?k8 ?k9 ?kB ?_ ?c2 ?c3 ?c4 ?c5; (case kA => exact rfl); (case kF => exact rfl); (case kK => first | exact rfl | assumption); (case k1 => k_asm); (case k2 => k_asm); (case k3 => k_asm); (case k4 => k_asm); (case k5 => k_asm); (case k6 => k_is); (case k7 => k_is); (case k8 => ktr_room); (case k9 => exact BindsTo.of_eq rfl); (case c5 => decide); (case kB => exact locs rfl); (case c2 => exact rfl); (case c3 => exact rfl); (case c4 => exact rfl); k_whole; intro g' L' h' FG' F' N' B' X' T'; (try dsimp only); (try k_lift B'); (try k_fold)))))
  refine wpAny_call ?_
  k_dflt (refine' code_tryX B F X N T rfl rfl hk ?k6 ?k7 ?k8 ?k9 ?kB ?_ ?c2 ?c3 ?c4 ?c5; (case k6 => k_is); (case k7 => k_is); (case k8 => ktr_room); (case k9 => exact BindsTo.of_eq rfl); (case kB => exact locs rfl); (case c2 => exact rfl); (case c3 => exact rfl); (case c4 => exact rfl); (case c5 => decide); k_whole; intro g' L' h' FG' F' N' B' X' T' D'; (try dsimp only); (try k_lift B'); (try k_fold))
  k_steps
  · exact absurd hit (bne_iff_ne.mp (by assumption))
  · exact absurd hl5 (fun hb => (by assumption : ((_ : Nat) : Int) ≠ 5) ((told_len (by assumption)).trans (by rw [hl5]; rfl)))
  · exact hret _ _ _ _ _ (by assumption) (by (refine' cb_drop ?cbN ?cbS; (case cbN => assumption); (case cbS => kcj_all))) (by first | exact of_allLt (by assumption) | exact of_allLt (And.right (by assumption)) | exact of_allLt (And.right (And.right (by assumption))))
theorem regKC7 : (∀ P, T49.K P = T49.K P) ∧ PySem.Challenge.rw_tp0049_01 = PySem.Challenge.rw_tp0049_01 := by
  k_fill
  exact ⟨fun _ => rfl, rfl⟩
section
open LCg
variable {prog : Program} {w : World} {A : Around} {E : Value → Shared → Prop} {s : Shared} {h₀ : Heap} {L : Addr} {m : Str → Option Value} {env : Env}
noncomputable def SrcS (prog : Program) (w : World) (A : Around) (h₀ : Heap) (L : Addr) (m : Str → Option Value) (env : Env) (ct elt : Expr) (x : Str) (scope : Scope) (cl : List (Str × Addr)) (Fin : Shared → List Value → List (Addr × Obj) → Prop) (xv : Value) (s₁ : Shared) : Prop :=
  ∃ y t news, xv = .str y t ∧ A.handled = none ∧ Fr h₀ L s₁.heap m ∧ News h₀ L s₁.heap news ∧ y.cps.size ≤ sizeLine ∧
    ∀ s₂ : Shared, (∃ h, s₂ = { s₁ with heap := h }) → LCt.CompRestT prog w A h₀ L m env ct elt x scope cl s₂ (fun _ => True) (SignAt y) (Fin s₂) y.cps.size 0 [] news

theorem iter_block {ct elt iter : Expr} {x : Str} {px : Pos} {scope : Scope} {cl : List (Str × Addr)} {pos : Pos} {Q : Value → Shared → Prop} {y : Str} {t : Tok} {s₁ : Shared} {news : List (Addr × Obj)} {cls : String}
    (hcell : ∀ y ∈ scope.names, y.2 ≠ .cell) (hkind : scope.kind = .function) (hx : scope.names.lookup x = some .local)
    (F : Fr h₀ L s₁.heap m) (N : News h₀ L s₁.heap news) (hsz : y.cps.size ≤ sizeLine)
    (W : Walks prog w A s₁.heap.objs.size [s₁.heap.objs.size] [s₁.heap.objs.size] y.cps.size (SignAt y) (fun i h => h.IsStrIter s₁.heap.objs.size cls y t i))
    (R : LCt.CompRestT prog w A h₀ L m env ct elt x scope cl { s₁ with heap := s₁.heap.push { cls := .type cls, data := .fields #[.str y t, .int 0 0] } } (fun _ => True) (SignAt y) (FinE h₀ L m { s₁ with heap := s₁.heap.push { cls := .type cls, data := .fields #[.str y t, .int 0 0] } } Q) y.cps.size 0 [] news)
    {RR : Value → Addr → Result → Shared → Prop}
    (hRR : ∀ D C h tk m' ys news', Fr h₀ L h m → News h₀ L h ((D, lst ys) :: news') → Off1 D news' → h.Ns C m' → h₀.get? C = none → h₀.get? D = none → C ≠ L → D ≠ L → C ≠ D → (∀ p ∈ news', p.1 ≠ C) → FinE h₀ L m { s₁ with heap := s₁.heap.push { cls := .type cls, data := .fields #[.str y t, .int 0 0] } } Q ys news' → RR (.ref D) C (.ok .next) { s₁ with heap := h, toks := tk }) :
    wpAny (model prog w) A (newList []) (fun acc s₃ => wpAny (model prog w) A (newFunctionEnv scope env.globals cl [] env.qual none .none (some env)) (fun cenv s₄ =>
      codeAny (model prog w) A (.compStart (.ListComp elt [⟨.Name x px, iter, [ct], 0⟩] scope pos) 0 (.ref s₁.heap.objs.size) acc { cenv with scope := relabel scope env }) (RR acc cenv.locals) s₄) E s₃) E { s₁ with heap := s₁.heap.push { cls := .type cls, data := .fields #[.str y t, .int 0 0] } } := by
  refine LCt.block_T W hsz (fun i h st => by obtain ⟨o, e, _⟩ := st; exact ⟨o, e⟩)
    (fun i h h' o nw st e e' _ _ _ => W.frame _ _ _ st (fun b hb o' e2 => by rw [List.mem_singleton.mp hb] at e2 ⊢; rw [e] at e2; cases e2; exact e')) hcell hkind hx ⟨_, Heap.get?_push_size _ rfl, rfl, rfl⟩ (fun b hb => ?_)
      (F.keeps fun _ _ e => Heap.get?_push_of_some _ e) (N.grown fun _ _ e => Heap.get?_push_of_some _ e) (Nat.ne_of_lt F.ns.lt) (next_is_new F) (fun p hp => Nat.ne_of_lt (Heap.lt_size (N p hp).1)) trivial R hRR
  rw [List.mem_singleton.mp hb]
  show s₁.heap.objs.size < (s₁.heap.push _).objs.size
  rw [Heap.size_push]; exact Nat.lt_succ_self _

theorem ListComp_S {ct elt iter : Expr} {x : Str} {px : Pos} {scope : Scope} {cl : List (Str × Addr)} {pos : Pos} {Q : Value → Shared → Prop} (F₀ : Fr h₀ L s.heap m)
    (hclos : closureFor scope env = pure cl) (hcell : ∀ y ∈ scope.names, y.2 ≠ .cell) (hkind : scope.kind = .function)
    (hnames : ∀ y ∈ scope.names, y.2 = .local → scope.names.lookup y.1 = some .local) (hx : scope.names.lookup x = some .local)
    (h : wpAny (model prog w) A (eval iter env) (SrcS prog w A h₀ L m env ct elt x scope cl (fun s₂ => FinE h₀ L m s₂ Q)) E s)
    (hs : ∀ x, foldedSetIterable iter env x = pure x := by intro _; rfl) :
    wpAny (model prog w) A (eval (.ListComp elt [⟨.Name x px, iter, [ct], 0⟩] scope pos) env) Q E s := by
  rw [eval_ListComp]
  refine wpAny_comprehension_free (use := none) rfl hs hclos hkind hnames (wpAny_mono h (fun xv s₁ h₁ => ?_) fun _ _ e => e)
  obtain ⟨y, t, news, rfl, hh, F, N, hsz, R⟩ := h₁
  have fin : ∀ (o : Obj) D C h tk m' ys news', Fr h₀ L h m → News h₀ L h ((D, lst ys) :: news') → Off1 D news' → h.Ns C m' → h₀.get? C = none → h₀.get? D = none → C ≠ L → D ≠ L → C ≠ D → (∀ p ∈ news', p.1 ≠ C) → FinE h₀ L m { s₁ with heap := s₁.heap.push o } Q ys news' →
      ∃ m', h.Ns C m' ∧ ∀ h'', h.SameBut C h'' → Q (.ref D) { s₁ with heap := h'', toks := tk } := by
    intro o D C h tk m' ys news' F' N' o1 hn hC₀ hD₀ hCL hDL hCD offC fin
    refine ⟨m', hn, fun h'' hs'' => fin D h'' tk (F'.change hs'' hCL hC₀) (fun p hp => ?_) o1⟩
    refine ⟨hs''.extBut _ _ ?_ (N' p hp).1, (N' p hp).2⟩
    rcases List.mem_cons.mp hp with rfl | hp
    · exact Ne.symm hCD
    · exact offC p hp
  cases ha : y.cps.all (· < 128)
  · refine wpAny_pyIter_wide ha ?_
    exact iter_block hcell hkind hx F N hsz (Walks.strWide hh _ y t) (R _ ⟨_, rfl⟩) (fin _)
  · refine wpAny_pyIter_ascii ha ?_
    exact iter_block hcell hkind hx F N hsz (Walks.strAscii hh _ y t) (R _ ⟨_, rfl⟩) (fin _)

noncomputable def SEl (news : List (Addr × Obj)) (b : Bool) (z : Str) (y : Value) (news' : List (Addr × Obj)) : Prop := news' = news ∧ b = true ∧ ∃ t, y = .str z t
noncomputable def SNo (news : List (Addr × Obj)) (b : Bool) (news' : List (Addr × Obj)) : Prop := news' = news ∧ b = false
theorem strs_append {ys : List Value} {l : List Str} (h : StrsAre ys l) (z : Str) (t : Tok) : StrsAre (ys ++ [.str z t]) (l ++ [z]) := by
  induction h with
  | nil => exact .cons z t .nil
  | cons y u _ ih => exact .cons y u ih
theorem rest_signs {ct elt : Expr} {x : Str} {scope : Scope} {cl : List (Str × Addr)} {y : Str} {news : List (Addr × Obj)} {Fin : List Value → List (Addr × Obj) → Prop} (p : Nat → Bool) (f : Nat → Str)
    (turn : ∀ c t I oI C oC D m₂ ys h tk (E' : Value → Shared → Prop), LCg.NsObj oC m₂ → m₂ x = some (.str ⟨#[c]⟩ t) → Fr h₀ L h m → News h₀ L h ((I, oI) :: (C, oC) :: (D, LCg.lst ys) :: news) → LCg.Off3 I C D news → ((@Ne Nat I C) ∧ (@Ne Nat I D) ∧ (@Ne Nat C D)) →
      wpAny (model prog w) A (isTrue ct (compEnvC scope cl C env) (eval ct (compEnvC scope cl C env))) (fun b s' => if b = true then wpAny (model prog w) A (eval elt (compEnvC scope cl C env)) (LCg.CompEnd h₀ L m { s with heap := h, toks := tk } I oI C oC D (LCg.lst ys) (fun _ => True) (fun y news' => SEl news (p c) (f c) y news')) E' s'
        else LCg.CompEnd h₀ L m { s with heap := h, toks := tk } I oI C oC D (LCg.lst ys) (fun _ => True) (fun _ news' => SNo news (p c) news') Value.none s') E' { s with heap := h, toks := tk })
    (fin : ∀ ys, StrsAre ys ((y.cps.toList.filter p).map f) → Fin ys news) : LCt.CompRestT prog w A h₀ L m env ct elt x scope cl s (fun _ => True) (SignAt y) Fin y.cps.size 0 [] news := by
  have key : ∀ (j i : Nat) (ys : List Value), i + j = y.cps.size → StrsAre ys (((y.cps.toList.take i).filter p).map f) → LCt.CompRestT prog w A h₀ L m env ct elt x scope cl s (fun _ => True) (SignAt y) Fin j i ys news := by
    intro j
    induction j with
    | zero =>
      intro i ys hi hy
      refine LCt.CompRestT.zero (fin ys ?_)
      have e : i = y.cps.toList.length := by simp; (first | lia | omega)
      rw [e, List.take_length] at hy
      exact hy
    | succ j ih =>
      intro i ys hi hy
      refine LCt.CompRestT.succ ?_
      intro v I oI C oC D m₂ h tk E' hv hC hx F N off ne
      obtain ⟨c, t, hk, rfl⟩ := hv
      have hs : ((y.cps.toList.take (i + 1)).filter p).map f = ((y.cps.toList.take i).filter p).map f ++ (([c].filter p).map f) := by
        have hk' : y.cps.toList[i]? = some c := by rw [Array.getElem?_toList]; exact hk
        rw [List.take_add_one, hk', List.filter_append, List.map_append]; rfl
      refine wpAny_mono (turn c t I oI C oC D m₂ ys h tk E' hC hx F N off ne) (fun b s₂ hq => ?_) fun _ _ e => e
      cases b with
      | true =>
        simp only [if_true] at hq ⊢
        refine wpAny_mono hq (fun y' s₃ hr => ?_) fun _ _ e => e
        obtain ⟨h', tk', nw, e, F', N', off', hS, hn, hp, t', rfl⟩ := hr
        rw [hn] at N' off'
        refine ⟨h', tk', news, e, F', N', off', hS, ?_⟩
        refine ih (i + 1) _ (by (first | lia | omega)) ?_
        rw [hs]
        simp only [List.filter_cons, hp, List.filter_nil, if_true, List.map_cons, List.map_nil]
        exact strs_append hy _ _
      | false =>
        simp only [Bool.false_eq_true, if_false] at hq ⊢
        obtain ⟨h', tk', nw, e, F', N', off', hS, hn, hp⟩ := hq
        rw [hn] at N' off'
        refine ⟨h', tk', news, e, F', N', off', hS, ih (i + 1) _ (by (first | lia | omega)) ?_⟩
        rw [hs]
        have z : List.filter p [c] = [] := by simp [hp]
        rw [z, List.map_nil, List.append_nil]
        exact hy
  exact key y.cps.size 0 [] (by (first | lia | omega)) (by simp only [List.take_zero, List.filter_nil, List.map_nil]; exact .nil)
end
theorem regKC8w : (∀ P, T49.K P = T49.K P) ∧ PySem.Challenge.rw_tp0049_01 = PySem.Challenge.rw_tp0049_01 := by
  k_fill
  exact ⟨fun _ => rfl, rfl⟩
noncomputable def prepL (x : Str) : List Str := (x.cps.toList.filter fun (c : Nat) => !b1B (c : Int)).map b3
set_option maxHeartbeats 8000000 in
theorem C_prep {w : World} {loose : List Str} {mean : ExcName → Option Value} {mg mb : Str → Option Value} {dp un : Nat} {gd : Option (List Code)} {cn : Str} {cs : Scope} {ca : Addr} {ccd : Value} {cl : List (Str × Addr)} {outer : List Env} {A₀ : Around} {base h₀ : Heap} {L : Addr} {m : Str → Option Value} {s : Shared} {Q E : Value → Shared → Prop} {news : List (Addr × Obj)}
    (B : Below A₀ base outer h₀) (F : Fr h₀ L s.heap m) (X : (T49.K w.params).In h₀) (N : News h₀ L s.heap news) (T : Top T49.vw loose mean mg mb h₀) (hk : cs.kind = .function) (hd : dp + 12 < recursionLimit) (hu : un + 300 < cLine)
    {x : Str} {tx : Tok} (hx : x.cps.size ≤ sizeLine) (hwt : ((prepL x).map (·.length)).sum + (prepL x).length ≤ 1048576)
    (hret : ∀ (t : Tok) (h' : Heap) (tk' : Nat), Fr h₀ L h' m → News h₀ L h' news → Q (.str (Txt.join (Str.ofString "") (prepL x)) t) { s with heap := h', toks := tk' }) :
    wpAny (model PySem.Challenge.rw_tp0049_01.row.prog w) (ktrTop dp un gd cn cs L ca ccd cl outer) (call (.ref 155) [.str x tx]) Q E s := by
  k_with_none
  (k_with "call ref" => ((k_here; (with_reducible show wpAny _ _ (call (Value.ref 76) _) _ _ _); k_dflt (refine C_b1 (by k_asm) (by k_asm) (by k_asm) (by k_asm) (by k_asm) (by first | exact rfl | assumption) (by ktr_room) (by ktr_units) ?_); (intro t9 h9 tk9 F9 N9; (try dsimp only); (try k_fold)))))
  (k_with "call ref" => ((k_here; (with_reducible show wpAny _ _ (call (Value.ref 122) _) _ _ _); k_dflt (refine C_b3 (by k_asm) (by k_asm) (by k_asm) (by k_asm) (by k_asm) (by first | exact rfl | assumption) (by ktr_room) (by ktr_units) ?_); (intro t9 h9 tk9 F9 N9; (try dsimp only); (try k_fold)))))
  (k_with "eval ListComp" => ((k_here; lcg_calm; k_dflt (refine ListComp_S (F₀ := by k_asm) (by with_unfolding_all rfl) (by decide) (by rfl) (by decide) (by rfl) ?_))))
  refine wpAny_call ?_
  k_dflt cell_enter
  k_steps
  · refine ⟨_, _, _, rfl, by rfl, by k_asm, by k_asm, hx, fun s₂ hs => ?_⟩
    obtain ⟨g, rfl⟩ := hs
    refine rest_signs (fun c => !b1B c) b3 (fun c t I oI C oC D m₂ ys h tk E' hC hx F N off ne => ?_) ?_
    · k_steps
      all_goals first
        | exact LCg.CompEnd.intro (by k_asm) (by k_asm) news (fun p hp => hp) off True.intro ⟨rfl, by simp_all⟩
        | exact LCg.CompEnd.intro (by k_asm) (by k_asm) news (fun p hp => hp) off True.intro ⟨rfl, by simp_all, _, rfl⟩
    · intro ys hys
      k_dflt walk_at "FinE"
      k_steps
      rename (News _ _ _ ((_, LCg.lst ys) :: news)) => N9
      have hl9 : Heap.IsList _ _ ys.toArray := N9.isList (n := ys.length) List.mem_cons_self
      k_dflt (refine join_listW (items := ys.toArray) ?j1 hys ?j2 hwt ?j3)
      case j1 => exact hl9
      case j2 => decide +kernel
      intro t' k'
      k_steps
      rename (News h₀ L _ ((_, LCg.lst ys) :: news)) => N8
      exact cb_retS hret rfl (by k_asm) (fun p hp => N8 p (List.mem_cons_of_mem _ hp))
theorem regKC9 : (∀ P, T49.K P = T49.K P) ∧ PySem.Challenge.rw_tp0049_01 = PySem.Challenge.rw_tp0049_01 := by
  k_fill
  exact ⟨fun _ => rfl, rfl⟩
theorem join3 (a b c : Str) : Txt.join (Str.ofString "") [a, b, c] = a ++ b ++ c := by
  show Builtin.Str.glued (Str.ofString "") [a, b, c] = _
  rw [StrLaws.glued_eq_join]
  have e : (Str.ofString "").cps = #[] := by decide +kernel
  apply Str.ext'
  simp only [Str.join, Str.cps_append, e, Array.append_empty, Array.append_assoc]
noncomputable def rep (a b c d : Str) (port : Int) : Str := Str.ofString "229 (" ++ (a ++ b ++ c) ++ Str.ofString (toString port) ++ d ++ Str.ofString ")"
noncomputable def p3 (k : Int) (x y z : Str) : Str := if k = 0 then x else if k = 1 then y else z
theorem item3 {prog : Program} {w : World} {A : Around} {E : Value → Shared → Prop} {s : Shared} {h₀ : Heap} {L a : Addr} {x y z : Str} {t u v tk : Tok} {k : Int} {news : List (Addr × Obj)} {value slice : Expr} {Q : Value → Shared → Prop} (N : News h₀ L s.heap news) (hm : (a, listOf #[.str x t, .str y u, .str z v] 0) ∈ news) (h0 : 0 ≤ k) (h3 : k < 3) (h : ∀ tt, Q (.str (p3 k x y z) tt) s)
    (hs : subscripted slice false (.ref a) (.int k tk) = operate [.ref a, .int k tk] (getItem (.ref a) (.int k tk)) := by with_unfolding_all rfl) :
    wpAny (model prog w) A (subscriptTail value slice (.ref a) (.int k tk)) Q E s := by
  have hl : s.heap.IsList a #[.str x t, .str y u, .str z v] := PySem.IsL.isList (n := 0) (N _ hm).1
  refine tail_any hl.typeIs slot_list_getitem.lookup ?_ hs
  have cases : k = 0 ∨ k = 1 ∨ k = 2 := by omega
  rcases cases with rfl | rfl | rfl
  · exact wpAny_getItem_list hl (by decide) (by decide) rfl (h _)
  · exact wpAny_getItem_list hl (by decide) (by decide) rfl (h _)
  · exact wpAny_getItem_list hl (by decide) (by decide) rfl (h _)
set_option maxHeartbeats 8000000 in
theorem C_replyK {w : World} {loose : List Str} {mean : ExcName → Option Value} {mg mb : Str → Option Value} {dp un : Nat} {gd : Option (List Code)} {cn : Str} {cs : Scope} {ca : Addr} {ccd : Value} {cl : List (Str × Addr)} {outer : List Env} {A₀ : Around} {base h₀ : Heap} {L : Addr} {m : Str → Option Value} {s : Shared} {Q E : Value → Shared → Prop} {news : List (Addr × Obj)}
    (B : Below A₀ base outer h₀) (F : Fr h₀ L s.heap m) (X : (T49.K w.params).In h₀) (N : News h₀ L s.heap news) (T : Top T49.vw loose mean mg mb h₀) (hk : cs.kind = .function) (hd : dp + 12 < recursionLimit) (hu : un + 300 < cLine)
    {Dm a0 a1 a2 a3 : Addr} {k : Int} (hk0 : 0 ≤ k) (hk3 : k < 3) {tz tp : Tok} {port : Int} {x0 y0 z0 : Str} {tx0 ty0 tz0 : Tok} {x1 y1 z1 : Str} {tx1 ty1 tz1 : Tok} {x2 y2 z2 : Str} {tx2 ty2 tz2 : Tok} {x3 y3 z3 : Str} {tx3 ty3 tz3 : Tok}  (hm : (Dm, LCg.lst [.ref a0, .ref a1, .ref a2, .ref a3]) ∈ news) (h0 : (a0, listOf #[.str x0 tx0, .str y0 ty0, .str z0 tz0] 0) ∈ news) (h1 : (a1, listOf #[.str x1 tx1, .str y1 ty1, .str z1 tz1] 0) ∈ news) (h2 : (a2, listOf #[.str x2 tx2, .str y2 ty2, .str z2 tz2] 0) ∈ news) (h3 : (a3, listOf #[.str x3 tx3, .str y3 ty3, .str z3 tz3] 0) ∈ news) (hp0 : 0 ≤ port) (hp1 : port < 100) (l0 : (p3 k x0 y0 z0).length ≤ 1) (l1 : (p3 k x1 y1 z1).length ≤ 1) (l2 : (p3 k x2 y2 z2).length ≤ 1) (l3 : (p3 k x3 y3 z3).length ≤ 1)
    (hret : ∀ (t : Tok) (h' : Heap) (tk' : Nat), Fr h₀ L h' m → News h₀ L h' news → Q (.str (rep (p3 k x0 y0 z0) (p3 k x1 y1 z1) (p3 k x2 y2 z2) (p3 k x3 y3 z3) port) t) { s with heap := h', toks := tk' }) :
    wpAny (model PySem.Challenge.rw_tp0049_01.row.prog w) (ktrTop dp un gd cn cs L ca ccd cl outer) (call (.ref 160) [.ref Dm, .int k tz, .int port tp]) Q E s := by
  k_with_none
  (k_with "subscriptTail" => ((k_here; (with_reducible show wpAny _ _ (subscriptTail _ _ (Value.ref _) (Value.int _ _)) _ _ _); k_dflt (refine item3 (by k_asm) (by k_mem) (by assumption) (by assumption) ?_); intro t9)))
  (k_with "CompEnd" => (k_dflt (refine LCg.CompEnd.intro (by assumption) (by assumption) _ (fun p hp => hp) (by (simp only [LCg.Off3, and_true]; assumption)) (by lcg_src) ?_)))
  have N2 : News h₀ L s.heap ((Dm, LCg.lst [.ref a0, .ref a1, .ref a2, .ref a3]) :: (a0, listOf #[.str x0 tx0, .str y0 ty0, .str z0 tz0] 0) :: (a1, listOf #[.str x1 tx1, .str y1 ty1, .str z1 tz1] 0) :: (a2, listOf #[.str x2 tx2, .str y2 ty2, .str z2 tz2] 0) :: (a3, listOf #[.str x3 tx3, .str y3 ty3, .str z3 tz3] 0) :: news) := by
    intro p hp
    rcases List.mem_cons.mp hp with rfl | hp
    · exact N _ hm
    rcases List.mem_cons.mp hp with rfl | hp
    · exact N _ h0
    rcases List.mem_cons.mp hp with rfl | hp
    · exact N _ h1
    rcases List.mem_cons.mp hp with rfl | hp
    · exact N _ h2
    rcases List.mem_cons.mp hp with rfl | hp
    · exact N _ h3
    exact N _ hp
  have hsub : ∀ {h' : Heap}, News h₀ L h' ((Dm, LCg.lst [.ref a0, .ref a1, .ref a2, .ref a3]) :: (a0, listOf #[.str x0 tx0, .str y0 ty0, .str z0 tz0] 0) :: (a1, listOf #[.str x1 tx1, .str y1 ty1, .str z1 tz1] 0) :: (a2, listOf #[.str x2 tx2, .str y2 ty2, .str z2 tz2] 0) :: (a3, listOf #[.str x3 tx3, .str y3 ty3, .str z3 tz3] 0) :: news) → News h₀ L h' news := fun H p hp => H p (by simp [hp])
  clear N hm h0 h1 h2 h3
  have hj : (Txt.join (Str.ofString "") [(p3 k x0 y0 z0), (p3 k x1 y1 z1), (p3 k x2 y2 z2)]).length ≤ 3 := by rw [join3]; simp only [Str.length_append]; omega
  refine wpAny_call ?_
  k_dflt (refine' code_defC ?k1 ?k2 ?k3 ?k4 ?k5 ?kA ?kF ?kK ?k6 ?k7 ?k8 ?k9 ?kB ?kD ?_ ?c2 ?c3 ?c4; (case kA => exact rfl); (case kF => exact rfl); (case kK => assumption); (case k1 => k_asm); (case k2 => k_asm); (case k3 => k_asm); (case k4 => k_asm); (case k5 => k_asm); (case k6 => k_is); (case k7 => k_is); (case k8 => ktr_room); (case k9 => exact BindsTo.of_eq rfl); (case kB => exact rfl); (case kD => decide +kernel); (case c2 => exact rfl); (case c3 => exact rfl); (case c4 => exact rfl); k_whole; intro g' L' h' tk' cells' FG' F' N' Y' B' X' T' l1; (try k_lt l1); k_cells Y'; (try simp only [List.cons_append, List.nil_append] at N'); (try dsimp only); (try k_lift B'); (try k_fold))
  k_steps
  · rename (News h₀ L _ (_ :: _)) => N8
    refine cb_retS hret (by rw [join3]; rfl) (by k_asm) (fun p hp => N8 p ?_)
    repeat (first | exact hp | apply List.mem_cons_of_mem)
theorem C_reply0 {w : World} {loose : List Str} {mean : ExcName → Option Value} {mg mb : Str → Option Value} {dp un : Nat} {gd : Option (List Code)} {cn : Str} {cs : Scope} {ca : Addr} {ccd : Value} {cl : List (Str × Addr)} {outer : List Env} {A₀ : Around} {base h₀ : Heap} {L : Addr} {m : Str → Option Value} {s : Shared} {Q E : Value → Shared → Prop} {news : List (Addr × Obj)}
    (B : Below A₀ base outer h₀) (F : Fr h₀ L s.heap m) (X : (T49.K w.params).In h₀) (N : News h₀ L s.heap news) (T : Top T49.vw loose mean mg mb h₀) (hk : cs.kind = .function) (hd : dp + 12 < recursionLimit) (hu : un + 300 < cLine)
    {Dm a0 a1 a2 a3 : Addr} {tz tp : Tok} {port : Int} {x0 y0 z0 : Str} {tx0 ty0 tz0 : Tok} {x1 y1 z1 : Str} {tx1 ty1 tz1 : Tok} {x2 y2 z2 : Str} {tx2 ty2 tz2 : Tok} {x3 y3 z3 : Str} {tx3 ty3 tz3 : Tok}  (hm : (Dm, LCg.lst [.ref a0, .ref a1, .ref a2, .ref a3]) ∈ news) (h0 : (a0, listOf #[.str x0 tx0, .str y0 ty0, .str z0 tz0] 0) ∈ news) (h1 : (a1, listOf #[.str x1 tx1, .str y1 ty1, .str z1 tz1] 0) ∈ news) (h2 : (a2, listOf #[.str x2 tx2, .str y2 ty2, .str z2 tz2] 0) ∈ news) (h3 : (a3, listOf #[.str x3 tx3, .str y3 ty3, .str z3 tz3] 0) ∈ news) (hp0 : 0 ≤ port) (hp1 : port < 100) (l0 : x0.length ≤ 1) (l1 : x1.length ≤ 1) (l2 : x2.length ≤ 1) (l3 : x3.length ≤ 1)
    (hret : ∀ (t : Tok) (h' : Heap) (tk' : Nat), Fr h₀ L h' m → News h₀ L h' news → Q (.str (rep x0 x1 x2 x3 port) t) { s with heap := h', toks := tk' }) :
    wpAny (model PySem.Challenge.rw_tp0049_01.row.prog w) (ktrTop dp un gd cn cs L ca ccd cl outer) (call (.ref 160) [.ref Dm, .int 0 tz, .int port tp]) Q E s :=
  C_replyK B F X N T hk hd hu (k := 0) (by decide) (by decide) hm h0 h1 h2 h3 hp0 hp1 l0 l1 l2 l3 hret
theorem C_reply1 {w : World} {loose : List Str} {mean : ExcName → Option Value} {mg mb : Str → Option Value} {dp un : Nat} {gd : Option (List Code)} {cn : Str} {cs : Scope} {ca : Addr} {ccd : Value} {cl : List (Str × Addr)} {outer : List Env} {A₀ : Around} {base h₀ : Heap} {L : Addr} {m : Str → Option Value} {s : Shared} {Q E : Value → Shared → Prop} {news : List (Addr × Obj)}
    (B : Below A₀ base outer h₀) (F : Fr h₀ L s.heap m) (X : (T49.K w.params).In h₀) (N : News h₀ L s.heap news) (T : Top T49.vw loose mean mg mb h₀) (hk : cs.kind = .function) (hd : dp + 12 < recursionLimit) (hu : un + 300 < cLine)
    {Dm a0 a1 a2 a3 : Addr} {tz tp : Tok} {port : Int} {x0 y0 z0 : Str} {tx0 ty0 tz0 : Tok} {x1 y1 z1 : Str} {tx1 ty1 tz1 : Tok} {x2 y2 z2 : Str} {tx2 ty2 tz2 : Tok} {x3 y3 z3 : Str} {tx3 ty3 tz3 : Tok}  (hm : (Dm, LCg.lst [.ref a0, .ref a1, .ref a2, .ref a3]) ∈ news) (h0 : (a0, listOf #[.str x0 tx0, .str y0 ty0, .str z0 tz0] 0) ∈ news) (h1 : (a1, listOf #[.str x1 tx1, .str y1 ty1, .str z1 tz1] 0) ∈ news) (h2 : (a2, listOf #[.str x2 tx2, .str y2 ty2, .str z2 tz2] 0) ∈ news) (h3 : (a3, listOf #[.str x3 tx3, .str y3 ty3, .str z3 tz3] 0) ∈ news) (hp0 : 0 ≤ port) (hp1 : port < 100) (l0 : y0.length ≤ 1) (l1 : y1.length ≤ 1) (l2 : y2.length ≤ 1) (l3 : y3.length ≤ 1)
    (hret : ∀ (t : Tok) (h' : Heap) (tk' : Nat), Fr h₀ L h' m → News h₀ L h' news → Q (.str (rep y0 y1 y2 y3 port) t) { s with heap := h', toks := tk' }) :
    wpAny (model PySem.Challenge.rw_tp0049_01.row.prog w) (ktrTop dp un gd cn cs L ca ccd cl outer) (call (.ref 160) [.ref Dm, .int 1 tz, .int port tp]) Q E s :=
  C_replyK B F X N T hk hd hu (k := 1) (by decide) (by decide) hm h0 h1 h2 h3 hp0 hp1 l0 l1 l2 l3 hret
theorem C_reply2 {w : World} {loose : List Str} {mean : ExcName → Option Value} {mg mb : Str → Option Value} {dp un : Nat} {gd : Option (List Code)} {cn : Str} {cs : Scope} {ca : Addr} {ccd : Value} {cl : List (Str × Addr)} {outer : List Env} {A₀ : Around} {base h₀ : Heap} {L : Addr} {m : Str → Option Value} {s : Shared} {Q E : Value → Shared → Prop} {news : List (Addr × Obj)}
    (B : Below A₀ base outer h₀) (F : Fr h₀ L s.heap m) (X : (T49.K w.params).In h₀) (N : News h₀ L s.heap news) (T : Top T49.vw loose mean mg mb h₀) (hk : cs.kind = .function) (hd : dp + 12 < recursionLimit) (hu : un + 300 < cLine)
    {Dm a0 a1 a2 a3 : Addr} {tz tp : Tok} {port : Int} {x0 y0 z0 : Str} {tx0 ty0 tz0 : Tok} {x1 y1 z1 : Str} {tx1 ty1 tz1 : Tok} {x2 y2 z2 : Str} {tx2 ty2 tz2 : Tok} {x3 y3 z3 : Str} {tx3 ty3 tz3 : Tok}  (hm : (Dm, LCg.lst [.ref a0, .ref a1, .ref a2, .ref a3]) ∈ news) (h0 : (a0, listOf #[.str x0 tx0, .str y0 ty0, .str z0 tz0] 0) ∈ news) (h1 : (a1, listOf #[.str x1 tx1, .str y1 ty1, .str z1 tz1] 0) ∈ news) (h2 : (a2, listOf #[.str x2 tx2, .str y2 ty2, .str z2 tz2] 0) ∈ news) (h3 : (a3, listOf #[.str x3 tx3, .str y3 ty3, .str z3 tz3] 0) ∈ news) (hp0 : 0 ≤ port) (hp1 : port < 100) (l0 : z0.length ≤ 1) (l1 : z1.length ≤ 1) (l2 : z2.length ≤ 1) (l3 : z3.length ≤ 1)
    (hret : ∀ (t : Tok) (h' : Heap) (tk' : Nat), Fr h₀ L h' m → News h₀ L h' news → Q (.str (rep z0 z1 z2 z3 port) t) { s with heap := h', toks := tk' }) :
    wpAny (model PySem.Challenge.rw_tp0049_01.row.prog w) (ktrTop dp un gd cn cs L ca ccd cl outer) (call (.ref 160) [.ref Dm, .int 2 tz, .int port tp]) Q E s :=
  C_replyK B F X N T hk hd hu (k := 2) (by decide) (by decide) hm h0 h1 h2 h3 hp0 hp1 l0 l1 l2 l3 hret
theorem regKC10 : (∀ P, T49.K P = T49.K P) ∧ PySem.Challenge.rw_tp0049_01 = PySem.Challenge.rw_tp0049_01 := by
  k_fill
  exact ⟨fun _ => rfl, rfl⟩
section
variable {prog : Program} {w : World} {A : Around} {E : Value → Shared → Prop} {Q : Flow → Shared → Prop} {s : Shared} {env : Env} {h₀ : Heap} {L : Addr} {m₀ : Str → Option Value} {news : List (Addr × Obj)} {a b : Str} {ta tb t0 : Tok}
noncomputable def PreOk (a b : Str) (k : Int) : Prop := 0 ≤ k ∧ k ≤ a.length ∧ k ≤ b.length ∧ a.cps.toList.take k.toNat = b.cps.toList.take k.toNat
noncomputable def PreEnd (a b : Str) (k : Int) : Prop := PreOk a b k ∧ (k = a.length ∨ k = b.length ∨ a.cps.toList[k.toNat]? ≠ b.cps.toList[k.toNat]?)
noncomputable def PreStep (a b : Str) (x : Str) (P : Int → Prop) (h₀ : Heap) (L : Addr) (m₀ : Str → Option Value) (news : List (Addr × Obj)) (s : Shared) (f : Flow) (s₃ : Shared) : Prop :=
  f = .next ∧ ∃ h tk k t, s₃ = { s with heap := h, toks := tk } ∧ Fr h₀ L h (fun y => if y = x then some (.int k t) else m₀ y) ∧ News h₀ L h news ∧ P k
theorem PreStep.intro {x : Str} {P : Int → Prop} {h : Heap} {tk : Nat} {k : Int} {t : Tok} {m : Str → Option Value} (F : Fr h₀ L h m) (N : News h₀ L h news) (hm : m x = some (.int k t)) (ho : ∀ y, y ≠ x → m y = m₀ y) (hP : P k) :
    PreStep a b x P h₀ L m₀ news s .next { s with heap := h, toks := tk } :=
  ⟨rfl, h, tk, k, t, rfl, by
    have e : (fun y => if y = x then some (.int k t) else m₀ y) = m := by
      funext y
      by_cases hy : y = x
      · rw [if_pos hy, hy, hm]
      · rw [if_neg hy, ho y hy]
    rw [e]; exact F, N, hP⟩
theorem While_step {x : Str} {test : Expr} {body : List Stmt} {pos : Pos} (a b : Str) (P R : Int → Prop) (μ : Int → Nat) (F : Fr h₀ L s.heap m₀) (N : News h₀ L s.heap news) {k0 : Int} (hx : m₀ x = some (.int k0 t0)) (hP : P k0)
    (turn : ∀ (k : Int) (t : Tok) h tk, P k → Fr h₀ L h (fun y => if y = x then some (.int k t) else m₀ y) → News h₀ L h news →
      wpAny (model prog w) A (isTrue test env (eval test env)) (fun b' s₂ => if b' = true then wpAny (model prog w) A (execs body env) (PreStep a b x (fun k' => P k' ∧ μ k' < μ k) h₀ L m₀ news s) E s₂ else PreStep a b x R h₀ L m₀ news s .next s₂) E { s with heap := h, toks := tk })
    (out : ∀ (k : Int) (t : Tok) h tk, R k → Fr h₀ L h (fun y => if y = x then some (.int k t) else m₀ y) → News h₀ L h news → Q .next { s with heap := h, toks := tk })
    (hE : PassesOwn (model prog w) A env E := by passes_own) :
    wpAny (model prog w) A (exec (.While test body [] pos) env) Q E s := by
  refine While_inv (fun n m nx => ∃ k t, m = (fun y => if y = x then some (.int k t) else m₀ y) ∧ nx = news ∧ P k ∧ n = μ k) F N ⟨k0, t0, ?_, rfl, hP, rfl⟩ ?_ hE
  · funext y
    by_cases hy : y = x
    · rw [if_pos hy, hy, hx]
    · rw [if_neg hy]
  · rintro n m₁ news₁ h₁ tk₁ F₁ N₁ ⟨k, t, rfl, rfl, hP, rfl⟩
    refine wpAny_mono (turn k t h₁ tk₁ hP F₁ N₁) (fun b' s₂ q => ?_) fun _ _ e => e
    cases b' with
    | true =>
      simp only [if_true] at q ⊢
      refine wpAny_mono q (fun f s₃ q => ?_) fun _ _ e => e
      obtain ⟨rfl, h, tk, k', t', rfl, F', N', hP', hμ⟩ := q
      exact WhileStep.intro F' N' hμ ⟨k', t', rfl, rfl, hP', rfl⟩
    | false =>
      simp only [Bool.false_eq_true, if_false] at q ⊢
      obtain ⟨_, h, tk, k', t', rfl, F', N', hR⟩ := q
      exact out k' t' h tk hR F' N'
theorem lev_while1 {test : Expr} {body : List Stmt} {pos : Pos} (F : Fr h₀ L s.heap m₀) (N : News h₀ L s.heap news) (hx : m₀ (Str.ofString "pre") = some (.int 0 t0)) (ha : m₀ (Str.ofString "a") = some (.str a ta)) (hb : m₀ (Str.ofString "b") = some (.str b tb))
    (turn : ∀ (k : Int) (t : Tok) h tk, PreOk a b k → 0 ≤ k → k ≤ a.length → k ≤ b.length → Fr h₀ L h (fun y => if y = Str.ofString "pre" then some (.int k t) else m₀ y) → News h₀ L h news →
      wpAny (model prog w) A (isTrue test env (eval test env)) (fun b' s₂ => if b' = true then wpAny (model prog w) A (execs body env) (PreStep a b (Str.ofString "pre") (fun k' => PreOk a b k' ∧ (a.length - k').toNat < (a.length - k).toNat) h₀ L m₀ news s) E s₂ else PreStep a b (Str.ofString "pre") (PreEnd a b) h₀ L m₀ news s .next s₂) E { s with heap := h, toks := tk })
    (out : ∀ (k : Int) (t : Tok) h tk, PreEnd a b k → 0 ≤ k → k ≤ a.length → k ≤ b.length → Fr h₀ L h (fun y => if y = Str.ofString "pre" then some (.int k t) else m₀ y) → News h₀ L h news → Q .next { s with heap := h, toks := tk })
    (hE : PassesOwn (model prog w) A env E := by passes_own) :
    wpAny (model prog w) A (exec (.While test body [] pos) env) Q E s :=
  While_step a b (PreOk a b) (PreEnd a b) (fun k => (a.length - k).toNat) F N hx ⟨by (first | lia | omega), by (first | lia | omega), by (first | lia | omega), by simp⟩ (fun k t h tk hP F N => turn k t h tk hP hP.1 hP.2.1 hP.2.2.1 F N) (fun k t h tk hP F N => out k t h tk hP hP.1.1 hP.1.2.1 hP.1.2.2.1 F N) hE
noncomputable def sliceTo (x : Str) (p : Int) : Str := if p = 0 then x else Txt.slice x none (some p)
noncomputable def PostOk (a b : Str) (k : Int) : Prop := k ≤ 0 ∧ -(a.length : Int) ≤ k ∧ -(b.length : Int) ≤ k ∧ a.cps.toList.reverse.take (-k).toNat = b.cps.toList.reverse.take (-k).toNat
noncomputable def PostEnd (a b : Str) (k : Int) : Prop := PostOk a b k ∧ (-k = a.length ∨ -k = b.length ∨ a.cps.toList.reverse[(-k).toNat]? ≠ b.cps.toList.reverse[(-k).toNat]?)
theorem sliceTo_len (x : Str) (k : Int) (h : k < 0) (h' : -(x.length : Int) ≤ k) : ((Txt.slice x none (some k)).length : Int) = x.length + k := by
  have e := slice_closes_to_neg (k := k + x.length) h h' rfl
  rw [eq_of_beq e]
  simp only [Str.length, List.size_toArray, List.length_take, List.length_drop, Array.length_toList] at h' ⊢
  (first | lia | omega)
theorem lev_while2 {test : Expr} {body : List Stmt} {pos : Pos} (F : Fr h₀ L s.heap m₀) (N : News h₀ L s.heap news) (hx : m₀ (Str.ofString "post") = some (.int 0 t0)) (ha : m₀ (Str.ofString "a") = some (.str a ta)) (hb : m₀ (Str.ofString "b") = some (.str b tb))
    (turn : ∀ (k : Int) (t : Tok) h tk, PostOk a b k → k ≤ 0 → -(a.length : Int) ≤ k → -(b.length : Int) ≤ k → (k < 0 → ((Txt.slice a none (some k)).length : Int) = a.length + k) → (k < 0 → ((Txt.slice b none (some k)).length : Int) = b.length + k) → Fr h₀ L h (fun y => if y = Str.ofString "post" then some (.int k t) else m₀ y) → News h₀ L h news →
      wpAny (model prog w) A (isTrue test env (eval test env)) (fun b' s₂ => if b' = true then wpAny (model prog w) A (execs body env) (PreStep a b (Str.ofString "post") (fun k' => PostOk a b k' ∧ (a.length + k').toNat < (a.length + k).toNat) h₀ L m₀ news s) E s₂ else PreStep a b (Str.ofString "post") (PostEnd a b) h₀ L m₀ news s .next s₂) E { s with heap := h, toks := tk })
    (out : ∀ (k : Int) (t : Tok) h tk, PostEnd a b k → k ≤ 0 → -(a.length : Int) ≤ k → -(b.length : Int) ≤ k → Fr h₀ L h (fun y => if y = Str.ofString "post" then some (.int k t) else m₀ y) → News h₀ L h news → Q .next { s with heap := h, toks := tk })
    (hE : PassesOwn (model prog w) A env E := by passes_own) :
    wpAny (model prog w) A (exec (.While test body [] pos) env) Q E s :=
  While_step a b (PostOk a b) (PostEnd a b) (fun k => (a.length + k).toNat) F N hx ⟨by (first | lia | omega), by (first | lia | omega), by (first | lia | omega), by simp⟩ (fun k t h tk hP F N => turn k t h tk hP hP.1 hP.2.1 hP.2.2.1 (fun h => sliceTo_len a k h hP.2.1) (fun h => sliceTo_len b k h hP.2.2.1) F N) (fun k t h tk hP F N => out k t h tk hP hP.1.1 hP.1.2.1 hP.1.2.2.1 F N) hE
noncomputable def Join2 (P : Str → Str → Prop) (h₀ : Heap) (L : Addr) (m₀ : Str → Option Value) (news : List (Addr × Obj)) (s : Shared) (f : Flow) (s₃ : Shared) : Prop :=
  f = .next ∧ ∃ h tk y z t u, s₃ = { s with heap := h, toks := tk } ∧ Fr h₀ L h (fun q => if q = Str.ofString "a" then some (.str y t) else if q = Str.ofString "b" then some (.str z u) else m₀ q) ∧ News h₀ L h news ∧ P y z
theorem Join2.intro {P : Str → Str → Prop} {h : Heap} {tk : Nat} {y z : Str} {t u : Tok} {m : Str → Option Value} (F : Fr h₀ L h m) (N : News h₀ L h news) (hm : m (Str.ofString "a") = some (.str y t)) (hm2 : m (Str.ofString "b") = some (.str z u)) (ho : ∀ q, q ≠ Str.ofString "a" → q ≠ Str.ofString "b" → m q = m₀ q) (hP : P y z) :
    Join2 P h₀ L m₀ news s .next { s with heap := h, toks := tk } :=
  ⟨rfl, h, tk, y, z, t, u, rfl, by
    have e : (fun q => if q = Str.ofString "a" then some (.str y t) else if q = Str.ofString "b" then some (.str z u) else m₀ q) = m := by
      funext q
      by_cases hy : q = Str.ofString "a"
      · rw [if_pos hy, hy, hm]
      · rw [if_neg hy]
        by_cases hz : q = Str.ofString "b"
        · rw [if_pos hz, hz, hm2]
        · rw [if_neg hz, ho q hy hz]
    rw [e]; exact F, N, hP⟩
theorem cut2 {c : Sem Flow} (P : Str → Str → Prop) 
    (h1 : wpAny (model prog w) A c (Join2 P h₀ L m₀ news s) E s)
    (h2 : ∀ y z t u h tk, P y z → Fr h₀ L h (fun q => if q = Str.ofString "a" then some (.str y t) else if q = Str.ofString "b" then some (.str z u) else m₀ q) → News h₀ L h news → Q .next { s with heap := h, toks := tk }) :
    wpAny (model prog w) A c Q E s :=
  wpAny_mono h1 (fun f s₃ q => by obtain ⟨rfl, h, tk, y, z, t, u, rfl, F, N, hP⟩ := q; exact h2 y z t u h tk hP F N) fun _ _ e => e
theorem lev_cutA {v : Expr} {px pos : Pos} {p : Int} {tp : Tok} (F₀ : Fr h₀ L s.heap m₀) (N₀ : News h₀ L s.heap news) (hp : m₀ (Str.ofString "post") = some (.int p tp)) (ha : m₀ (Str.ofString "a") = some (.str a ta)) (hb : m₀ (Str.ofString "b") = some (.str b tb)) (h0 : p ≤ 0) (h1 : -(a.length : Int) ≤ p)
    (w1 : wpAny (model prog w) A (exec (.Assign [.Name (Str.ofString "a") px] v pos) env) (Join2 (fun y z => y = sliceTo a p ∧ z = b) h₀ L m₀ news s) E s)
    (w2 : ∀ y t u h tk, y = sliceTo a p → (y.length : Int) = a.length + p → Fr h₀ L h (fun q => if q = Str.ofString "a" then some (.str y t) else if q = Str.ofString "b" then some (.str b u) else m₀ q) → News h₀ L h news → Q .next { s with heap := h, toks := tk }) :
    wpAny (model prog w) A (exec (.Assign [.Name (Str.ofString "a") px] v pos) env) Q E s :=
  cut2 _ w1 (fun y z t u h tk hP F N => by
    obtain ⟨rfl, rfl⟩ := hP
    refine w2 _ t u h tk rfl ?_ F N
    unfold sliceTo
    split
    · (first | lia | omega)
    · exact sliceTo_len a p (by (first | lia | omega)) h1)
theorem lev_cutB {v : Expr} {px pos : Pos} {p : Int} {tp : Tok} (F₀ : Fr h₀ L s.heap m₀) (N₀ : News h₀ L s.heap news) (hp : m₀ (Str.ofString "post") = some (.int p tp)) (ha : m₀ (Str.ofString "a") = some (.str a ta)) (hb : m₀ (Str.ofString "b") = some (.str b tb)) (h0 : p ≤ 0) (h1 : -(b.length : Int) ≤ p)
    (w1 : wpAny (model prog w) A (exec (.Assign [.Name (Str.ofString "b") px] v pos) env) (Join2 (fun y z => y = a ∧ z = sliceTo b p) h₀ L m₀ news s) E s)
    (w2 : ∀ z t u h tk, z = sliceTo b p → (z.length : Int) = b.length + p → Fr h₀ L h (fun q => if q = Str.ofString "a" then some (.str a t) else if q = Str.ofString "b" then some (.str z u) else m₀ q) → News h₀ L h news → Q .next { s with heap := h, toks := tk }) :
    wpAny (model prog w) A (exec (.Assign [.Name (Str.ofString "b") px] v pos) env) Q E s :=
  cut2 _ w1 (fun y z t u h tk hP F N => by
    obtain ⟨rfl, rfl⟩ := hP
    refine w2 _ t u h tk rfl ?_ F N
    unfold sliceTo
    split
    · (first | lia | omega)
    · exact sliceTo_len b p (by (first | lia | omega)) h1)
theorem lev_swap {c : Sem Flow} (F₀ : Fr h₀ L s.heap m₀) (N₀ : News h₀ L s.heap news) (ha : m₀ (Str.ofString "a") = some (.str a ta)) (hb : m₀ (Str.ofString "b") = some (.str b tb))
    (w1 : wpAny (model prog w) A c (Join2 (fun y z => (y, z) = if b.length < a.length then (b, a) else (a, b)) h₀ L m₀ news s) E s)
    (w2 : ∀ y z t u h tk, ((y, z) = if b.length < a.length then (b, a) else (a, b)) → (y.length ≤ z.length ∧ (a.length = y.length ∧ b.length = z.length ∨ a.length = z.length ∧ b.length = y.length)) → Fr h₀ L h (fun q => if q = Str.ofString "a" then some (.str y t) else if q = Str.ofString "b" then some (.str z u) else m₀ q) → News h₀ L h news → Q .next { s with heap := h, toks := tk }) :
    wpAny (model prog w) A c Q E s :=
  cut2 _ w1 (fun y z t u h tk hP F N => by
    refine w2 y z t u h tk hP ?_ F N
    split at hP
    · obtain ⟨rfl, rfl⟩ := Prod.mk.inj hP; (first | lia | omega)
    · obtain ⟨rfl, rfl⟩ := Prod.mk.inj hP; (first | lia | omega))
noncomputable def evens (n : Nat) : List Int := (List.range n).map fun (i : Nat) => 2 + (i : Int) * 2
theorem evens_length (n : Nat) : (evens n).length = n := by simp [evens]
theorem evens_at {n i : Nat} (h : i < n) : (evens n).getD i 0 = 2 * ((i : Int) + 1) := by
  unfold evens
  rw [List.getD_eq_getElem?_getD, List.getElem?_map, List.getElem?_range h]
  simp only [Option.map_some, Option.getD_some]
  (first | lia | omega)
theorem ints_of (f : Nat → Int) (vs : List Value) (h : ∀ (j : Nat) (v : Value), vs[j]? = some v → ∃ t, v = .int (f j) t) : IntsAre vs ((List.range vs.length).map f) := by
  induction vs generalizing f with
  | nil => exact .nil
  | cons v vs ih =>
    obtain ⟨t, rfl⟩ := h 0 v rfl
    rw [List.length_cons, List.range_succ_eq_map, List.map_cons, List.map_map]
    exact .cons _ _ (ih (f ∘ Nat.succ) fun j u hj => h (j + 1) u hj)
theorem list_step2 {r : Addr} {t₀ u₀ v₀ : Tok} {k : Int} {Q : Value → Shared → Prop} (hh : A.handled = none) (F : Fr h₀ L s.heap m₀) (N : News h₀ L s.heap news) (hr : IsRange s.heap r 2 (2 * (k + 1)) 2 t₀ u₀ v₀) (h0 : 0 ≤ k) (h1 : k ≤ 100)
    (h : ∀ D us c h' tk, Fr h₀ L h' m₀ → News h₀ L h' ((D, listOf (List.toArray us) c) :: news) → (∀ p ∈ news, p.1 < D) → IntsAre us (evens k.toNat) → (evens k.toNat).length = k.toNat → Q (.ref D) { s with heap := h', toks := tk }) :
    wpAny (model prog w) A (call (.type "list") [.ref r]) Q E s := by
  have hn : Builtin.Range.rangeSize 2 (2 * (k + 1)) 2 = ((k.toNat : Nat) : Int) := by
    unfold Builtin.Range.rangeSize
    rw [if_pos (by decide)]
    split <;> (first | lia | omega)
  have hsmall : Builtin.Range.small 2 (2 * (k + 1)) 2 = true := by
    unfold Builtin.Range.small
    rw [hn]
    simp only [Builtin.Range.rangeFitsLong, Bool.and_eq_true, Bool.or_eq_true, decide_eq_true_eq, beq_iff_eq, show (2 : Int) > 0 by decide, if_true]
    (try split) <;> (first | lia | omega)
  refine call_list_range hh hr hsmall hn (by (first | lia | omega)) fun h' tk acc c hk hD hI => ?_
  have hD' : h'.get? s.heap.objs.size = some (listOf (List.toArray acc.toList) c) := by
    rw [Array.toArray_toList]
    exact hD
  refine h _ acc.toList c h' tk (F.keeps hk) (news_pushed F N hk hD' rfl) (fun p hp => Heap.lt_size (N p hp).1) ?_ (evens_length _)
  have e := ints_of (fun (i : Nat) => 2 + (i : Int) * 2) acc.toList (fun j v hj => hI.2 j v (by rw [← hj, Array.getElem?_toList]))
  rw [Array.length_toList, hI.1] at e
  exact e
end
noncomputable def DT (c : Nat → Nat → Int) : Nat → Nat → Int
  | 0 => fun i => 2 * i
  | j + 1 => fun i => Nat.rec (2 * ((j : Int) + 1)) (fun i r => min (min r (DT c j (i + 1)) + 2) (DT c j i + c j i)) i
theorem DT_zero (c : Nat → Nat → Int) (i : Nat) : DT c 0 i = 2 * i := rfl
theorem DT_left (c : Nat → Nat → Int) (j : Nat) : DT c (j + 1) 0 = 2 * ((j : Int) + 1) := rfl
theorem DT_succ (c : Nat → Nat → Int) (j i : Nat) : DT c (j + 1) (i + 1) = min (min (DT c (j + 1) i) (DT c j (i + 1)) + 2) (DT c j i + c j i) := rfl
noncomputable def CC (a b : Str) (j i : Nat) : Int := cost (Txt.item b j) (Txt.item a i)
noncomputable def InP (a b : Str) (j n : Nat) (row : List Int) (result distance minimum : Int) : Prop :=
  (∀ k, k < n → row.getD k 0 = DT (CC a b) (j + 1) (k + 1)) ∧ (∀ k, n ≤ k → k < a.length → row.getD k 0 = DT (CC a b) j (k + 1)) ∧ (n = 0 ∧ result = 2 * (j : Int) ∨ 0 < n ∧ result = DT (CC a b) (j + 1) n) ∧ distance = DT (CC a b) j n ∧
  (∀ k, k < n → minimum ≤ DT (CC a b) (j + 1) (k + 1))
noncomputable def OutP (a b : Str) (j : Nat) (row : List Int) (result : Int) : Prop :=
  (∀ k, k < a.length → row.getD k 0 = DT (CC a b) j (k + 1)) ∧ (j = 0 ∧ result = 0 ∨ 0 < j ∧ result = DT (CC a b) j a.length)
theorem regKC11 : (∀ P, T49.K P = T49.K P) ∧ PySem.Challenge.rw_tp0049_01 = PySem.Challenge.rw_tp0049_01 := by
  k_fill
  exact ⟨fun _ => rfl, rfl⟩
theorem cost_le (x y : Str) : 0 ≤ cost x y ∧ cost x y ≤ 2 := by
  unfold cost; split <;> (try split) <;> decide
theorem DT_col (c : Nat → Nat → Int) (j : Nat) : DT c j 0 = 2 * (j : Int) := by
  cases j with
  | zero => rfl
  | succ j => rw [DT_left]; (first | lia | omega)
theorem OutP_start {y z : Str} {n : Nat} (h : y.length = n) : OutP y z 0 (evens n) 0 :=
  ⟨fun k hk => by rw [evens_at (by (first | lia | omega)), DT_zero]; (first | lia | omega), .inl ⟨rfl, rfl⟩⟩
theorem InP_start {y z : Str} {pre : List Int} {row : List Int} {res k : Int} (h : OutP y z pre.length row res) (hk : k = 0 + (pre.length : Int)) : InP y z k.toNat ([] : List Int).length row (k * 2) (k * 2) 9223372036854775807 := by
  have e : k.toNat = pre.length := by (first | lia | omega)
  rw [e]
  refine ⟨fun k hk => absurd hk (Nat.not_lt_zero _), fun i _ hi => h.1 i hi, .inl ⟨rfl, by (first | lia | omega)⟩, ?_, fun k hk => absurd hk (Nat.not_lt_zero _)⟩
  show k * 2 = DT _ pre.length 0
  rw [DT_col]; (first | lia | omega)
theorem InP_step {y z : Str} {j kN : Int} {row : List Int} {res dist mn r' mn' : Int} {pre : List Int} (h : InP y z j.toNat pre.length row res dist mn) (hj : 0 ≤ j) (hk : kN = 0 + (pre.length : Int)) (hl : pre.length < ((y.length : Int) - 0).toNat) (hlen : (row.length : Int) = y.length)
    (hr : r' = if dist + cost (Txt.item z j) (Txt.item y kN) < (if row.getD kN.toNat 0 < res then row.getD kN.toNat 0 else res) + 2 then dist + cost (Txt.item z j) (Txt.item y kN) else (if row.getD kN.toNat 0 < res then row.getD kN.toNat 0 else res) + 2)
    (hm : mn' = if r' < mn then r' else mn) : InP y z j.toNat (pre ++ [kN]).length (row.set kN.toNat r') r' (row.getD kN.toNat 0) mn' := by
  obtain ⟨h1, h2, h3, h4, h5⟩ := h
  have ek : kN.toNat = pre.length := by (first | lia | omega)
  have ec : cost (Txt.item z j) (Txt.item y kN) = CC y z j.toNat pre.length := by
    unfold CC
    rw [show ((j.toNat : Nat) : Int) = j by (first | lia | omega), show ((pre.length : Nat) : Int) = kN by (first | lia | omega)]
  have hc := cost_le (Txt.item z j) (Txt.item y kN)
  rw [ec] at hr hc
  rw [ek] at hr ⊢
  have e2 := h2 pre.length (Nat.le_refl _) (by (first | lia | omega))
  rw [e2, h4] at hr
  have hD : r' = DT (CC y z) (j.toNat + 1) (pre.length + 1) := by
    rw [hr, DT_succ]
    simp only [Int.min_def]
    rcases h3 with ⟨e0, e3⟩ | ⟨e0, e3⟩
    · have e5 : DT (CC y z) j.toNat pre.length = 2 * ((j.toNat : Nat) : Int) := by rw [e0, DT_col]
      have e6 : DT (CC y z) (j.toNat + 1) pre.length = 2 * ((j.toNat : Nat) : Int) + 2 := by rw [e0, DT_col]; (first | lia | omega)
      (repeat' split) <;> (first | lia | omega)
    · rw [← e3]
      (repeat' split) <;> (first | lia | omega)
  have el : (pre ++ [kN]).length = pre.length + 1 := by simp
  rw [el, e2]
  have hlt : pre.length < row.length := by (first | lia | omega)
  refine ⟨fun k hk => ?_, fun k hk hk2 => ?_, .inr ⟨by (first | lia | omega), hD⟩, rfl, fun k hk => ?_⟩
  · by_cases e : k = pre.length
    · subst e
      rw [List.getD_eq_getElem?_getD, List.getElem?_set_self hlt]
      exact hD
    · rw [List.getD_eq_getElem?_getD, List.getElem?_set_ne (by (first | lia | omega)), ← List.getD_eq_getElem?_getD]
      exact h1 k (by (first | lia | omega))
  · rw [List.getD_eq_getElem?_getD, List.getElem?_set_ne (by (first | lia | omega)), ← List.getD_eq_getElem?_getD]
    exact h2 k (by (first | lia | omega)) hk2
  · by_cases e : k = pre.length
    · subst e
      rw [← hD, hm]
      split <;> (first | lia | omega)
    · have := h5 k (by (first | lia | omega))
      rw [hm]
      split <;> (first | lia | omega)
theorem rk_len (n : Nat) (k : Int) : (rangeKs k n).length = n := rangeKs_length k n
theorem OutP_step {y z : Str} {pre : List Int} {row : List Int} {res dist mn k : Int} (h : InP y z k.toNat (rangeKs 0 ((y.length : Int) - 0).toNat).length row res dist mn) (hk : k = 0 + (pre.length : Int)) (hy : 0 < y.length) : OutP y z (pre ++ [k]).length row res := by
  have e : k.toNat = pre.length := by (first | lia | omega)
  rw [e, rk_len] at h
  have ey : ((y.length : Int) - 0).toNat = y.length := by (first | lia | omega)
  rw [ey] at h
  obtain ⟨h1, h2, h3, h4, h5⟩ := h
  rw [List.length_append, List.length_singleton]
  refine ⟨fun i hi => h1 i hi, .inr ⟨by (first | lia | omega), ?_⟩⟩
  rcases h3 with ⟨e0, _⟩ | ⟨_, e3⟩
  · (first | lia | omega)
  · exact e3
noncomputable def LevD (u v : Str) (mc r : Int) : Prop := (r = mc + 1 ∧ ∃ j, j < v.length ∧ ∀ i, i < u.length → mc < DT (CC u v) (j + 1) (i + 1)) ∨ r = DT (CC u v) v.length u.length
noncomputable def LevT (x y : Str) (mc r : Int) : Prop :=
  ((x.length = 0 ∨ y.length = 0) ∧ r = 2 * ((x.length : Int) + y.length)) ∨ (x.length ≠ 0 ∧ y.length ≠ 0 ∧ ∃ u v : Str, ((u, v) = if y.length < x.length then (y, x) else (x, y)) ∧ ((mc < ((v.length : Int) - u.length) * 2 ∧ r = mc + 1) ∨ LevD u v mc r))
noncomputable def LevR (a b : Str) (mc r : Int) : Prop :=
  (a = b ∧ r = 0) ∨ (a ≠ b ∧ ∃ (p q : Int), PreEnd a b p ∧ PostEnd (Txt.slice a (some p) none) (Txt.slice b (some p) none) q ∧ LevT (sliceTo (Txt.slice a (some p) none) q) (sliceTo (Txt.slice b (some p) none) q) mc r)
theorem LevR.same {a b : Str} {mc : Int} (h : (a == b) = true) : LevR a b mc 0 := .inl ⟨eq_of_beq h, rfl⟩
theorem LevR.tail {a b x y : Str} {mc r p q : Int} (h : (a == b) = false) (h1 : PreEnd a b p) (h2 : PostEnd (Txt.slice a (some p) none) (Txt.slice b (some p) none) q) (h3 : x = sliceTo (Txt.slice a (some p) none) q) (h4 : y = sliceTo (Txt.slice b (some p) none) q) (h5 : LevT x y mc r) : LevR a b mc r :=
  .inr ⟨fun e => by rw [e] at h; simp at h, p, q, h1, h2, by rw [← h3, ← h4]; exact h5⟩
theorem LevT.swap {x y u v : Str} {mc r : Int} (h0 : x.length ≠ 0) (h1 : y.length ≠ 0) (h : (u, v) = if y.length < x.length then (y, x) else (x, y)) (h2 : (mc < ((v.length : Int) - u.length) * 2 ∧ r = mc + 1) ∨ LevD u v mc r) : LevT x y mc r :=
  .inr ⟨h0, h1, u, v, h, h2⟩
theorem LevD.early {y z : Str} {pre : List Int} {row : List Int} {res dist mn k mc : Int} (h : InP y z k.toNat (rangeKs 0 ((y.length : Int) - 0).toNat).length row res dist mn) (hk : k = 0 + (pre.length : Int)) (hl : pre.length < ((z.length : Int) - 0).toNat) (hm : mc < mn) : LevD y z mc (mc + 1) := by
  left
  refine ⟨rfl, pre.length, by (first | lia | omega), fun i hi => ?_⟩
  have e : k.toNat = pre.length := by (first | lia | omega)
  rw [e, rk_len] at h
  have := h.2.2.2.2 i (by (first | lia | omega))
  (first | lia | omega)
theorem LevD.full {y z : Str} {row : List Int} {res mc : Int} (h : OutP y z (rangeKs 0 ((z.length : Int) - 0).toNat).length row res) (hz : 0 < z.length) : LevD y z mc res := by
  right
  rw [rk_len] at h
  have ez : ((z.length : Int) - 0).toNat = z.length := by (first | lia | omega)
  rw [ez] at h
  rcases h.2 with ⟨e0, _⟩ | ⟨_, e1⟩
  · (first | lia | omega)
  · exact e1
theorem slice_none (x : Str) : Txt.slice x none none = x := by
  have e := PyProof.Txt.length_slice_le x none none
  unfold Txt.slice at e ⊢
  split
  · rfl
  · rename_i h
    exfalso
    apply h
    simp [Builtin.Str.strSliceIndices, sliceRange]
    split <;> (first | lia | omega)
theorem item_get {x : Str} {i : Nat} (h : i < x.length) : Txt.item x i = ⟨#[x.cps.toList.getD i 0]⟩ := by
  have e := item_closes (x := x) (i := i) ⟨by (first | lia | omega), by (first | lia | omega)⟩
  rw [eq_of_beq e]
  simp [List.getD_eq_getElem?_getD, Array.getD_eq_getD_getElem?]
theorem item_neg {x : Str} {k : Int} (h0 : k ≤ 0) (h : -k < x.length) : Txt.item x (k - 1) = ⟨#[x.cps.toList.reverse.getD (-k).toNat 0]⟩ := by
  have e := item_closes_neg (x := x) (i := k - 1) (j := k - 1 + x.length) (by omega) (by omega) rfl
  rw [eq_of_beq e]
  have hz : (-k).toNat < x.cps.toList.length := by rw [Array.length_toList]; show _ < x.length; omega
  rw [List.getD_eq_getElem?_getD, List.getElem?_reverse hz]
  simp only [Array.getD_eq_getD_getElem?, Array.getElem?_toList, Array.length_toList]
  have e3 : (k - 1 + (x.length : Int)).toNat = x.cps.size - 1 - (-k).toNat := by
    show (k - 1 + (x.cps.size : Int)).toNat = x.cps.size - 1 - (-k).toNat
    have : (x.cps.size : Int) = x.length := rfl
    omega
  rw [e3]
theorem Pre_step {a b : Str} {k : Int} (h : PreOk a b k) (ha : k < a.length) (hb : k < b.length) (e : (Txt.item a k == Txt.item b k) = true) : PreOk a b (k + 1) ∧ ((a.length : Int) - (k + 1)).toNat < ((a.length : Int) - k).toNat := by
  obtain ⟨h0, h1, h2, h3⟩ := h
  refine ⟨⟨by (first | lia | omega), by (first | lia | omega), by (first | lia | omega), ?_⟩, by (first | lia | omega)⟩
  have e1 := eq_of_beq e
  rw [show k = ((k.toNat : Nat) : Int) by (first | lia | omega), item_get (by (first | lia | omega)), item_get (by (first | lia | omega))] at e1
  have e2 : a.cps.toList.getD k.toNat 0 = b.cps.toList.getD k.toNat 0 := by simpa using e1
  have la : k.toNat < a.cps.toList.length := by rw [Array.length_toList]; show _ < a.length; (first | lia | omega)
  have lb : k.toNat < b.cps.toList.length := by rw [Array.length_toList]; show _ < b.length; (first | lia | omega)
  rw [show (k + 1).toNat = k.toNat + 1 by (first | lia | omega), List.take_add_one, List.take_add_one, h3]
  rw [List.getD_eq_getElem?_getD, List.getD_eq_getElem?_getD, List.getElem?_eq_getElem la, List.getElem?_eq_getElem lb] at e2
  rw [List.getElem?_eq_getElem la, List.getElem?_eq_getElem lb]
  simp only [Option.getD_some] at e2
  rw [e2]
theorem Pre_end {a b : Str} {k : Int} (h : PreOk a b k) (ha : k < a.length) (hb : k < b.length) (e : (Txt.item a k == Txt.item b k) = false) : PreEnd a b k := by
  refine ⟨h, .inr (.inr fun e2 => ?_)⟩
  obtain ⟨h0, h1, h2, h3⟩ := h
  rw [show k = ((k.toNat : Nat) : Int) by (first | lia | omega), item_get (by (first | lia | omega)), item_get (by (first | lia | omega)), List.getD_eq_getElem?_getD, List.getD_eq_getElem?_getD, e2] at e
  simp at e
theorem Pre_endA {a b : Str} {k : Int} (h : PreOk a b k) (ha : (a.length : Int) ≤ k ∨ (b.length : Int) ≤ k) : PreEnd a b k := by
  refine ⟨h, ?_⟩
  obtain ⟨h0, h1, h2, h3⟩ := h
  rcases ha with h | h
  · left; (first | lia | omega)
  · right; left; (first | lia | omega)
theorem Post_step {a b : Str} {k : Int} (h : PostOk a b k) (ha : -k < a.length) (hb : -k < b.length) (e : (Txt.item a (k - 1) == Txt.item b (k - 1)) = true) : PostOk a b (k - 1) ∧ ((a.length : Int) + (k - 1)).toNat < ((a.length : Int) + k).toNat := by
  obtain ⟨h0, h1, h2, h3⟩ := h
  refine ⟨⟨by (first | lia | omega), by (first | lia | omega), by (first | lia | omega), ?_⟩, by (first | lia | omega)⟩
  have e1 := eq_of_beq e
  rw [item_neg h0 ha, item_neg h0 hb] at e1
  have e2 : a.cps.toList.reverse.getD (-k).toNat 0 = b.cps.toList.reverse.getD (-k).toNat 0 := by simpa using e1
  have la : (-k).toNat < a.cps.toList.reverse.length := by rw [List.length_reverse, Array.length_toList]; show _ < a.length; (first | lia | omega)
  have lb : (-k).toNat < b.cps.toList.reverse.length := by rw [List.length_reverse, Array.length_toList]; show _ < b.length; (first | lia | omega)
  rw [show (-(k - 1)).toNat = (-k).toNat + 1 by (first | lia | omega), List.take_add_one, List.take_add_one, h3]
  rw [List.getD_eq_getElem?_getD, List.getD_eq_getElem?_getD, List.getElem?_eq_getElem la, List.getElem?_eq_getElem lb] at e2
  rw [List.getElem?_eq_getElem la, List.getElem?_eq_getElem lb]
  simp only [Option.getD_some] at e2
  rw [e2]
theorem Post_end {a b : Str} {k : Int} (h : PostOk a b k) (ha : -k < a.length) (hb : -k < b.length) (e : (Txt.item a (k - 1) == Txt.item b (k - 1)) = false) : PostEnd a b k := by
  refine ⟨h, .inr (.inr fun e2 => ?_)⟩
  obtain ⟨h0, h1, h2, h3⟩ := h
  rw [item_neg h0 ha, item_neg h0 hb, List.getD_eq_getElem?_getD, List.getD_eq_getElem?_getD, e2] at e
  simp at e
theorem Post_endA {a b : Str} {k : Int} (h : PostOk a b k) (ha : (a.length : Int) ≤ -k ∨ (b.length : Int) ≤ -k) : PostEnd a b k := by
  refine ⟨h, ?_⟩
  obtain ⟨h0, h1, h2, h3⟩ := h
  rcases ha with h | h
  · left; (first | lia | omega)
  · right; left; (first | lia | omega)
theorem regKC12w : (∀ P, T49.K P = T49.K P) ∧ PySem.Challenge.rw_tp0049_01 = PySem.Challenge.rw_tp0049_01 := by
  k_fill
  exact ⟨fun _ => rfl, rfl⟩
theorem sliceTo_zero {x : Str} {p : Int} (h : p = 0) : sliceTo x p = x := if_pos h
theorem sliceTo_neg {x : Str} {p : Int} (h : p ≠ 0) : sliceTo x p = Txt.slice x none (some p) := if_neg h
theorem news_tl {h₀ h : Heap} {L : Addr} {p : Addr × Obj} {a b : List (Addr × Obj)} (N : News h₀ L h (p :: (a ++ b))) : News h₀ L h a := fun q hq => N q (List.mem_cons_of_mem _ (List.mem_append_left _ hq))
theorem news_t1 {h₀ h : Heap} {L : Addr} {p : Addr × Obj} {a : List (Addr × Obj)} (N : News h₀ L h (p :: a)) : News h₀ L h a := fun q hq => N q (List.mem_cons_of_mem _ hq)
set_option maxHeartbeats 8000000 in
theorem C_lev {w : World} {loose : List Str} {mean : ExcName → Option Value} {mg mb : Str → Option Value} {dp un : Nat} {gd : Option (List Code)} {cn : Str} {cs : Scope} {ca : Addr} {ccd : Value} {cl : List (Str × Addr)} {outer : List Env} {A₀ : Around} {base h₀ : Heap} {L : Addr} {m : Str → Option Value} {s : Shared} {Q E : Value → Shared → Prop} {news : List (Addr × Obj)}
    (B : Below A₀ base outer h₀) (F : Fr h₀ L s.heap m) (X : (T49.K w.params).In h₀) (N : News h₀ L s.heap news) (T : Top T49.vw loose mean mg mb h₀) (hk : cs.kind = .function) (hd : dp + 12 < recursionLimit) (hu : un + 300 < cLine)
    {a b : Str} {ta tb tm : Tok} {mc : Int} (hla : a.length ≤ 40) (hlb : b.length ≤ 40) (hm0 : -1 ≤ mc) (hm1 : mc ≤ 100)
    (hret : ∀ (t : Tok) (h' : Heap) (tk' : Nat) (r : Int) (_ : LevR a b mc r), Fr h₀ L h' m → News h₀ L h' news → Q (.int r t) { s with heap := h', toks := tk' }) :
    wpAny (model PySem.Challenge.rw_tp0049_01.row.prog w) (ktrTop dp un gd cn cs L ca ccd cl outer) (call (.ref 136) [.str a ta, .str b tb, .int mc tm]) Q E s := by
  k_with_none
  (k_with "call ref" => ((k_here; (with_reducible show wpAny _ _ (call (Value.ref 129) _) _ _ _); k_dflt (refine' C_cost ?k1 ?k2 ?k3 ?k4 ?k5 ?kK ?kd ?ku ?hx ?hy ?kR); (case k1 => k_asm); (case k2 => k_asm); (case k3 => k_asm); (case k4 => k_asm); (case k5 => k_asm); (case kK => first | exact rfl | assumption); (case kd => ktr_room); (case ku => ktr_units); (case hx => omega); (case hy => omega); (intro t9 h9 tk9 F9 N9; (try dsimp only); (try k_fold)))))
  (k_with "exec While BoolOp" => ((k_here; k_dflt (first | (refine lev_while1 (by assumption) (by assumption) (by with_unfolding_all rfl) (by with_unfolding_all rfl) (by with_unfolding_all rfl) ?_ ?_) | (refine lev_while2 (by assumption) (by assumption) (by with_unfolding_all rfl) (by with_unfolding_all rfl) (by with_unfolding_all rfl) ?_ ?_)))))
  (k_with "exec Assign cons Subscript" => ((k_here; (fail_if_success (with_reducible show wpAny _ _ _ (Join2 _ _ _ _ _ _) _ _)); (with_reducible show wpAny _ _ (exec (Stmt.Assign [Expr.Name _ _] (Expr.Subscript (Expr.Name _ _) (Expr.Slice none (some (Expr.BoolOp _ _ _)) none _) _) _) _) _ _ _); k_dflt (first | (refine lev_cutA (by assumption) (by assumption) (by with_unfolding_all rfl) (by with_unfolding_all rfl) (by with_unfolding_all rfl) (by omega) (by omega) ?_ ?_) | (refine lev_cutB (by assumption) (by assumption) (by with_unfolding_all rfl) (by with_unfolding_all rfl) (by with_unfolding_all rfl) (by omega) (by omega) ?_ ?_)))))
  (k_with "exec If Compare cons nil" => ((k_here; (fail_if_success (with_reducible show wpAny _ _ _ (Join2 _ _ _ _ _ _) _ _)); (with_reducible show wpAny _ _ (exec (Stmt.If _ [Stmt.Assign [Expr.Tuple _ _ _] _ _] _ _) _) _ _ _); k_dflt (refine lev_swap (by assumption) (by assumption) (by with_unfolding_all rfl) (by with_unfolding_all rfl) ?_ ?_))))
  (k_with "subscriptTail Name Slice str ref" => ((k_here; (with_reducible show wpAny _ _ (subscriptTail _ (Expr.Slice none (some _) none _) _ _) _ _ _); first | (exfalso; omega) | ((with_reducible rename Fr _ _ _ _ => F'); (with_reducible rename News _ _ _ _ => N'); refine slice_strN_nn_len (s := ⟨_, _, _, _, _⟩) F' N' ?_; rw [slice_none]; intro _ _ _ _ _ _))))
  (k_with "call type:list" => ((k_here; (with_reducible show wpAny _ _ (call (Value.type _) [Value.ref _]) _ _ _); k_dflt (refine list_step2 (by rfl) (by assumption) (by assumption) (by assumption) (by omega) (by omega) ?_); (intro D' vs' c' h' tk' F' N' l1 hI' hl'); (try k_lt l1); (try k_sweep))))
  (k_with "exec For Name Call cons nil" => ((k_here; (rename Fr _ _ _ _ => lF'); (with_unfolding_all refine' For_invVF lF' ?k1 ?k2 ?_; (case k1 => exact rfl); (case k2 => exact rfl); k_whole))))
  (k_with "pyIter ref" => ((k_here; first | (k_state_given ["a", "b", "bindex"] (fun a b bi pre row result distance minimum => (row.length : Int) = a.length ∧ 0 ≤ bi ∧ InP a b bi.toNat pre.length row result distance minimum) "row" "result" "distance" "minimum") | (k_state_given ["a", "b"] (fun a b pre row result => (row.length : Int) = a.length ∧ OutP a b pre.length row result) "row" "result"))))
  refine wpAny_call ?_
  k_dflt cell_enter
  (k_with "state" => first
    | exact ⟨by rw [evens_length]; omega, OutP_start (by omega)⟩
    | exact ⟨by assumption, by omega, InP_start (by assumption) (by assumption)⟩
    | exact ⟨by (rw [List.length_set]; assumption), by assumption, InP_step (by assumption) (by assumption) (by assumption) (by assumption) (by assumption) rfl (by first | exact (if_pos (by assumption)).symm | exact (if_neg (by assumption)).symm)⟩
    | exact ⟨by assumption, OutP_step (by assumption) (by assumption) (by omega)⟩)
  k_steps
  · exact hret _ _ _ _ (LevR.same (by assumption)) (by k_asm) (by k_asm)
  · exact PreStep.intro (by assumption) (by assumption) (by with_unfolding_all rfl) (by (intro y hy; simp only [if_neg hy])) (Pre_step (by assumption) (by omega) (by omega) (by assumption))
  · exact PreStep.intro (by assumption) (by assumption) (by with_unfolding_all rfl) (by (intro y hy; simp only [if_neg hy])) (Pre_end (by assumption) (by omega) (by omega) (by assumption))
  · exact PreStep.intro (by assumption) (by assumption) (by with_unfolding_all rfl) (by (intro y hy; simp only [if_neg hy])) (Pre_endA (by assumption) (by omega))
  · exact PreStep.intro (by assumption) (by assumption) (by with_unfolding_all rfl) (by (intro y hy; simp only [if_neg hy])) (Pre_endA (by assumption) (by omega))
  · exact PreStep.intro (by assumption) (by assumption) (by with_unfolding_all rfl) (by (intro y hy; simp only [if_neg hy])) (Post_step (by assumption) (by omega) (by omega) (by assumption))
  · exact PreStep.intro (by assumption) (by assumption) (by with_unfolding_all rfl) (by (intro y hy; simp only [if_neg hy])) (Post_end (by assumption) (by omega) (by omega) (by assumption))
  · exact PreStep.intro (by assumption) (by assumption) (by with_unfolding_all rfl) (by (intro y hy; simp only [if_neg hy])) (Post_endA (by assumption) (by omega))
  · exact PreStep.intro (by assumption) (by assumption) (by with_unfolding_all rfl) (by (intro y hy; simp only [if_neg hy])) (Post_endA (by assumption) (by omega))
  · exact PreStep.intro (by assumption) (by assumption) (by with_unfolding_all rfl) (by (intro y hy; simp only [if_neg hy])) (Post_step (by assumption) (by omega) (by omega) (by assumption))
  · exact PreStep.intro (by assumption) (by assumption) (by with_unfolding_all rfl) (by (intro y hy; simp only [if_neg hy])) (Post_end (by assumption) (by omega) (by omega) (by assumption))
  · exact PreStep.intro (by assumption) (by assumption) (by with_unfolding_all rfl) (by (intro y hy; simp only [if_neg hy])) (Post_endA (by assumption) (by omega))
  · exact PreStep.intro (by assumption) (by assumption) (by with_unfolding_all rfl) (by (intro y hy; simp only [if_neg hy])) (Post_endA (by assumption) (by omega))
  · exact Join2.intro (by assumption) (by assumption) (by with_unfolding_all rfl) (by with_unfolding_all rfl) (by (intro y hy hz; simp only [if_neg hy, if_neg hz])) (⟨(sliceTo_neg (by assumption)).symm, rfl⟩)
  · exact Join2.intro (by assumption) (by assumption) (by with_unfolding_all rfl) (by with_unfolding_all rfl) (by (intro y hy hz; simp only [if_neg hy, if_neg hz])) (⟨(sliceTo_zero (by assumption)).symm, rfl⟩)
  · exact Join2.intro (by assumption) (by assumption) (by with_unfolding_all rfl) (by with_unfolding_all rfl) (by (intro y hy hz; simp only [if_neg hy, if_neg hz])) (⟨rfl, (sliceTo_neg (by assumption)).symm⟩)
  · exact Join2.intro (by assumption) (by assumption) (by with_unfolding_all rfl) (by with_unfolding_all rfl) (by (intro y hy hz; simp only [if_neg hy, if_neg hz])) (⟨rfl, (sliceTo_zero (by assumption)).symm⟩)
  · exact Join2.intro (by assumption) (by first | assumption | exact news_t1 (by assumption)) (by with_unfolding_all rfl) (by with_unfolding_all rfl) (by (intro y hy hz; simp only [if_neg hy, if_neg hz])) ((if_pos (by omega)).symm)
  · exact Join2.intro (by assumption) (by assumption) (by with_unfolding_all rfl) (by with_unfolding_all rfl) (by (intro y hy hz; simp only [if_neg hy, if_neg hz])) ((if_neg (by omega)).symm)
  · exact hret _ _ _ _ (LevR.tail (by assumption) (by assumption) (by assumption) (by assumption) (by assumption) (LevT.swap (by omega) (by omega) (by assumption) (.inl ⟨by omega, rfl⟩))) (by k_asm) (by k_asm)
  · exact hret _ _ _ _ (LevR.tail (by assumption) (by assumption) (by assumption) (by assumption) (by assumption) (LevT.swap (by omega) (by omega) (by assumption) (.inr (LevD.early (by assumption) (by assumption) (by assumption) (by assumption))))) (by k_asm) (by exact news_tl (by k_asm))
  · exact hret _ _ _ _ (LevR.tail (by assumption) (by assumption) (by assumption) (by assumption) (by assumption) (LevT.swap (by omega) (by omega) (by assumption) (.inr (LevD.full (by assumption) (by omega))))) (by k_asm) (by exact news_t1 (by k_asm))
  · exact hret _ _ _ _ (LevR.tail (by assumption) (by assumption) (by assumption) (by assumption) (by assumption) (.inl ⟨by omega, rfl⟩)) (by k_asm) (by k_asm)
  · exact hret _ _ _ _ (LevR.tail (by assumption) (by assumption) (by assumption) (by assumption) (by assumption) (.inl ⟨by omega, rfl⟩)) (by k_asm) (by k_asm)
theorem regKC13 : (∀ P, T49.K P = T49.K P) ∧ PySem.Challenge.rw_tp0049_01 = PySem.Challenge.rw_tp0049_01 := by
  k_fill
  exact ⟨fun _ => rfl, rfl⟩
noncomputable def alphs : List Int := [119808, 119860, 119912, 120016, 120172, 120224, 120276, 120328, 120380, 120432]
theorem alphs_le (n : Nat) : 0 ≤ alphs.getD n 0 ∧ alphs.getD n 0 ≤ 120432 := by
  by_cases h : n < 10
  · have : ∀ n, n < 10 → 0 ≤ alphs.getD n 0 ∧ alphs.getD n 0 ≤ 120432 := by decide
    exact this n h
  · rw [List.getD_eq_getElem?_getD, List.getElem?_eq_none (by simp [alphs]; omega)]
    decide
section
variable {prog : Program} {w : World} {A : Around} {E : Value → Shared → Prop} {s : Shared}
theorem chr_alph {n : Nat} {y : Int} {t : Tok} {Q : Value → Shared → Prop} (h : Q (.str ⟨#[(alphs.getD n 0 + y.fmod 26).toNat]⟩ s.toks) { s with toks := s.toks + 1 }) :
    wpAny (model prog w) A (call (.builtin "chr") [.int ([119808, 119860, 119912, 120016, 120172, 120224, 120276, 120328, 120380, 120432].getD n 0 + y.fmod 26) t]) Q E s := by
  have h1 := alphs_le n
  have h2 := Int.fmod_nonneg_of_pos y (show (0 : Int) < 26 by decide)
  have h3 := Int.fmod_lt_of_pos y (show (0 : Int) < 26 by decide)
  exact chr_of_range (i := alphs.getD n 0 + y.fmod 26) (by omega) (by omega) h
end
noncomputable def chS (n : Int) : Str := ⟨#[n.toNat]⟩
noncomputable def alphAt (y : Int) : Int := alphs.getD ((y.fdiv 26).fmod 10).toNat 0
noncomputable def alphAt1 (y : Int) : Int := alphs.getD ((y.fdiv 26 + 1).fmod 10).toNat 0
noncomputable def lastF (y : Int) : Str × Str × Str :=
  if (chS (97 + y.fmod 26) == Str.ofString "s") = true then (Str.ofString "ſ", Str.ofString "ſ", chS (97 + y.fmod 26))
  else if (chS (97 + y.fmod 26) == Str.ofString "k") = true then (Str.ofString "K", chS (97 + y.fmod 26), chS (97 + y.fmod 26))
  else (Str.ofString "|", Str.ofString "|", Str.ofString "|")
noncomputable def formT (y : Int) : List (Str × Str × Str) :=
  let l := y.fmod 26
  let small := chS (97 + l); let wide := chS (65345 + l); let other := chS (97 + (l + 1).fmod 26)
  let first := chS (alphAt y + l); let second := chS (alphAt1 y + l)
  [(small, small, small), (chS (65 + l), small, small), (first, first, small), (second, second, small), (chS (65313 + l), wide, wide), (wide, wide, wide), (other, other, other), lastF y]
noncomputable def fObj (f : Str × Str × Str) (t u v : Tok) : Obj := listOf #[.str f.1 t, .str f.2.1 u, .str f.2.2 v] 0
noncomputable def fAt (y : Int) (k : Nat) : Str × Str × Str := (formT y).getD k (Str.empty, Str.empty, Str.empty)
theorem news_cons {h₀ h : Heap} {L a : Addr} {o : Obj} {l r : List (Addr × Obj)} (N : News h₀ L h l) (hm : (a, o) ∈ l) (R : News h₀ L h r) : News h₀ L h ((a, o) :: r) := by
  intro p hp
  rcases List.mem_cons.mp hp with rfl | hp
  · exact N _ hm
  · exact R p hp
noncomputable def lastK (y : Int) : Str × Str × Str := if (chS (97 + y.fmod 26) == Str.ofString "k") = true then (Str.ofString "K", chS (97 + y.fmod 26), chS (97 + y.fmod 26)) else (Str.ofString "|", Str.ofString "|", Str.ofString "|")
theorem lastF_eq (y : Int) : lastF y = if (chS (97 + y.fmod 26) == Str.ofString "s") = true then (Str.ofString "ſ", Str.ofString "ſ", chS (97 + y.fmod 26)) else lastK y := rfl
noncomputable def LastP (X : Str × Str × Str) (h₀ : Heap) (L : Addr) (m₀ : Str → Option Value) (news old : List (Addr × Obj)) (s : Shared) (f : Flow) (s₃ : Shared) : Prop :=
  f = .next ∧ ∃ h tk a t u v, s₃ = { s with heap := h, toks := tk } ∧ Fr h₀ L h (fun y => if y = Str.ofString "last" then some (.ref a) else m₀ y) ∧ News h₀ L h ((a, listOf #[.str X.1 t, .str X.2.1 u, .str X.2.2 v] 0) :: news) ∧ ∀ p ∈ old, p.1 < a
section
variable {prog : Program} {w : World} {A : Around} {E : Value → Shared → Prop} {Q : Flow → Shared → Prop} {s : Shared} {env : Env} {h₀ : Heap} {L : Addr} {m₀ : Str → Option Value} {news old : List (Addr × Obj)}
theorem LastP.new {X Y : Str × Str × Str} {c : Prop} [Decidable c] {h : Heap} {tk : Nat} {a : Addr} {t u v : Tok} (F : Fr h₀ L h (fun y => if y = Str.ofString "last" then some (.ref a) else m₀ y)) (N : News h₀ L h ((a, listOf #[.str X.1 t, .str X.2.1 u, .str X.2.2 v] 0) :: news)) (g : ∀ p ∈ old, p.1 < a) (hc : c) : LastP (if c then X else Y) h₀ L m₀ news old s .next { s with heap := h, toks := tk } :=
  ⟨rfl, h, tk, a, t, u, v, rfl, F, by rw [if_pos hc]; exact N, g⟩
theorem LastP.same {X Y : Str × Str × Str} {c : Prop} [Decidable c] {h : Heap} {tk : Nat} {a : Addr} {t u v : Tok} (F : Fr h₀ L h m₀) (N : News h₀ L h news) (hm : (a, listOf #[.str Y.1 t, .str Y.2.1 u, .str Y.2.2 v] 0) ∈ news) (hl : m₀ (Str.ofString "last") = some (.ref a)) (g : ∀ p ∈ old, p.1 < a) (hc : ¬ c) : LastP (if c then X else Y) h₀ L m₀ news old s .next { s with heap := h, toks := tk } := by
  refine ⟨rfl, h, tk, a, t, u, v, rfl, ?_, ?_, g⟩
  · have e : (fun y => if y = Str.ofString "last" then some (Value.ref a) else m₀ y) = m₀ := by
      funext y
      by_cases hy : y = Str.ofString "last"
      · rw [if_pos hy, hy, hl]
      · rw [if_neg hy]
    rw [e]; exact F
  · rw [if_neg hc]; exact news_cons N hm N
theorem last_cut {c : Sem Flow} (X : Str × Str × Str) (old : List (Addr × Obj)) (F : Fr h₀ L s.heap m₀) (N : News h₀ L s.heap news)
    (w1 : wpAny (model prog w) A c (LastP X h₀ L m₀ news old s) E s)
    (w2 : ∀ h tk a t u v, Fr h₀ L h (fun y => if y = Str.ofString "last" then some (.ref a) else m₀ y) → News h₀ L h ((a, listOf #[.str X.1 t, .str X.2.1 u, .str X.2.2 v] 0) :: news) → (∀ p ∈ old, p.1 < a) → Q .next { s with heap := h, toks := tk }) :
    wpAny (model prog w) A c Q E s :=
  wpAny_mono w1 (fun fl s₃ q => by obtain ⟨rfl, h, tk, a, t, u, v, rfl, F, N, g⟩ := q; exact w2 h tk a t u v F N g) fun _ _ e => e
end
set_option maxHeartbeats 8000000 in
theorem C_forms {w : World} {loose : List Str} {mean : ExcName → Option Value} {mg mb : Str → Option Value} {dp un : Nat} {gd : Option (List Code)} {cn : Str} {cs : Scope} {ca : Addr} {ccd : Value} {cl : List (Str × Addr)} {outer : List Env} {A₀ : Around} {base h₀ : Heap} {L : Addr} {m : Str → Option Value} {s : Shared} {Q E : Value → Shared → Prop} {news : List (Addr × Obj)}
    (B : Below A₀ base outer h₀) (F : Fr h₀ L s.heap m) (X : (T49.K w.params).In h₀) (N : News h₀ L s.heap news) (T : Top T49.vw loose mean mg mb h₀) (hk : cs.kind = .function) (hd : dp + 12 < recursionLimit) (hu : un + 300 < cLine)
    {y : Int} {ty : Tok} (hy0 : 0 ≤ y) (hy1 : y < 1000000)
    (hret : ∀ (t : Tok) (h' : Heap) (tk' : Nat) (D a0 a1 a2 a3 a4 a5 a6 a7 : Addr) (t0 u0 v0 t1 u1 v1 t2 u2 v2 t3 u3 v3 t4 u4 v4 t5 u5 v5 t6 u6 v6 t7 u7 v7 : Tok) (_ : ∀ p ∈ news, p.1 < D) (_ : ∀ p ∈ news, p.1 < a0) (_ : ∀ p ∈ news, p.1 < a1) (_ : ∀ p ∈ news, p.1 < a2) (_ : ∀ p ∈ news, p.1 < a3) (_ : ∀ p ∈ news, p.1 < a4) (_ : ∀ p ∈ news, p.1 < a5) (_ : ∀ p ∈ news, p.1 < a6) (_ : ∀ p ∈ news, p.1 < a7), Fr h₀ L h' m → News h₀ L h' ((D, listOf #[.ref a0, .ref a1, .ref a2, .ref a3, .ref a4, .ref a5, .ref a6, .ref a7] 0) :: (a0, fObj (fAt y 0) t0 u0 v0) :: (a1, fObj (fAt y 1) t1 u1 v1) :: (a2, fObj (fAt y 2) t2 u2 v2) :: (a3, fObj (fAt y 3) t3 u3 v3) :: (a4, fObj (fAt y 4) t4 u4 v4) :: (a5, fObj (fAt y 5) t5 u5 v5) :: (a6, fObj (fAt y 6) t6 u6 v6) :: (a7, fObj (fAt y 7) t7 u7 v7) :: news) → Q (.ref D) { s with heap := h', toks := tk' }) :
    wpAny (model PySem.Challenge.rw_tp0049_01.row.prog w) (ktrTop dp un gd cn cs L ca ccd cl outer) (call (.ref 143) [.int y ty]) Q E s := by
  k_with_none
  (k_with "call builtin:chr" => ((k_here; k_dflt (refine chr_alph ?_))))
  (k_with "exec If Compare cons nil" => ((k_here; (fail_if_success (with_reducible show wpAny _ _ _ (LastP _ _ _ _ _ _ _) _ _)); k_dflt (first | (refine last_cut (lastF y) news (by k_asm) (by k_asm) ?_ ?_; fail_if_success (with_reducible show wpAny _ _ (exec (Stmt.If (Expr.Compare _ _ [Expr.Constant (Const.str (Str.ofString "k")) _ _] _) _ _ _) _) _ _ _)) | (refine last_cut (lastK y) news (by k_asm) (by k_asm) ?_ ?_)))))
  refine wpAny_call ?_
  k_dflt cell_enter
  k_steps
  · exact LastP.new (by k_asm) (by k_asm) (kst_ltOf (by assumption : _ ∧ _ ∧ AllLt _ news).2.2) (by assumption)
  · exact LastP.same (by k_asm) (by k_asm) (List.Mem.head _) (by with_unfolding_all rfl) (kst_ltOf (by assumption : _ ∧ AllLt _ news).2) (fun h => Bool.false_ne_true ((by assumption : _ = false).symm.trans h))
  · exact LastP.new (by k_asm) (by k_asm) (kst_ltOf (by assumption : _ ∧ _ ∧ _ ∧ AllLt _ news).2.2.2) (by assumption)
  · exact LastP.same (by k_asm) (by k_asm) (List.Mem.head _) (by with_unfolding_all rfl) (by assumption) (fun h => Bool.false_ne_true ((by assumption : _ = false).symm.trans h))
  · rename (News h₀ L _ (_ :: _)) => N8
    exact hret 0 _ _ _ _ _ _ _ _ _ _ _ _ _ _ _ _ _ _ _ _ _ _ _ _ _ _ _ _ _ _ _ _ _ _ _ (kst_ltOf (by assumption : _ ∧ _ ∧ _ ∧ _ ∧ _ ∧ _ ∧ _ ∧ _ ∧ _ ∧ _ ∧ _ ∧ _ ∧ _ ∧ AllLt _ news).2.2.2.2.2.2.2.2.2.2.2.2.2) (kst_ltOf (by assumption : _ ∧ _ ∧ _ ∧ _ ∧ AllLt _ news).2.2.2.2) (kst_ltOf (by assumption : _ ∧ _ ∧ _ ∧ _ ∧ _ ∧ AllLt _ news).2.2.2.2.2) (kst_ltOf (by assumption : _ ∧ _ ∧ _ ∧ _ ∧ _ ∧ _ ∧ AllLt _ news).2.2.2.2.2.2) (kst_ltOf (by assumption : _ ∧ _ ∧ _ ∧ _ ∧ _ ∧ _ ∧ _ ∧ AllLt _ news).2.2.2.2.2.2.2) (kst_ltOf (by assumption : _ ∧ _ ∧ _ ∧ _ ∧ _ ∧ _ ∧ _ ∧ _ ∧ _ ∧ AllLt _ news).2.2.2.2.2.2.2.2.2) (kst_ltOf (by assumption : _ ∧ _ ∧ _ ∧ _ ∧ _ ∧ _ ∧ _ ∧ _ ∧ _ ∧ _ ∧ AllLt _ news).2.2.2.2.2.2.2.2.2.2) (kst_ltOf (by assumption : _ ∧ _ ∧ _ ∧ _ ∧ _ ∧ _ ∧ _ ∧ _ ∧ _ ∧ _ ∧ _ ∧ AllLt _ news).2.2.2.2.2.2.2.2.2.2.2) (by assumption) (by k_asm) (news_cons N8 (.head _) (news_cons N8 (.tail _ (.tail _ (.tail _ (.tail _ (.tail _ (.tail _ (.tail _ (.tail _ (.tail _ (.head _)))))))))) (news_cons N8 (.tail _ (.tail _ (.tail _ (.tail _ (.tail _ (.tail _ (.tail _ (.tail _ (.head _))))))))) (news_cons N8 (.tail _ (.tail _ (.tail _ (.tail _ (.tail _ (.tail _ (.tail _ (.head _)))))))) (news_cons N8 (.tail _ (.tail _ (.tail _ (.tail _ (.tail _ (.tail _ (.head _))))))) (news_cons N8 (.tail _ (.tail _ (.tail _ (.tail _ (.head _))))) (news_cons N8 (.tail _ (.tail _ (.tail _ (.head _)))) (news_cons N8 (.tail _ (.tail _ (.head _))) (news_cons N8 (.tail _ (.tail _ (.tail _ (.tail _ (.tail _ (.tail _ (.tail _ (.tail _ (.tail _ (.tail _ (.head _))))))))))) (fun p hp => N8 p (.tail _ (.tail _ (.tail _ (.tail _ (.tail _ (.tail _ (.tail _ (.tail _ (.tail _ (.tail _ (.tail _ (.tail _ (.tail _ (.tail _ (hp)))))))))))))))))))))))))
theorem port_len (port : Int) (h0 : 0 ≤ port) (h1 : port < 100) : (Str.ofString (toString port)).length ≤ 2 := by
  have h : ∀ n : Nat, n < 100 → (Str.ofString (toString (n : Int))).length ≤ 2 := by decide +kernel
  have e := h port.toNat (by (first | lia | omega))
  rw [show ((port.toNat : Nat) : Int) = port by (first | lia | omega)] at e
  exact e
theorem rep_size {a b c d : Str} {port : Int} (ha : a.length ≤ 1) (hb : b.length ≤ 1) (hc : c.length ≤ 1) (hd : d.length ≤ 1) (h0 : 0 ≤ port) (h1 : port < 100) : (rep a b c d port).length ≤ 12 := by
  unfold rep
  have e1 : (Str.ofString "229 (").length = 5 := by decide +kernel
  have e2 : (Str.ofString ")").length = 1 := by decide +kernel
  have e3 := port_len port h0 h1
  simp only [Str.length_append]
  (first | lia | omega)
theorem b3_len (x : Nat) : (b3 x).length ≤ 4 := by
  unfold b3
  split
  · rename_i v hv
    unfold b3of at hv
    have hall : b3raw.all (fun p => p.2.length ≤ 4) = true := by decide +kernel
    cases hf : b3raw.find? fun p => p.1 == x with
    | none => rw [hf] at hv; cases hv
    | some p =>
      rw [hf] at hv
      cases hv
      have := List.all_eq_true.mp hall p (List.mem_of_find?_eq_some hf)
      simpa [Str.length] using this
  · have := len_lower ⟨#[x]⟩
    have e : (⟨#[x]⟩ : Str).length = 1 := rfl
    (first | lia | omega)
theorem sum_le_of {l : List Nat} {b : Nat} (h : ∀ x ∈ l, x ≤ b) : l.sum ≤ b * l.length := by
  induction l with
  | nil => simp
  | cons a l ih =>
    have := ih (fun x hx => h x (List.mem_cons_of_mem _ hx))
    have := h a List.mem_cons_self
    simp only [List.sum_cons, List.length_cons]
    rw [Nat.mul_add]
    (first | lia | omega)
theorem prep_wt {x : Str} (h : x.length ≤ 600) : ((prepL x).map (·.length)).sum + (prepL x).length ≤ 1048576 := by
  have hl : (prepL x).length ≤ 600 := by
    unfold prepL
    rw [List.length_map]
    refine Nat.le_trans (List.length_filter_le _ _) ?_
    rw [Array.length_toList]; exact h
  have hs : ((prepL x).map (·.length)).sum ≤ 4 * (prepL x).length := by
    have := sum_le_of (l := (prepL x).map (·.length)) (b := 4) (fun y hy => by
      obtain ⟨z, hz, rfl⟩ := List.mem_map.mp hy
      obtain ⟨c, _, rfl⟩ := List.mem_map.mp hz
      exact b3_len c)
    rwa [List.length_map] at this
  (first | lia | omega)
noncomputable def csum (c : Nat → Nat → Int) : Nat → Int
  | 0 => 0
  | n + 1 => csum c n + c n n
theorem DT_upper (c : Nat → Nat → Int) (i : Nat) : DT c i i ≤ csum c i := by
  induction i with
  | zero => exact Int.le_refl _
  | succ i ih =>
    rw [DT_succ]
    simp only [csum, Int.min_def]
    (repeat' split) <;> (first | lia | omega)
theorem DT_lowA (c : Nat → Nat → Int) (n : Nat) (h2 : ∀ k, c k k ≤ 2) (hc : ∀ j i, j < n → i < n → c i i ≤ c j i) : ∀ j i, j ≤ n → i ≤ n → csum c i ≤ DT c j i := by
  intro j
  induction j with
  | zero =>
    intro i
    induction i with
    | zero => intro _ _; exact Int.le_refl _
    | succ i ih =>
      intro hj hi
      have := ih hj (by (first | lia | omega))
      have := h2 i
      rw [DT_zero] at *
      simp only [csum]
      (first | lia | omega)
  | succ j ihj =>
    intro i
    induction i with
    | zero => intro _ _; rw [DT_left]; simp only [csum]; (first | lia | omega)
    | succ i ih =>
      intro hj hi
      have h0 := ih hj (by (first | lia | omega))
      have h1 := ihj (i + 1) (by (first | lia | omega)) hi
      have h3 := ihj i (by (first | lia | omega)) (by (first | lia | omega))
      have h4 := h2 i
      have h5 := hc j i (by (first | lia | omega)) (by (first | lia | omega))
      rw [DT_succ]
      simp only [csum, Int.min_def] at *
      (repeat' split) <;> (first | lia | omega)
theorem DT_lowB (c : Nat → Nat → Int) (n : Nat) (h2 : ∀ k, c k k ≤ 2) (hc : ∀ j i, j < n → i < n → c j j ≤ c j i) : ∀ j i, j ≤ n → i ≤ n → csum c j ≤ DT c j i := by
  intro j
  induction j with
  | zero =>
    intro i _ _
    rw [DT_zero]; simp only [csum]; (first | lia | omega)
  | succ j ihj =>
    intro i
    induction i with
    | zero =>
      intro hj hi
      have := ihj 0 (by (first | lia | omega)) (by (first | lia | omega))
      rw [DT_col] at *
      have := h2 j
      simp only [csum]; (first | lia | omega)
    | succ i ih =>
      intro hj hi
      have h0 := ih hj (by (first | lia | omega))
      have h1 := ihj (i + 1) (by (first | lia | omega)) hi
      have h3 := ihj i (by (first | lia | omega)) (by (first | lia | omega))
      have h4 := h2 j
      have h5 := hc j i (by (first | lia | omega)) (by (first | lia | omega))
      rw [DT_succ]
      simp only [csum, Int.min_def] at *
      (repeat' split) <;> (first | lia | omega)
theorem csum_shift (c : Nat → Nat → Int) (p : Nat) : ∀ n, csum c (p + n) = csum c p + csum (fun j i => c (p + j) (p + i)) n := by
  intro n
  induction n with
  | zero => simp [csum]
  | succ n ih => rw [← Nat.add_assoc]; simp only [csum, ih]; (first | lia | omega)
theorem csum_zero (c : Nat → Nat → Int) : ∀ n, (∀ k, k < n → c k k = 0) → csum c n = 0 := by
  intro n
  induction n with
  | zero => intro _; rfl
  | succ n ih =>
    intro h
    simp only [csum]
    rw [ih (fun k hk => h k (by (first | lia | omega))), h n (by (first | lia | omega))]
    rfl
theorem csum_mono (c : Nat → Nat → Int) (h : ∀ k, 0 ≤ c k k) (n : Nat) : ∀ m, csum c n ≤ csum c (n + m) := by
  intro m
  induction m with
  | zero => exact Int.le_refl _
  | succ m ih => rw [← Nat.add_assoc]; simp only [csum]; have := h (n + m); (first | lia | omega)
theorem csum_congr (c d : Nat → Nat → Int) : ∀ n, (∀ k, k < n → c k k = d k k) → csum c n = csum d n := by
  intro n
  induction n with
  | zero => intro _; rfl
  | succ n ih => intro h; simp only [csum]; rw [ih (fun k hk => h k (by (first | lia | omega))), h n (by (first | lia | omega))]
noncomputable def at1 (x : Str) (i : Nat) : Str := ⟨#[x.cps.toList.getD i 0]⟩
noncomputable def c1 (a b : Str) (j i : Nat) : Int := cost (at1 b j) (at1 a i)
theorem CC_c1 {a b : Str} {j i : Nat} (hj : j < b.length) (hi : i < a.length) : CC a b j i = c1 a b j i := by
  unfold CC c1 at1
  rw [item_get hj, item_get hi]
theorem DT_congr (c d : Nat → Nat → Int) (n m : Nat) (h : ∀ j i, j < n → i < m → c j i = d j i) : ∀ j i, j ≤ n → i ≤ m → DT c j i = DT d j i := by
  intro j
  induction j with
  | zero => intro i _ _; rw [DT_zero, DT_zero]
  | succ j ihj =>
    intro i
    induction i with
    | zero => intro _ _; rw [DT_left, DT_left]
    | succ i ih =>
      intro hj hi
      rw [DT_succ, DT_succ, ih hj (by (first | lia | omega)), ihj (i + 1) (by (first | lia | omega)) hi, ihj i (by (first | lia | omega)) (by (first | lia | omega)), h j i (by (first | lia | omega)) (by (first | lia | omega))]
theorem cost_self (x : Str) : cost x x = 0 := if_pos rfl
theorem slice_from {x : Str} {p : Int} (h0 : 0 ≤ p) (h1 : p ≤ x.length) : (Txt.slice x (some p) none).cps.toList = x.cps.toList.drop p.toNat := by
  have e := slice_closes_fromL (b := x.length) h0 h1 rfl
  rw [eq_of_beq e]
  show List.take _ _ = _
  apply List.take_of_length_le
  rw [List.length_drop, Array.length_toList]
  show x.length - _ ≤ _
  (first | lia | omega)
theorem sliceTo_list {x : Str} {q : Int} (h0 : q ≤ 0) (h1 : -(x.length : Int) ≤ q) : (sliceTo x q).cps.toList = x.cps.toList.take (x.length - (-q).toNat) := by
  unfold sliceTo
  split
  · rename_i h
    rw [List.take_of_length_le]
    rw [Array.length_toList, h]
    show x.length ≤ _
    simp
  · have e := slice_closes_to_neg (j := q) (k := q + x.length) (by (first | lia | omega)) h1 rfl
    rw [eq_of_beq e]
    show List.take _ (List.drop _ _) = _
    rw [show (q + (x.length : Int) - 0).toNat = x.length - (-q).toNat by (first | lia | omega)]
    rfl
theorem len_list (x : Str) : x.cps.toList.length = x.length := by rw [Array.length_toList]; rfl
theorem getD_take {l : List Nat} {n i : Nat} (h : i < n) : (l.take n).getD i 0 = l.getD i 0 := by
  rw [List.getD_eq_getElem?_getD, List.getElem?_take_of_lt h, ← List.getD_eq_getElem?_getD]
theorem getD_drop {l : List Nat} {n i : Nat} : (l.drop n).getD i 0 = l.getD (n + i) 0 := by
  rw [List.getD_eq_getElem?_getD, List.getElem?_drop, ← List.getD_eq_getElem?_getD]
theorem getD_rev {l : List Nat} {i : Nat} (h : i < l.length) : l.reverse.getD i 0 = l.getD (l.length - 1 - i) 0 := by
  rw [List.getD_eq_getElem?_getD, List.getElem?_reverse h, ← List.getD_eq_getElem?_getD]
theorem strip_eq {a b : Str} {p q : Int} (n : Nat) (ha : a.length = n) (hb : b.length = n) (h1 : PreEnd a b p) (h2 : PostEnd (Txt.slice a (some p) none) (Txt.slice b (some p) none) q) :
    ∃ P m : Nat, P + m ≤ n ∧ (sliceTo (Txt.slice a (some p) none) q).length = m ∧ (sliceTo (Txt.slice b (some p) none) q).length = m ∧ (∀ i, i < m → at1 (sliceTo (Txt.slice a (some p) none) q) i = at1 a (P + i)) ∧ (∀ i, i < m → at1 (sliceTo (Txt.slice b (some p) none) q) i = at1 b (P + i)) ∧ (∀ k, k < n → k < P ∨ P + m ≤ k → at1 a k = at1 b k) := by
  obtain ⟨⟨hp0, hpa, hpb, hpe⟩, _⟩ := h1
  obtain ⟨⟨hq0, hqa, hqb, hqe⟩, _⟩ := h2
  have la := slice_from (x := a) hp0 hpa
  have lb := slice_from (x := b) hp0 hpb
  have na : (Txt.slice a (some p) none).length = n - p.toNat := by rw [← len_list, la, List.length_drop, len_list, ha]
  have nb : (Txt.slice b (some p) none).length = n - p.toNat := by rw [← len_list, lb, List.length_drop, len_list, hb]
  have ta := sliceTo_list hq0 hqa
  have tb := sliceTo_list hq0 hqb
  rw [la, na] at ta
  rw [lb, nb] at tb
  have Ha := len_list a
  have Hb := len_list b
  refine ⟨p.toNat, n - p.toNat - (-q).toNat, by (first | lia | omega), ?_, ?_, ?_, ?_, ?_⟩
  · rw [← len_list, ta, List.length_take, List.length_drop]; (first | lia | omega)
  · rw [← len_list, tb, List.length_take, List.length_drop]; (first | lia | omega)
  · intro i hi
    unfold at1
    rw [ta, getD_take hi, getD_drop]
  · intro i hi
    unfold at1
    rw [tb, getD_take hi, getD_drop]
  · intro k hk hkk
    unfold at1
    have : a.cps.toList.getD k 0 = b.cps.toList.getD k 0 := by
      rcases hkk with h | h
      · rw [← getD_take h, hpe, getD_take h]
      · rw [la, lb] at hqe
        have e1 : n - 1 - k < (-q).toNat := by (first | lia | omega)
        have e := congrArg (fun l => List.getD l (n - 1 - k) 0) hqe
        simp only [getD_take e1] at e
        rw [getD_rev (by rw [List.length_drop]; (first | lia | omega)), getD_rev (by rw [List.length_drop]; (first | lia | omega)), getD_drop, getD_drop, List.length_drop, List.length_drop] at e
        rw [show p.toNat + (a.cps.toList.length - p.toNat - 1 - (n - 1 - k)) = k by (first | lia | omega), show p.toNat + (b.cps.toList.length - p.toNat - 1 - (n - 1 - k)) = k by (first | lia | omega)] at e
        exact e
    rw [this]
theorem c1_nonneg (a b : Str) (j i : Nat) : 0 ≤ c1 a b j i ∧ c1 a b j i ≤ 2 := cost_le _ _
theorem lev_main {a b : Str} {mc r : Int} {n : Nat} (ha : a.length = n) (hb : b.length = n) (h : LevR a b mc r) (hm : a ≠ b → 0 ≤ mc)
    (hd : (∀ j i, j < n → i < n → c1 a b i i ≤ c1 a b j i) ∨ (∀ j i, j < n → i < n → c1 a b j j ≤ c1 a b j i)) (hmc : csum (c1 a b) n ≤ mc ∨ csum (c1 a b) n = mc + 1) : r = csum (c1 a b) n := by
  rcases h with ⟨e, rfl⟩ | ⟨ne, p, q, h1, h2, h3⟩
  · subst e
    exact (csum_zero _ _ fun k _ => cost_self _).symm
  · obtain ⟨P, m, hPm, lx, ly, hx, hy, hout⟩ := strip_eq n ha hb h1 h2
    revert h3 lx ly hx hy
    generalize sliceTo (Txt.slice a (some p) none) q = x
    generalize sliceTo (Txt.slice b (some p) none) q = y
    intro h3 lx ly hx hy
    have hm := hm ne
    have hs : csum (c1 a b) n = csum (fun j i => c1 a b (P + j) (P + i)) m := by
      obtain ⟨z, rfl⟩ : ∃ z, n = P + m + z := ⟨n - (P + m), by (first | lia | omega)⟩
      rw [csum_shift (c1 a b) (P + m) z, csum_shift (c1 a b) P m, csum_zero (c1 a b) P, csum_zero _ z]
      · (first | lia | omega)
      · intro k hk
        show cost _ _ = 0
        rw [hout (P + m + k) (by (first | lia | omega)) (.inr (by (first | lia | omega)))]; exact cost_self _
      · intro k hk
        show cost _ _ = 0
        rw [hout k (by (first | lia | omega)) (.inl (by (first | lia | omega)))]; exact cost_self _
    have hc : ∀ j i, j < m → i < m → CC x y j i = c1 a b (P + j) (P + i) := by
      intro j i hj hi
      rw [CC_c1 (by (first | lia | omega)) (by (first | lia | omega))]
      unfold c1
      rw [hx i hi, hy j hj]
    have hDT : DT (CC x y) m m = csum (c1 a b) n := by
      rw [DT_congr _ _ m m hc m m (Nat.le_refl _) (Nat.le_refl _), hs]
      have hu := DT_upper (fun j i => c1 a b (P + j) (P + i)) m
      have hlow : csum (fun j i => c1 a b (P + j) (P + i)) m ≤ DT (fun j i => c1 a b (P + j) (P + i)) m m := by
        rcases hd with hd | hd
        · exact DT_lowA (fun j i => c1 a b (P + j) (P + i)) m (fun k => (c1_nonneg _ _ _ _).2) (fun j i hj hi => hd _ _ (by (first | lia | omega)) (by (first | lia | omega))) m m (Nat.le_refl _) (Nat.le_refl _)
        · exact DT_lowB (fun j i => c1 a b (P + j) (P + i)) m (fun k => (c1_nonneg _ _ _ _).2) (fun j i hj hi => hd _ _ (by (first | lia | omega)) (by (first | lia | omega))) m m (Nat.le_refl _) (Nat.le_refl _)
      (first | lia | omega)
    rcases h3 with ⟨h0, hr⟩ | ⟨_, _, u, v, huv, h3⟩
    · have hm0 : m = 0 := by (first | lia | omega)
      rw [hr, hs, hm0, lx, ly, hm0]; rfl
    · rw [if_neg (by (first | lia | omega))] at huv
      cases huv
      rcases h3 with ⟨h4, hr⟩ | h3
      · exfalso; rw [lx, ly] at h4; (first | lia | omega)
      · rcases h3 with ⟨hr, j, hj, hrow⟩ | hr
        · rcases hmc with hmc | hmc
          · exfalso
            have h5 := hrow j (by (first | lia | omega))
            rw [DT_congr _ _ m m hc (j + 1) (j + 1) (by (first | lia | omega)) (by (first | lia | omega))] at h5
            have hu := DT_upper (fun j i => c1 a b (P + j) (P + i)) (j + 1)
            have hmo := csum_mono (fun j i => c1 a b (P + j) (P + i)) (fun k => (c1_nonneg _ _ _ _).1) (j + 1) (m - (j + 1))
            rw [show j + 1 + (m - (j + 1)) = m by (first | lia | omega)] at hmo
            (first | lia | omega)
          · (first | lia | omega)
        · rw [hr, ly, lx]; exact hDT
section
open PySem.Builtin.Str PySem.StrLaws
theorem occ_skip (s sub : Str) (hi lim : Nat) (fr : Nat) (arr : Array Nat) : ∀ l : List Nat, (∀ i ∈ l, ¬ (i + sub.length ≤ hi ∧ subAt s sub i = true)) → (forIn l (arr, fr) (occBody s sub hi lim) : Id _) = (arr, fr)
  | [], _ => rfl
  | a :: l, h => by
    rw [List.forIn_cons]
    have e : occBody s sub hi lim a (arr, fr) = pure (ForInStep.yield (arr, fr)) := by
      unfold occBody
      rw [if_neg]
      intro hc
      exact h a List.mem_cons_self ⟨hc.1.2, hc.2⟩
    rw [e]
    exact occ_skip s sub hi lim fr arr l fun i hi => h i (List.mem_cons_of_mem _ hi)
theorem occ_full (s sub : Str) (hi lim : Nat) (fr : Nat) (arr : Array Nat) (hf : ¬ arr.size < lim) : ∀ l : List Nat, (forIn l (arr, fr) (occBody s sub hi lim) : Id _) = (arr, fr)
  | [] => rfl
  | a :: l => by
    rw [List.forIn_cons]
    have e : occBody s sub hi lim a (arr, fr) = pure (ForInStep.yield (arr, fr)) := by
      unfold occBody
      rw [if_neg]
      intro hc
      exact hf hc.1.1.1
    rw [e]
    exact occ_full s sub hi lim fr arr hf l
theorem occ_app (s sub : Str) (hi lim : Nat) (r : List Nat) : ∀ (l : List Nat) (st st' : Array Nat × Nat), (forIn l st (occBody s sub hi lim) : Id _) = st' → (forIn (l ++ r) st (occBody s sub hi lim) : Id _) = (forIn r st' (occBody s sub hi lim) : Id _)
  | [], st, st', h => by
    have : st = st' := h
    subst this; rfl
  | a :: l, st, st', h => by
    rw [List.cons_append, List.forIn_cons]
    rw [List.forIn_cons] at h
    revert h
    unfold occBody
    split
    · intro h; exact occ_app s sub hi lim r l _ _ h
    · intro h; exact occ_app s sub hi lim r l _ _ h
theorem occ_first (s : Str) (c lo k : Nat) (hlo : lo ≤ k) (hk : s.cps.toList[k]? = some c) (hn : ∀ i, lo ≤ i → i < k → s.cps.toList[i]? ≠ some c) : occurrences s ⟨#[c]⟩ lo s.length 1 = [k] := by
  have hlt : k < s.length := by
    rw [← len_list]
    exact (List.getElem?_eq_some_iff.mp hk).1
  rw [occ_eq]
  have e : List.range' lo (s.length + 1 - lo) = List.range' lo (k - lo) ++ (k :: List.range' (k + 1) (s.length - k)) := by
    rw [← List.range'_succ]
    have := List.range'_append (s := lo) (m := k - lo) (n := s.length - k + 1) (step := 1)
    rw [show lo + 1 * (k - lo) = k by (first | lia | omega)] at this
    rw [this]
    congr 1
    (first | lia | omega)
  rw [e, occ_app s ⟨#[c]⟩ s.length 1 _ _ _ ((#[] : Array Nat), lo) (occ_skip _ _ _ _ _ _ _ ?_)]
  · show (Id.run (forIn (k :: List.range' (k + 1) (s.length - k)) ((#[] : Array Nat), lo) (occBody s ⟨#[c]⟩ s.length 1))).fst.toList = [k]
    rw [List.forIn_cons]
    have e2 : occBody s ⟨#[c]⟩ s.length 1 k ((#[] : Array Nat), lo) = pure (ForInStep.yield ((#[k] : Array Nat), k + 1)) := by
      unfold occBody
      rw [if_pos]
      · rfl
      · have := (subAt_one s c k).mpr hk
        exact ⟨⟨⟨Nat.one_pos, hlo⟩, this.1⟩, this.2⟩
    rw [e2]
    show (Id.run (forIn (List.range' (k + 1) (s.length - k)) ((#[k] : Array Nat), k + 1) (occBody s ⟨#[c]⟩ s.length 1))).fst.toList = [k]
    rw [occ_full]
    · rfl
    · exact Nat.lt_irrefl 1
  · intro i hi hc
    have := List.mem_range'.mp hi
    exact hn i (by (first | lia | omega)) (by (first | lia | omega)) ((subAt_one s c i).mp hc)
theorem occ_nil (s : Str) (c lo : Nat) (hn : ∀ i, lo ≤ i → s.cps.toList[i]? ≠ some c) : occurrences s ⟨#[c]⟩ lo s.length 1 = [] := by
  rw [occ_eq]
  rw [occ_skip]
  · rfl
  · intro i hi hc
    have := List.mem_range'.mp hi
    exact hn i (by (first | lia | omega)) ((subAt_one s c i).mp hc)
theorem find_first (s : Str) (c k : Nat) (hk : s.cps.toList[k]? = some c) (hn : ∀ i, i < k → s.cps.toList[i]? ≠ some c) : Txt.find s ⟨#[c]⟩ = k := by
  unfold Txt.find
  rw [occ_first s c 0 k (Nat.zero_le _) hk fun i _ h => hn i h]
theorem find3_first (s : Str) (c k : Nat) (i : Int) (h0 : 0 ≤ i) (h1 : i ≤ k) (hk : s.cps.toList[k]? = some c) (hn : ∀ j : Nat, i ≤ j → j < k → s.cps.toList[j]? ≠ some c) : Txt.find3 s ⟨#[c]⟩ i = k := by
  unfold Txt.find3
  have e : fromIndex s.length i = i.toNat := by
    unfold fromIndex
    rw [if_neg (by (first | lia | omega))]
    (first | lia | omega)
  rw [e, occ_first s c i.toNat k (by (first | lia | omega)) hk fun j h h2 => hn j (by (first | lia | omega)) h2]
noncomputable def joinL (c : Nat) : List (List Nat) → List Nat
  | [] => []
  | [x] => x
  | x :: y :: r => x ++ c :: joinL c (y :: r)
theorem join_list (c : Nat) : ∀ l : List Str, (Str.join ⟨#[c]⟩ l).cps.toList = joinL c (l.map fun x => x.cps.toList)
  | [] => rfl
  | [x] => rfl
  | x :: y :: r => by
    show ((x ++ (⟨#[c]⟩ : Str) ++ Str.join ⟨#[c]⟩ (y :: r)) : Str).cps.toList = _
    have := join_list c (y :: r)
    simp only [Str.cps_append, Array.toList_append, this]
    simp [joinL]
theorem joinL_ext (c : Nat) : ∀ (l m : List (List Nat)), l ≠ [] → m ≠ [] → (∀ x ∈ l, c ∉ x) → (∀ x ∈ m, c ∉ x) → joinL c l = joinL c m → l = m := by
  have cut : ∀ (x y r s : List Nat), c ∉ x → c ∉ y → x ++ c :: r = y ++ c :: s → x = y ∧ r = s := by
    intro x
    induction x with
    | nil =>
      intro y r s hx hy e
      cases y with
      | nil => exact ⟨rfl, by simpa using e⟩
      | cons b y => simp only [List.nil_append, List.cons_append, List.cons.injEq] at e; exact absurd (e.1 ▸ List.mem_cons_self) hy
    | cons a x ih =>
      intro y r s hx hy e
      cases y with
      | nil => simp only [List.nil_append, List.cons_append, List.cons.injEq] at e; exact absurd (e.1 ▸ List.mem_cons_self) hx
      | cons b y =>
        simp only [List.cons_append, List.cons.injEq] at e
        obtain ⟨h1, h2⟩ := ih y r s (fun h => hx (List.mem_cons_of_mem _ h)) (fun h => hy (List.mem_cons_of_mem _ h)) e.2
        exact ⟨by rw [e.1, h1], h2⟩
  intro l
  induction l with
  | nil => intro m h; exact absurd rfl h
  | cons x l ih =>
    intro m _ hm hl hmm e
    cases m with
    | nil => exact absurd rfl hm
    | cons y m =>
      have hx := hl x List.mem_cons_self
      have hy := hmm y List.mem_cons_self
      cases l with
      | nil =>
        cases m with
        | nil => simpa [joinL] using e
        | cons z m =>
          simp only [joinL] at e
          exact absurd (e ▸ (by simp : c ∈ y ++ c :: joinL c (z :: m))) hx
      | cons z l =>
        cases m with
        | nil =>
          simp only [joinL] at e
          exact absurd (e ▸ (by simp : c ∈ x ++ c :: joinL c (z :: l))) hy
        | cons z' m =>
          simp only [joinL] at e
          obtain ⟨h1, h2⟩ := cut _ _ _ _ hx hy e
          rw [h1, ih (z' :: m) (by simp) (by simp) (fun x h => hl x (List.mem_cons_of_mem _ h)) (fun x h => hmm x (List.mem_cons_of_mem _ h)) h2]
theorem split_ne (x : Str) (c : Nat) : Txt.split x ⟨#[c]⟩ ≠ [] := by
  unfold Txt.split
  split
  · simp
  · split
    · simp
    · rw [partsBetween_eq]
      obtain ⟨p, r, e⟩ := partsFrom_ne x (⟨#[c]⟩ : Str).length 0 (occurrences x ⟨#[c]⟩ 0 x.length (x.length + 1))
      rw [e]; simp
theorem split_is (x : Str) (c : Nat) (l : List (List Nat)) (hl : l ≠ []) (hf : ∀ y ∈ l, c ∉ y) (e : x.cps.toList = joinL c l) : (Txt.split x ⟨#[c]⟩).map (fun y => y.cps.toList) = l := by
  have h1 := join_list c (Txt.split x ⟨#[c]⟩)
  rw [join_split, e] at h1
  refine (joinL_ext c l _ hl ?_ hf ?_ h1).symm
  · intro h; exact split_ne x c (List.map_eq_nil_iff.mp h)
  · intro y hy
    obtain ⟨z, hz, rfl⟩ := List.mem_map.mp hy
    exact split_free x c z hz
theorem split_strs (x : Str) (c : Nat) (l : List Str) (hl : l ≠ []) (hf : ∀ y ∈ l, c ∉ y.cps.toList) (e : x.cps.toList = joinL c (l.map fun y => y.cps.toList)) : Txt.split x ⟨#[c]⟩ = l := by
  have h := split_is x c (l.map fun y => y.cps.toList) (by simpa using hl) (by
    intro y hy
    obtain ⟨z, hz, rfl⟩ := List.mem_map.mp hy
    exact hf z hz) e
  have inj : Function.Injective (fun y : Str => y.cps.toList) := fun a b h => Str.ext' (Array.toList_inj.mp h)
  exact (List.map_inj_right inj).mp h
theorem slice_mid {x : Str} {i j : Int} (h0 : 0 ≤ i) (h1 : i ≤ j) (h2 : j ≤ x.length) : (Txt.slice x (some i) (some j)).cps.toList = (x.cps.toList.drop i.toNat).take (j - i).toNat := by
  rw [eq_of_beq (slice_closesL h0 h1 h2)]
theorem slice_to {x : Str} {j : Int} (h0 : 0 ≤ j) (h2 : j ≤ x.length) : (Txt.slice x none (some j)).cps.toList = x.cps.toList.take j.toNat := by
  rw [eq_of_beq (slice_closes_toL h0 h2)]
  simp
end
theorem par40 : Str.ofString "(" = ⟨#[40]⟩ := by decide +kernel
theorem par41 : Str.ofString ")" = ⟨#[41]⟩ := by decide +kernel
theorem s229 : Str.ofString "229" = ⟨#[50, 50, 57]⟩ := by decide +kernel
theorem s229p : Str.ofString "229 (" = ⟨#[50, 50, 57, 32, 40]⟩ := by decide +kernel
noncomputable def okc (c : Nat) : Prop := c ≠ 40 ∧ c ≠ 41 ∧ (c < 48 ∨ 57 < c)
noncomputable def portS (port : Int) : Str := Str.ofString (toString port)
noncomputable def digits (P : List Nat) : Prop := P ≠ [] ∧ P.length ≤ 2 ∧ ∀ x ∈ P, 48 ≤ x ∧ x ≤ 57
theorem port_digits (port : Int) (h0 : 0 ≤ port) (h1 : port < 100) : digits (portS port).cps.toList ∧ PySem.intText? (portS port) = some port := by
  have h : ∀ n : Nat, n < 100 → ((portS (n : Int)).cps.toList.isEmpty = false ∧ (portS (n : Int)).cps.toList.length ≤ 2 ∧ (portS (n : Int)).cps.toList.all (fun x => Nat.ble 48 x && Nat.ble x 57) = true) ∧ (PySem.intText? (portS (n : Int)) == some (n : Int)) = true := by decide +kernel
  obtain ⟨⟨e1, e2, e3⟩, e4⟩ := h port.toNat (by (first | lia | omega))
  rw [show ((port.toNat : Nat) : Int) = port by (first | lia | omega)] at e1 e2 e3 e4
  refine ⟨⟨(by intro e; rw [e] at e1; exact absurd e1 (by decide)), e2, fun x hx => ?_⟩, eq_of_beq e4⟩
  have := List.all_eq_true.mp e3 x hx
  simp only [Bool.and_eq_true, Nat.ble_eq] at this
  exact this
theorem rep_list (a b c d : Nat) (port : Int) : (rep ⟨#[a]⟩ ⟨#[b]⟩ ⟨#[c]⟩ ⟨#[d]⟩ port).cps.toList = [50, 50, 57, 32, 40] ++ (a :: b :: c :: ((portS port).cps.toList ++ [d])) ++ [41] := by
  unfold rep
  rw [s229p, par41]
  simp only [Str.cps_append, Array.toList_append]
  simp [portS]
section
variable {x : Str} {a b c d : Nat} {P : List Nat}
theorem t_slice3 (hx : x.cps.toList = [50, 50, 57, 32, 40] ++ (a :: b :: c :: (P ++ [d])) ++ [41]) : (Txt.slice x none (some 3) != Str.ofString "229") = false := by
  have hl : 3 ≤ x.length := by rw [← len_list, hx]; simp
  have e : Txt.slice x none (some 3) = Str.ofString "229" := by
    apply Str.ext'
    apply Array.toList_inj.mp
    rw [slice_to (by decide) (by (first | lia | omega)), hx, s229]
    rfl
  rw [e]; simp
theorem t_find (hx : x.cps.toList = [50, 50, 57, 32, 40] ++ (a :: b :: c :: (P ++ [d])) ++ [41]) : Txt.find x (Str.ofString "(") = 4 := by
  rw [par40]
  refine find_first x 40 4 (by rw [hx]; rfl) fun i hi => ?_
  rw [hx]
  match i, hi with
  | 0, _ | 1, _ | 2, _ | 3, _ => simp
theorem t_len (hx : x.cps.toList = [50, 50, 57, 32, 40] ++ (a :: b :: c :: (P ++ [d])) ++ [41]) : x.length = 10 + P.length := by
  rw [← len_list, hx]; simp; (first | lia | omega)
theorem t_find3 (hx : x.cps.toList = [50, 50, 57, 32, 40] ++ (a :: b :: c :: (P ++ [d])) ++ [41]) (ha : a ≠ 41) (hb : b ≠ 41) (hc : c ≠ 41) (hd : d ≠ 41) (hP : digits P) : Txt.find3 x (Str.ofString ")") (4 + 1) = ((9 + P.length : Nat) : Int) := by
  rw [par41]
  refine find3_first x 41 (9 + P.length) (4 + 1) (by decide) (by (first | lia | omega)) ?_ fun j h1 h2 => ?_
  · rw [hx, List.getElem?_append_right (by simp; (first | lia | omega))]
    have e0 : 9 + P.length - ([50, 50, 57, 32, 40] ++ (a :: b :: c :: (P ++ [d]))).length = 0 := by simp; (first | lia | omega)
    rw [e0]
    rfl
  · intro e
    rw [hx, List.getElem?_append_left (by simp; (first | lia | omega)), List.getElem?_append_right (by simp; (first | lia | omega))] at e
    have := List.mem_of_getElem? e
    simp only [List.mem_cons, List.mem_append, List.not_mem_nil, or_false] at this
    rcases this with h | h | h | h | h
    · exact ha h.symm
    · exact hb h.symm
    · exact hc h.symm
    · exact absurd (hP.2.2 _ h) (by decide)
    · exact hd h.symm
theorem t_item5 (hx : x.cps.toList = [50, 50, 57, 32, 40] ++ (a :: b :: c :: (P ++ [d])) ++ [41]) : Txt.item x (4 + 1) = ⟨#[a]⟩ := by
  have := item_get (x := x) (i := 5) (by rw [t_len hx]; (first | lia | omega))
  rw [hx] at this
  exact this
theorem t_itemr (hx : x.cps.toList = [50, 50, 57, 32, 40] ++ (a :: b :: c :: (P ++ [d])) ++ [41]) : Txt.item x (((9 + P.length : Nat) : Int) - 1) = ⟨#[d]⟩ := by
  have := item_get (x := x) (i := 8 + P.length) (by rw [t_len hx]; (first | lia | omega))
  rw [show ((9 + P.length : Nat) : Int) - 1 = ((8 + P.length : Nat) : Int) by (first | lia | omega), this, hx]
  have e : ([50, 50, 57, 32, 40] ++ (a :: b :: c :: (P ++ [d])) ++ [41])[8 + P.length]? = some d := by
    rw [List.getElem?_append_left (by simp; (first | lia | omega)), List.getElem?_append_right (by simp; (first | lia | omega))]
    have e0 : 8 + P.length - [50, 50, 57, 32, 40].length = P.length + 1 + 1 + 1 := by simp; (first | lia | omega)
    rw [e0]
    simp
  rw [List.getD_eq_getElem?_getD, e]; rfl
theorem t_slice (hx : x.cps.toList = [50, 50, 57, 32, 40] ++ (a :: b :: c :: (P ++ [d])) ++ [41]) : (Txt.slice x (some (4 + 1)) (some ((9 + P.length : Nat) : Int))).cps.toList = a :: b :: c :: (P ++ [d]) := by
  rw [slice_mid (by decide) (by (first | lia | omega)) (by rw [t_len hx]; (first | lia | omega)), hx]
  rw [show (((9 + P.length : Nat) : Int) - (4 + 1)).toNat = 4 + P.length by (first | lia | omega)]
  show List.take _ ((a :: b :: c :: (P ++ [d])) ++ [41]) = _
  rw [List.take_append_of_le_length (by simp; (first | lia | omega)), List.take_of_length_le (by simp; (first | lia | omega))]
theorem t_ok {m : Nat} {y : Str} (hm : okc m) (hy : y.cps.toList = P) (hP : digits P) (hx : x.cps.toList = [50, 50, 57, 32, 40] ++ (m :: m :: m :: (P ++ [m])) ++ [41]) :
    Txt.split (Txt.slice x (some (4 + 1)) (some ((9 + P.length : Nat) : Int))) (Txt.item x (4 + 1)) = [⟨#[]⟩, ⟨#[]⟩, ⟨#[]⟩, y, ⟨#[]⟩] := by
  rw [t_item5 hx]
  refine split_strs _ m _ (by simp) ?_ ?_
  · intro z hz
    simp only [List.mem_cons, List.not_mem_nil, or_false] at hz
    have hPm : m ∉ P := fun h => by have := hP.2.2 _ h; have := hm.2.2; (first | lia | omega)
    rcases hz with rfl | rfl | rfl | rfl | rfl
    · simp
    · simp
    · simp
    · rw [hy]; exact hPm
    · simp
  · rw [t_slice hx]
    simp [joinL, hy]
theorem t_bad4 {m : Nat} (l : List (List Nat)) (hl : l.length = 4) (hf : ∀ z ∈ l, m ∉ z) (hx : x.cps.toList = [50, 50, 57, 32, 40] ++ (m :: b :: c :: (P ++ [d])) ++ [41]) (e : m :: b :: c :: (P ++ [d]) = joinL m l) :
    (Txt.split (Txt.slice x (some (4 + 1)) (some ((9 + P.length : Nat) : Int))) (Txt.item x (4 + 1))).length ≠ 5 := by
  rw [t_item5 hx]
  have := split_is (Txt.slice x (some (4 + 1)) (some ((9 + P.length : Nat) : Int))) m l (by intro h; rw [h] at hl; cases hl) hf (by rw [t_slice hx]; exact e)
  have := congrArg List.length this
  rw [List.length_map] at this
  (first | lia | omega)
end
noncomputable def sel {α : Type} (i j : Int) (x y : α) : α := if i = j then x else y
theorem told_bad {port place : Int} {m o : Nat} (hm : okc m) (ho : okc o) (hne : o ≠ m) (h0 : 0 ≤ port) (h1 : port < 100) (p0 : 0 ≤ place) (p1 : place < 4) :
    let x := rep ⟨#[sel 0 place o m]⟩ ⟨#[sel 1 place o m]⟩ ⟨#[sel 2 place o m]⟩ ⟨#[sel 3 place o m]⟩ port
    (Txt.slice x none (some 3) != Str.ofString "229") = false ∧ Txt.find x (Str.ofString "(") = 4 ∧ ∃ r, Txt.find3 x (Str.ofString ")") (4 + 1) = r ∧ 9 ≤ r ∧ r < (x.length : Int) ∧ x.length ≤ 600 ∧ (Txt.item x (4 + 1) ≠ Txt.item x (r - 1) ∨ (Txt.split (Txt.slice x (some (4 + 1)) (some r)) (Txt.item x (4 + 1))).length ≠ 5) := by
  intro x
  obtain ⟨hP, _⟩ := port_digits port h0 h1
  have hx := rep_list (sel 0 place o m) (sel 1 place o m) (sel 2 place o m) (sel 3 place o m) port
  have h41 : ∀ i, sel i place o m ≠ 41 := fun i => by unfold sel; split; exact ho.2.1; exact hm.2.1
  have hl : x.length = _ := t_len hx
  have hPl := hP.2.1
  refine ⟨t_slice3 hx, t_find hx, _, t_find3 hx (h41 _) (h41 _) (h41 _) (h41 _) hP, by (first | lia | omega), by (first | lia | omega), by (first | lia | omega), ?_⟩
  rw [t_itemr hx]
  have hPm : m ∉ (portS port).cps.toList := fun h => by have := hP.2.2 _ h; have := hm.2.2; (first | lia | omega)
  have cases : place = 0 ∨ place = 1 ∨ place = 2 ∨ place = 3 := by (first | lia | omega)
  rcases cases with rfl | rfl | rfl | rfl
  · left; rw [t_item5 hx]; simp [sel]; exact hne
  · right
    refine t_bad4 [[], [o], (portS port).cps.toList, []] rfl ?_ hx (by simp [joinL, sel])
    intro z hz
    simp only [List.mem_cons, List.not_mem_nil, or_false] at hz
    rcases hz with rfl | rfl | rfl | rfl
    · simp
    · simpa using fun h => hne h.symm
    · exact hPm
    · simp
  · right
    refine t_bad4 [[], [], o :: (portS port).cps.toList, []] rfl ?_ hx (by simp [joinL, sel])
    intro z hz
    simp only [List.mem_cons, List.not_mem_nil, or_false] at hz
    rcases hz with rfl | rfl | rfl | rfl
    · simp
    · simp
    · simp only [sel, List.mem_cons, not_or]; exact ⟨fun h => hne (by simpa using h.symm), hPm⟩
    · simp
  · left; rw [t_item5 hx]; simp [sel]; exact fun h => hne h.symm
theorem told_good {port : Int} {m : Nat} (hm : okc m) (h0 : 0 ≤ port) (h1 : port < 100) :
    let x := rep ⟨#[m]⟩ ⟨#[m]⟩ ⟨#[m]⟩ ⟨#[m]⟩ port
    (Txt.slice x none (some 3) != Str.ofString "229") = false ∧ Txt.find x (Str.ofString "(") = 4 ∧ ∃ r, Txt.find3 x (Str.ofString ")") (4 + 1) = r ∧ 9 ≤ r ∧ r < (x.length : Int) ∧ x.length ≤ 600 ∧ Txt.item x (4 + 1) = Txt.item x (r - 1) ∧ (Txt.split (Txt.slice x (some (4 + 1)) (some r)) (Txt.item x (4 + 1))).length = 5 ∧ ∃ y, (Txt.split (Txt.slice x (some (4 + 1)) (some r)) (Txt.item x (4 + 1)))[3]? = some y ∧ PySem.intText? y = some port := by
  intro x
  obtain ⟨hP, hi⟩ := port_digits port h0 h1
  have hx := rep_list m m m m port
  have hl : x.length = _ := t_len hx
  have hPl := hP.2.1
  have hs := t_ok hm rfl hP hx
  refine ⟨t_slice3 hx, t_find hx, _, t_find3 hx hm.2.1 hm.2.1 hm.2.1 hm.2.1 hP, by (first | lia | omega), by (first | lia | omega), by (first | lia | omega), ?_, ?_, portS port, ?_, hi⟩
  · rw [t_item5 hx, t_itemr hx]
  · rw [hs]; rfl
  · rw [hs]; rfl
noncomputable def ch (n : Nat) : Str := ⟨#[n]⟩
noncomputable def al (a : Nat) : Nat := [119808, 119860, 119912, 120016, 120172, 120224, 120276, 120328, 120380, 120432].getD a 0
noncomputable def FA (l a : Nat) : Nat → Nat × Nat × Nat
  | 0 => (97 + l, 97 + l, 97 + l)
  | 1 => (65 + l, 97 + l, 97 + l)
  | 2 => (al a + l, al a + l, 97 + l)
  | 3 => (al ((a + 1) % 10) + l, al ((a + 1) % 10) + l, 97 + l)
  | 4 => (65313 + l, 65345 + l, 65345 + l)
  | 5 => (65345 + l, 65345 + l, 65345 + l)
  | 6 => (97 + (l + 1) % 26, 97 + (l + 1) % 26, 97 + (l + 1) % 26)
  | _ => if l = 18 then (383, 383, 97 + l) else if l = 10 then (8490, 97 + l, 97 + l) else (124, 124, 124)
noncomputable def toF (c : Nat × Nat × Nat) : Str × Str × Str := (ch c.1, ch c.2.1, ch c.2.2)
theorem fAt_code (y : Int) : ∃ l a : Nat, l < 26 ∧ a < 10 ∧ ∀ i, i < 8 → fAt y i = toF (FA l a i) := by
  have l0 := Int.fmod_nonneg_of_pos y (show (0 : Int) < 26 by decide)
  have l1 := Int.fmod_lt_of_pos y (show (0 : Int) < 26 by decide)
  have a0 := Int.fmod_nonneg_of_pos (y.fdiv 26) (show (0 : Int) < 10 by decide)
  have a1 := Int.fmod_lt_of_pos (y.fdiv 26) (show (0 : Int) < 10 by decide)
  obtain ⟨l, hl⟩ : ∃ l : Nat, y.fmod 26 = l := ⟨(y.fmod 26).toNat, by (first | lia | omega)⟩
  obtain ⟨a, ha⟩ : ∃ a : Nat, (y.fdiv 26).fmod 10 = a := ⟨((y.fdiv 26).fmod 10).toNat, by (first | lia | omega)⟩
  refine ⟨l, a, by (first | lia | omega), by (first | lia | omega), fun i hi => ?_⟩
  have hla : (alphAt y) = (al a : Int) := by
    unfold alphAt; rw [ha]
    have : ∀ a, a < 10 → alphs.getD ((a : Nat) : Int).toNat 0 = (al a : Int) := by decide +kernel
    exact this a (by (first | lia | omega))
  have hla1 : (alphAt1 y) = (al ((a + 1) % 10) : Int) := by
    unfold alphAt1
    have e : (y.fdiv 26 + 1).fmod 10 = ((a + 1) % 10 : Nat) := by
      rw [Int.fmod_eq_emod_of_nonneg _ (by decide)] at ha ⊢
      (first | lia | omega)
    rw [e]
    have : ∀ a, a < 10 → alphs.getD ((a : Nat) : Int).toNat 0 = (al a : Int) := by decide +kernel
    exact this _ (by (first | lia | omega))
  have ho : (y.fmod 26 + 1).fmod 26 = (((l + 1) % 26 : Nat) : Int) := by
    rw [hl, Int.fmod_eq_emod_of_nonneg _ (by decide)]
    (first | lia | omega)
  have e1 : ∀ (n m : Nat), chS ((n : Int) + (m : Int)) = ch (n + m) := fun n m => by
    unfold chS ch
    rw [show ((n : Int) + (m : Int)).toNat = n + m by (first | lia | omega)]
  have hc : ∀ n : Nat, chS (((n : Nat) : Int) + y.fmod 26) = ch (n + l) := fun n => by rw [hl]; exact e1 n l
  have h97 := hc 97
  have h65 := hc 65
  have h65345 := hc 65345
  have h65313 := hc 65313
  have hA : chS (alphAt y + y.fmod 26) = ch (al a + l) := by rw [hla]; exact hc _
  have hA1 : chS (alphAt1 y + y.fmod 26) = ch (al ((a + 1) % 10) + l) := by rw [hla1]; exact hc _
  have hO : chS (97 + (y.fmod 26 + 1).fmod 26) = ch (97 + (l + 1) % 26) := by rw [ho]; exact e1 97 _
  match i, hi with
  | 0, _ => show (chS _, chS _, chS _) = _; rw [show chS (97 + y.fmod 26) = ch (97 + l) from h97]; rfl
  | 1, _ => show (chS _, chS _, chS _) = _; rw [show chS (97 + y.fmod 26) = ch (97 + l) from h97, show chS (65 + y.fmod 26) = ch (65 + l) from h65]; rfl
  | 2, _ => show (chS _, chS _, chS _) = _; rw [show chS (97 + y.fmod 26) = ch (97 + l) from h97, hA]; rfl
  | 3, _ => show (chS _, chS _, chS _) = _; rw [show chS (97 + y.fmod 26) = ch (97 + l) from h97, hA1]; rfl
  | 4, _ => show (chS _, chS _, chS _) = _; rw [show chS (65345 + y.fmod 26) = ch (65345 + l) from h65345, show chS (65313 + y.fmod 26) = ch (65313 + l) from h65313]; rfl
  | 5, _ => show (chS _, chS _, chS _) = _; rw [show chS (65345 + y.fmod 26) = ch (65345 + l) from h65345]; rfl
  | 6, _ => show (chS _, chS _, chS _) = _; rw [hO]; rfl
  | 7, _ =>
    show lastF y = _
    unfold lastF
    rw [show chS (97 + y.fmod 26) = ch (97 + l) from h97]
    have es : Str.ofString "s" = ch 115 := by decide +kernel
    have ek : Str.ofString "k" = ch 107 := by decide +kernel
    have eS : Str.ofString "ſ" = ch 383 := by decide +kernel
    have eK : Str.ofString "\u212a" = ch 8490 := by decide +kernel
    have eb : Str.ofString "|" = ch 124 := by decide +kernel
    rw [es, ek, eS, eK, eb]
    have hs : (ch (97 + l) == ch 115) = decide (l = 18) := by
      rw [Bool.eq_iff_iff]; simp [ch]; (first | lia | omega)
    have hk : (ch (97 + l) == ch 107) = decide (l = 10) := by
      rw [Bool.eq_iff_iff]; simp [ch]; (first | lia | omega)
    rw [hs, hk]
    simp only [decide_eq_true_eq, FA]
    split
    · rfl
    · split <;> rfl
noncomputable def lowC (c : Nat) : Nat := if 65 ≤ c ∧ c ≤ 90 then c + 32 else if 65313 ≤ c ∧ c ≤ 65338 then c + 32 else if c = 8490 then 107 else c
noncomputable def Low (c : Nat) : Prop := Txt.lower (ch c) = ch (lowC c)

noncomputable def b1C (c : Nat) : Prop := b1B (c : Int) = false
theorem lowBool (c : Nat) (h : (Txt.lower (ch c) == ch (lowC c)) = true) : Low c := eq_of_beq h
theorem low_small : ∀ l, l < 26 → Low (97 + l) := by unfold Low; decide +kernel
theorem low_cap : ∀ l, l < 26 → Low (65 + l) := by unfold Low; decide +kernel
theorem low_wide : ∀ l, l < 26 → Low (65345 + l) := by unfold Low; decide +kernel
theorem low_wcap : ∀ l, l < 26 → Low (65313 + l) := by unfold Low; decide +kernel
theorem shifted_out (lo hi : Nat) : ∀ (l : List (Nat × Nat × Nat)) (c : Nat), lo ≤ c → c ≤ hi → (l.all fun p => Nat.blt hi p.1 || Nat.blt p.2.1 lo) = true → PySem.Unicode.shifted l c = none
  | [], _, _, _, _ => rfl
  | (a, b, t) :: r, c, h1, h2, h => by
    rw [List.all_cons, Bool.and_eq_true, Bool.or_eq_true, Nat.blt_eq, Nat.blt_eq] at h
    unfold PySem.Unicode.shifted
    split
    · rfl
    · rw [if_neg (by have := h.1; dsimp only at this; (first | lia | omega))]
      exact shifted_out lo hi r c h1 h2 h.2
theorem lookup_out (lo hi : Nat) : ∀ (l : List (Nat × List Nat)) (c : Nat), lo ≤ c → c ≤ hi → (l.all fun p => Nat.blt hi p.1 || Nat.blt p.1 lo) = true → l.lookup c = none
  | [], _, _, _, _ => rfl
  | (a, t) :: r, c, h1, h2, h => by
    rw [List.all_cons, Bool.and_eq_true, Bool.or_eq_true, Nat.blt_eq, Nat.blt_eq] at h
    rw [List.lookup_cons]
    have e : (c == a) = false := beq_false_of_ne (by have := h.1; dsimp only at this; (first | lia | omega))
    rw [e]
    exact lookup_out lo hi r c h1 h2 h.2
theorem lowerOf_out {c : Nat} (h1 : 119808 ≤ c) (h2 : c ≤ 120500) : PySem.Unicode.lowerOf c = [c] := by
  unfold PySem.Unicode.lowerOf PySem.Unicode.image
  rw [lookup_out 119808 120500 _ c h1 h2 (by decide +kernel), shifted_out 119808 120500 _ c h1 h2 (by decide +kernel)]
  rfl
theorem lower_one {c : Nat} (hc : c ≠ 0x3A3) : (Txt.lower (ch c)).cps.toList = PySem.Unicode.lowerOf c := by
  unfold Txt.lower ch
  simp [placed, PySem.Unicode.lowerAt, hc]
theorem low_alph : ∀ a, a < 10 → ∀ l, l < 26 → Low (al a + l) := by
  intro a ha l hl
  have h1 : ∀ a, a < 10 → 119808 ≤ al a ∧ al a ≤ 120432 := by decide +kernel
  have := h1 a ha
  unfold Low
  apply Str.ext'
  apply Array.toList_inj.mp
  rw [lower_one (by (first | lia | omega)), lowerOf_out (by (first | lia | omega)) (by (first | lia | omega))]
  unfold lowC
  rw [if_neg (by (first | lia | omega)), if_neg (by (first | lia | omega)), if_neg (by (first | lia | omega))]
  rfl
theorem low_one : Low 383 ∧ Low 8490 ∧ Low 124 := by unfold Low; decide +kernel
theorem low_fix : ∀ l, l < 58 → Low l := by unfold Low; decide +kernel
noncomputable def B3 (c d : Nat) : Prop := b3 c = ch d ∧ b1B (c : Int) = false

theorem b3_small : ∀ l, l < 26 → B3 (97 + l) (97 + l) := by unfold B3; decide +kernel
theorem b3_cap : ∀ l, l < 26 → B3 (65 + l) (97 + l) := by unfold B3; decide +kernel
theorem b3_wide : ∀ l, l < 26 → B3 (65345 + l) (65345 + l) := by unfold B3; decide +kernel
theorem b3_wcap : ∀ l, l < 26 → B3 (65313 + l) (65345 + l) := by unfold B3; decide +kernel
theorem b3_alph : ∀ a, a < 10 → ∀ l, l < 26 → B3 (al a + l) (97 + l) := by unfold B3; decide +kernel
theorem b3_one : B3 383 115 ∧ B3 8490 107 ∧ B3 124 124 := by unfold B3; decide +kernel
theorem b3_fix : ∀ l, l < 58 → B3 l l := by unfold B3; decide +kernel
noncomputable abbrev Fm := Str × Str × Str
noncomputable def F2 (f g : Fm) : Prop := ∃ (y : Int) (i j : Nat), i < 8 ∧ j < 8 ∧ f = fAt y i ∧ g = fAt y j
theorem F2.of {y : Int} {fs : Nat → Fm} {f g : Fm} {i j : Nat} (hf : fs = fAt y) (e1 : f = fs i) (e2 : g = fs j) (hi : i < 8) (hj : j < 8) : F2 f g := ⟨y, i, j, hi, hj, by rw [e1, hf], by rw [e2, hf]⟩
noncomputable abbrev rd0 (e port : Int) (f g : Fm) : Str := rep (if 0 + ((0 : Nat) : Int) = e then f else g).1 (if 0 + ((0 + 1 : Nat) : Int) = e then f else g).1 (if 0 + ((0 + 1 + 1 : Nat) : Int) = e then f else g).1 (if 0 + ((0 + 1 + 1 + 1 : Nat) : Int) = e then f else g).1 port
noncomputable abbrev rd1 (e port : Int) (f g : Fm) : Str := rep (if 0 + ((0 : Nat) : Int) = e then f else g).2.1 (if 0 + ((0 + 1 : Nat) : Int) = e then f else g).2.1 (if 0 + ((0 + 1 + 1 : Nat) : Int) = e then f else g).2.1 (if 0 + ((0 + 1 + 1 + 1 : Nat) : Int) = e then f else g).2.1 port
noncomputable abbrev rd2 (e port : Int) (f g : Fm) : Str := rep (if 0 + ((0 : Nat) : Int) = e then f else g).2.2 (if 0 + ((0 + 1 : Nat) : Int) = e then f else g).2.2 (if 0 + ((0 + 1 + 1 : Nat) : Int) = e then f else g).2.2 (if 0 + ((0 + 1 + 1 + 1 : Nat) : Int) = e then f else g).2.2 port
noncomputable def priceOf (f g : Fm) : Int := if (f.1 == g.1) = true then 0 else if (f.2.1 == g.2.1) = true then 1 else 2
structure ToldOk (x : Str) (n : Int) : Prop where
  h : (Txt.slice x none (some 3) != Str.ofString "229") = false ∧ Txt.find x (Str.ofString "(") = 4 ∧ ∃ r, Txt.find3 x (Str.ofString ")") (4 + 1) = r ∧ 9 ≤ r ∧ r < (x.length : Int) ∧ x.length ≤ 600 ∧ Txt.item x (4 + 1) = Txt.item x (r - 1) ∧ (Txt.split (Txt.slice x (some (4 + 1)) (some r)) (Txt.item x (4 + 1))).length = 5 ∧ ∃ y, (Txt.split (Txt.slice x (some (4 + 1)) (some r)) (Txt.item x (4 + 1)))[3]? = some y ∧ PySem.intText? y = some n
structure ToldBad (x : Str) : Prop where
  h : (Txt.slice x none (some 3) != Str.ofString "229") = false ∧ Txt.find x (Str.ofString "(") = 4 ∧ ∃ r, Txt.find3 x (Str.ofString ")") (4 + 1) = r ∧ 9 ≤ r ∧ r < (x.length : Int) ∧ x.length ≤ 600 ∧ (Txt.item x (4 + 1) ≠ Txt.item x (r - 1) ∨ (Txt.split (Txt.slice x (some (4 + 1)) (some r)) (Txt.item x (4 + 1))).length ≠ 5)
structure Tells (x : Str) (n : Int) (b : Bool) : Prop where
  ok : b = true → ToldOk x n
  bad : b = false → ToldBad x
theorem C_told {w : World} {loose : List Str} {mean : ExcName → Option Value} {mg mb : Str → Option Value} {dp un : Nat} {gd : Option (List Code)} {cn : Str} {cs : Scope} {ca : Addr} {ccd : Value} {cl : List (Str × Addr)} {A₀ : Around} {base h₀ : Heap} {L : Addr} {m : Str → Option Value} {s : Shared} {Q E : Value → Shared → Prop} {news : List (Addr × Obj)}
    (B : Below A₀ base [] h₀) (F : Fr h₀ L s.heap m) (X : (T49.K w.params).In h₀) (N : News h₀ L s.heap news) (T : Top T49.vw loose mean mg mb h₀) (hk : cs.kind = .function) (hd : dp + 5 < recursionLimit) (hu : un + 60 < cLine) (XB : (T49.K w.params).In base) (TB : Top T49.vw loose mean mg mb base)
    {x : Str} {tx : Tok} {n : Int} {b : Bool} (H : Tells x n b)
    (h1 : ∀ (l : Addr) (h' : Heap) (tk' : Nat) (t₁ t₂ : Tok), b = true → Fr h₀ L h' m → News h₀ L h' ((l, { cls := .type "tuple", data := .seq #[.str (Str.ofString "host") t₁, .int n t₂] }) :: news) → (∀ p ∈ news, p.1 < l) → Q (.ref l) { s with heap := h', toks := tk' })
    (h2 : ∀ (l : Addr) (h' : Heap) (tk' : Nat), b = false → Fr h₀ L h' m → News h₀ L h' ((l, W.listOf #[.str x tx] 0) :: news) → (∀ p ∈ news, p.1 < l) → Q (.ref l) { s with heap := h', toks := tk' }) :
    wpAny (model PySem.Challenge.rw_tp0049_01.row.prog w) (ktrTop dp un gd cn cs L ca ccd cl []) (call (.ref 150) [.str x tx]) Q E s := by
  cases hb : b with
  | true =>
    obtain ⟨a1, a2, r, a3, a4, a5, a6, a7, a8, y, a9, aA⟩ := (H.ok hb).h
    exact C_ok B F X N T hk hd hu XB TB a1 a2 a3 a4 a5 a6 a7 a8 a9 aA fun l h' tk' t₁ t₂ F N g => h1 l h' tk' t₁ t₂ hb F N g
  | false =>
    obtain ⟨a1, a2, r, a3, a4, a5, a6, a7⟩ := (H.bad hb).h
    exact C_bad B F X N T hk hd hu XB TB a1 a2 a3 a4 a5 a6 a7 fun l h' tk' F N g => h2 l h' tk' hb F N g
section
open LCg
variable {prog : Program} {w : World} {A : Around} {E : Value → Shared → Prop} {s : Shared} {h₀ : Heap} {L : Addr} {m : Str → Option Value} {env : Env}
theorem rest_items {ct elt : Expr} {x : Str} {scope : Scope} {cl : List (Str × Addr)} {its : Array Value} {S : List (Addr × Obj) → Prop} {news : List (Addr × Obj)} {Fin : List Value → List (Addr × Obj) → Prop} (p : Nat → Bool) (T : Nat → Value → Prop) (hS : S news)
    (hits : ∀ i v, its[i]? = some v → T i v)
    (turn : ∀ i v I oI C oC D m₂ ys h tk (E' : Value → Shared → Prop), T i v → LCg.NsObj oC m₂ → m₂ x = some v → Fr h₀ L h m → News h₀ L h ((I, oI) :: (C, oC) :: (D, LCg.lst ys) :: news) → LCg.Off3 I C D news → ((@Ne Nat I C) ∧ (@Ne Nat I D) ∧ (@Ne Nat C D)) →
      wpAny (model prog w) A (isTrue ct (compEnvC scope cl C env) (eval ct (compEnvC scope cl C env))) (fun b s' => if b = true then wpAny (model prog w) A (eval elt (compEnvC scope cl C env)) (LCg.CompEnd h₀ L m { s with heap := h, toks := tk } I oI C oC D (LCg.lst ys) S (fun _ news' => news' = news ∧ p i = true)) E' s'
        else LCg.CompEnd h₀ L m { s with heap := h, toks := tk } I oI C oC D (LCg.lst ys) S (fun _ news' => news' = news ∧ p i = false) Value.none s') E' { s with heap := h, toks := tk })
    (fin : ∀ ys, ys.length = ((List.range its.size).filter p).length → Fin ys news) : LCt.CompRestT prog w A h₀ L m env ct elt x scope cl s S (fun i v => its[i]? = some v) Fin its.size 0 [] news := by
  have key : ∀ (j i : Nat) (ys : List Value), i + j = its.size → ys.length = ((List.range i).filter p).length → LCt.CompRestT prog w A h₀ L m env ct elt x scope cl s S (fun i v => its[i]? = some v) Fin j i ys news := by
    intro j
    induction j with
    | zero =>
      intro i ys hi hy
      refine LCt.CompRestT.zero (fin ys ?_)
      rw [hy, show i = its.size by omega]
    | succ j ih =>
      intro i ys hi hy
      refine LCt.CompRestT.succ ?_
      intro v I oI C oC D m₂ h tk E' hv hC hx F N off ne
      have hs : ((List.range (i + 1)).filter p) = (List.range i).filter p ++ [i].filter p := by
        rw [List.range_succ, List.filter_append]
      refine wpAny_mono (turn i v I oI C oC D m₂ ys h tk E' (hits i v hv) hC hx F N off ne) (fun b s₂ hq => ?_) fun _ _ e => e
      cases b with
      | true =>
        simp only [if_true] at hq ⊢
        refine wpAny_mono hq (fun y' s₃ hr => ?_) fun _ _ e => e
        obtain ⟨h', tk', nw, e, F', N', off', hS', hn, hp⟩ := hr
        rw [hn] at N' off' hS'
        refine ⟨h', tk', news, e, F', N', off', hS', ih (i + 1) _ (by omega) ?_⟩
        rw [hs, List.length_append, List.length_append, hy]
        simp [hp]
      | false =>
        simp only [Bool.false_eq_true, if_false] at hq ⊢
        obtain ⟨h', tk', nw, e, F', N', off', hS', hn, hp⟩ := hq
        rw [hn] at N' off' hS'
        refine ⟨h', tk', news, e, F', N', off', hS', ih (i + 1) _ (by omega) ?_⟩
        rw [hs, List.length_append, hy]
        simp [hp]
  exact key its.size 0 [] (by omega) rfl
end
noncomputable def pick (e : Int) (f g : Str × Str × Str) (i : Nat) : Str × Str × Str := if 0 + (i : Int) = e then f else g
noncomputable def MarkAt (e : Int) (f g : Str × Str × Str) (news : List (Addr × Obj)) (i : Nat) (v : Value) : Prop := ∃ a x y z t u w, v = .ref a ∧ (a, listOf #[.str x t, .str y u, .str z w] 0) ∈ news ∧ pick e f g i = (x, y, z)
theorem marks_hits {e : Int} {f g : Str × Str × Str} {ao a1 : Addr} {t u v t' u' v' : Tok} {news : List (Addr × Obj)} (ho : (ao, listOf #[.str f.1 t, .str f.2.1 u, .str f.2.2 v] 0) ∈ news) (h1 : (a1, listOf #[.str g.1 t', .str g.2.1 u', .str g.2.2 v'] 0) ∈ news) :
    ∀ i x, (#[Value.ref (if 0 + ((0 : Nat) : Int) = e then ao else a1), .ref (if 0 + ((0 + 1 : Nat) : Int) = e then ao else a1), .ref (if 0 + ((0 + 1 + 1 : Nat) : Int) = e then ao else a1), .ref (if 0 + ((0 + 1 + 1 + 1 : Nat) : Int) = e then ao else a1)] : Array Value)[i]? = some x → MarkAt e f g news i x := by
  have key : ∀ i : Nat, MarkAt e f g news i (.ref (if 0 + (i : Int) = e then ao else a1)) := by
    intro i
    by_cases h : 0 + (i : Int) = e
    · rw [if_pos h]; exact ⟨ao, _, _, _, _, _, _, rfl, ho, if_pos h⟩
    · rw [if_neg h]; exact ⟨a1, _, _, _, _, _, _, rfl, h1, if_neg h⟩
  intro i x hx
  match i with
  | 0 => cases hx; exact key 0
  | 1 => cases hx; exact key 1
  | 2 => cases hx; exact key 2
  | 3 => cases hx; exact key 3
  | i + 4 => simp at hx
noncomputable def cnt (e : Int) (f g : Str × Str × Str) (p : Str × Str × Str → Bool) : Nat := ((List.range 4).filter fun i => p (pick e f g i)).length
noncomputable abbrev pNear (f : Str × Str × Str) : Bool := f.1 != f.2.1
noncomputable abbrev pFar (f : Str × Str × Str) : Bool := f.2.1 != f.2.2
noncomputable def lowN (c : Nat) : Nat := bif Nat.ble 65 c && Nat.ble c 90 then c + 32 else bif Nat.ble 65313 c && Nat.ble c 65338 then c + 32 else bif Nat.beq c 8490 then 107 else c
theorem lowC_eq (c : Nat) : lowC c = lowN c := by
  unfold lowC lowN
  cases h1 : (Nat.ble 65 c && Nat.ble c 90) with
  | true =>
    simp only [Bool.and_eq_true, Nat.ble_eq] at h1
    rw [if_pos h1]; rfl
  | false =>
    have h1' : ¬ (65 ≤ c ∧ c ≤ 90) := fun h => by rw [Nat.ble_eq_true_of_le h.1, Nat.ble_eq_true_of_le h.2] at h1; exact Bool.noConfusion h1
    rw [if_neg h1']
    cases h2 : (Nat.ble 65313 c && Nat.ble c 65338) with
    | true =>
      simp only [Bool.and_eq_true, Nat.ble_eq] at h2
      rw [if_pos h2]; rfl
    | false =>
      have h2' : ¬ (65313 ≤ c ∧ c ≤ 65338) := fun h => by rw [Nat.ble_eq_true_of_le h.1, Nat.ble_eq_true_of_le h.2] at h2; exact Bool.noConfusion h2
      rw [if_neg h2']
      cases h3 : Nat.beq c 8490 with
      | true => rw [if_pos (Nat.eq_of_beq_eq_true h3)]; rfl
      | false => rw [if_neg (Nat.ne_of_beq_eq_false h3)]; rfl
noncomputable def costN (x y : Nat) : Nat := bif Nat.beq x y then 0 else bif Nat.beq (lowN x) (lowN y) then 1 else 2
noncomputable def priceN (f g : Nat × Nat × Nat) : Nat := bif Nat.beq f.1 g.1 then 0 else bif Nat.beq f.2.1 g.2.1 then 1 else 2
noncomputable def chk (f g : Nat × Nat × Nat) : Bool :=
  Nat.beq (costN f.1 g.1) (priceN f g) && (Nat.beq (costN g.1 f.1) (priceN f g) && ((!Nat.beq f.1 g.1 || Nat.beq f.2.1 g.2.1) &&
  (Nat.ble (costN f.2.1 f.1) (costN g.2.1 f.1) && (Nat.ble (costN f.2.1 f.2.2) (costN f.2.1 g.2.2) && (Nat.ble (costN f.2.2 f.1) (costN g.2.2 f.1) && (Nat.ble (costN f.1 f.2.2) (costN f.1 g.2.2) &&
  (Nat.beq (costN f.2.1 f.1) (bif Nat.beq f.1 f.2.1 then 0 else 1) && (Nat.beq (costN f.2.1 f.2.2) (bif Nat.beq f.2.1 f.2.2 then 0 else 2) && (Nat.beq (costN f.2.2 f.1) (costN f.2.1 f.1 + costN f.2.1 f.2.2) && (Nat.beq (costN f.1 f.2.2) (costN f.2.1 f.1 + costN f.2.1 f.2.2) &&
  (Nat.ble 65 f.1 && (Nat.ble 65 f.2.1 && Nat.ble 65 f.2.2))))))))))))
noncomputable def upTo (n : Nat) (p : Nat → Bool) : Bool := Nat.rec true (fun k b => p k && b) n
theorem upTo_get {n : Nat} {p : Nat → Bool} (h : upTo n p = true) : ∀ k, k < n → p k = true := by
  induction n with
  | zero => intro k hk; (first | lia | omega)
  | succ n ih =>
    intro k hk
    have h' : (p n && upTo n p) = true := h
    rw [Bool.and_eq_true] at h'
    by_cases e : k = n
    · rw [e]; exact h'.1
    · exact ih h'.2 k (by (first | lia | omega))
theorem chk_all : upTo 26 (fun l => upTo 10 fun a => upTo 8 fun i => upTo 8 fun j => chk (FA l a i) (FA l a j)) = true := by kernel_rfl
theorem chk_get {l a i j : Nat} (hl : l < 26) (ha : a < 10) (hi : i < 8) (hj : j < 8) : chk (FA l a i) (FA l a j) = true := upTo_get (upTo_get (upTo_get (upTo_get chk_all l hl) a ha) i hi) j hj
theorem cost_N {x y : Nat} (hx : Low x) (hy : Low y) : cost (ch x) (ch y) = (costN x y : Int) := by
  unfold cost costN
  have inj : ∀ a b : Nat, ch a = ch b ↔ a = b := fun a b => by simp [ch]
  unfold Low at hx hy
  rw [hx, hy, lowC_eq, lowC_eq]
  simp only [inj]
  cases h1 : Nat.beq x y with
  | true => rw [if_pos (Nat.eq_of_beq_eq_true h1)]; rfl
  | false =>
    rw [if_neg (Nat.ne_of_beq_eq_false h1)]
    cases h2 : Nat.beq (lowN x) (lowN y) with
    | true => rw [if_pos (Nat.eq_of_beq_eq_true h2)]; rfl
    | false => rw [if_neg (Nat.ne_of_beq_eq_false h2)]; rfl
theorem low_FA {l a i : Nat} (hl : l < 26) (ha : a < 10) (hi : i < 8) : Low (FA l a i).1 ∧ Low (FA l a i).2.1 ∧ Low (FA l a i).2.2 := by
  have h1 := low_small l hl
  have h2 := low_cap l hl
  have h3 := low_wide l hl
  have h4 := low_wcap l hl
  have h5 := low_alph a ha l hl
  have h6 := low_alph ((a + 1) % 10) (by (first | lia | omega)) l hl
  have h7 := low_small ((l + 1) % 26) (by (first | lia | omega))
  obtain ⟨h8, h9, h10⟩ := low_one
  match i, hi with
  | 0, _ => exact ⟨h1, h1, h1⟩
  | 1, _ => exact ⟨h2, h1, h1⟩
  | 2, _ => exact ⟨h5, h5, h1⟩
  | 3, _ => exact ⟨h6, h6, h1⟩
  | 4, _ => exact ⟨h4, h3, h3⟩
  | 5, _ => exact ⟨h3, h3, h3⟩
  | 6, _ => exact ⟨h7, h7, h7⟩
  | 7, _ =>
    simp only [FA]
    split
    · exact ⟨h8, h8, h1⟩
    · split
      · exact ⟨h9, h1, h1⟩
      · exact ⟨h10, h10, h10⟩
theorem b3_FA {l a i : Nat} (hl : l < 26) (ha : a < 10) (hi : i < 8) : B3 (FA l a i).1 (FA l a i).2.2 := by
  match i, hi with
  | 0, _ => exact b3_small l hl
  | 1, _ => exact b3_cap l hl
  | 2, _ => exact b3_alph a ha l hl
  | 3, _ => exact b3_alph ((a + 1) % 10) (by (first | lia | omega)) l hl
  | 4, _ => exact b3_wcap l hl
  | 5, _ => exact b3_wide l hl
  | 6, _ => exact b3_small ((l + 1) % 26) (by (first | lia | omega))
  | 7, _ =>
    obtain ⟨h8, h9, h10⟩ := b3_one
    simp only [FA]
    split
    · rename_i h; subst h; exact h8
    · split
      · rename_i h; subst h; exact h9
      · exact h10
theorem le_FA {l a i : Nat} (hl : l < 26) (ha : a < 10) (hi : i < 8) : (FA l a i).1 < 1114112 ∧ (FA l a i).2.1 < 1114112 ∧ (FA l a i).2.2 < 1114112 := by
  have hal : ∀ a, a < 10 → al a ≤ 120432 := by decide +kernel
  have h1 := hal a ha
  have h2 := hal ((a + 1) % 10) (by (first | lia | omega))
  match i, hi with
  | 0, _ | 1, _ | 2, _ | 3, _ | 4, _ | 5, _ | 6, _ => simp only [FA]; (first | lia | omega)
  | 7, _ =>
    simp only [FA]
    split
    · dsimp only; (first | lia | omega)
    · split <;> (dsimp only; (first | lia | omega))
structure Cd (c d : Nat × Nat × Nat) : Prop where
  low : Low c.1 ∧ Low c.2.1 ∧ Low c.2.2
  b3 : B3 c.1 c.2.2
  le : c.1 < 1114112 ∧ c.2.1 < 1114112 ∧ c.2.2 < 1114112
  ge : 65 ≤ c.1 ∧ 65 ≤ c.2.1 ∧ 65 ≤ c.2.2
  pr : costN c.1 d.1 = priceN c d ∧ costN d.1 c.1 = priceN c d
  up : c.1 = d.1 → c.2.1 = d.2.1
  e01 : costN c.2.1 c.1 ≤ costN d.2.1 c.1
  e21 : costN c.2.1 c.2.2 ≤ costN c.2.1 d.2.2
  e02 : costN c.2.2 c.1 ≤ costN d.2.2 c.1
  e20 : costN c.1 c.2.2 ≤ costN c.1 d.2.2
  n1 : costN c.2.1 c.1 = bif Nat.beq c.1 c.2.1 then 0 else 1
  n2 : costN c.2.1 c.2.2 = bif Nat.beq c.2.1 c.2.2 then 0 else 2
  n3 : costN c.2.2 c.1 = costN c.2.1 c.1 + costN c.2.1 c.2.2
  n4 : costN c.1 c.2.2 = costN c.2.1 c.1 + costN c.2.1 c.2.2
theorem cd_of {l a i j : Nat} (hl : l < 26) (ha : a < 10) (hi : i < 8) (hj : j < 8) : Cd (FA l a i) (FA l a j) := by
  have h := chk_get hl ha hi hj
  unfold chk at h
  simp only [Bool.and_eq_true, Nat.beq_eq, Nat.ble_eq] at h
  obtain ⟨p1, p2, u, e1, e2, e3, e4, n1, n2, n3, n4, g1, g2, g3⟩ := h
  refine ⟨low_FA hl ha hi, b3_FA hl ha hi, le_FA hl ha hi, ⟨g1, g2, g3⟩, ⟨p1, p2⟩, fun e => ?_, e1, e2, e3, e4, n1, n2, n3, n4⟩
  rw [Bool.or_eq_true] at u
  rcases u with u | u
  · rw [Bool.not_eq_true'] at u; exact absurd e (Nat.ne_of_beq_eq_false u)
  · exact Nat.eq_of_beq_eq_true u
theorem F2.codes {f g : Fm} (h : F2 f g) : ∃ c d, f = toF c ∧ g = toF d ∧ Cd c c ∧ Cd c d ∧ Cd d c ∧ Cd d d := by
  obtain ⟨y, i, j, hi, hj, rfl, rfl⟩ := h
  obtain ⟨l, a, hl, ha, e⟩ := fAt_code y
  exact ⟨FA l a i, FA l a j, e i hi, e j hj, cd_of hl ha hi hi, cd_of hl ha hi hj, cd_of hl ha hj hi, cd_of hl ha hj hj⟩
theorem ch_beq (a b : Nat) : (ch a == ch b) = Nat.beq a b := by
  rw [Bool.eq_iff_iff]; simp [ch]
theorem price_N (c d : Nat × Nat × Nat) : priceOf (toF c) (toF d) = (priceN c d : Int) := by
  unfold priceOf priceN toF
  simp only [ch_beq]
  cases Nat.beq c.1 d.1 <;> cases Nat.beq c.2.1 d.2.1 <;> rfl
theorem cost_price {f g : Fm} (h : F2 f g) : cost f.1 g.1 = priceOf f g ∧ cost g.1 f.1 = priceOf f g := by
  obtain ⟨c, d, rfl, rfl, _, hcd, hdc, _⟩ := h.codes
  rw [price_N]
  refine ⟨?_, ?_⟩
  · show cost (ch c.1) (ch d.1) = _
    rw [cost_N hcd.low.1 hdc.low.1, hcd.pr.1]
  · show cost (ch d.1) (ch c.1) = _
    rw [cost_N hdc.low.1 hcd.low.1, hcd.pr.2]
theorem okc_of {c : Nat} (h : 65 ≤ c) : okc c := ⟨by (first | lia | omega), by (first | lia | omega), by (first | lia | omega)⟩
theorem pick_toF (e : Int) (c d : Nat × Nat × Nat) (i : Int) : (if i = e then toF c else toF d) = toF (if i = e then c else d) := by split <;> rfl
theorem tells_of {e port : Int} {o m : Nat} (pr : Fm → Str) (b : Bool) {f g : Fm} (hf : pr f = ch o) (hg : pr g = ch m) (ho : 65 ≤ o) (hm : 65 ≤ m) (hb : b = Nat.beq o m) (e0 : 0 ≤ e) (e1 : e < 4) (p0 : 0 ≤ port) (p1 : port < 100) :
    Tells (rep (pr (if 0 + ((0 : Nat) : Int) = e then f else g)) (pr (if 0 + ((0 + 1 : Nat) : Int) = e then f else g)) (pr (if 0 + ((0 + 1 + 1 : Nat) : Int) = e then f else g)) (pr (if 0 + ((0 + 1 + 1 + 1 : Nat) : Int) = e then f else g)) port) port b := by
  have hs : ∀ i : Int, pr (if 0 + i = e then f else g) = ch (sel i e o m) := fun i => by
    unfold sel
    by_cases h : i = e
    · rw [if_pos (by (first | lia | omega)), if_pos h, hf]
    · rw [if_neg (by (first | lia | omega)), if_neg h, hg]
  rw [hs, hs, hs, hs]
  constructor
  · intro h
    rw [hb] at h
    have := Nat.eq_of_beq_eq_true h
    subst this
    have hz : ∀ i : Int, sel i e o o = o := fun i => by unfold sel; split <;> rfl
    rw [hz, hz, hz, hz]
    exact ⟨told_good (okc_of ho) p0 p1⟩
  · intro h
    rw [hb] at h
    exact ⟨told_bad (okc_of hm) (okc_of ho) (Nat.ne_of_beq_eq_false h) p0 p1 e0 e1⟩
theorem tells0 {f g : Fm} {e port p : Int} (h : F2 f g) (e0 : 0 ≤ e) (e1 : e < 4) (p0 : 0 ≤ port) (p1 : port < 100) (hp : p = priceOf f g) : Tells (rd0 e port f g) port (p == 0) := by
  obtain ⟨c, d, rfl, rfl, _, hcd, hdc, _⟩ := h.codes
  refine tells_of (fun x => x.1) _ (rfl : _ = ch c.1) (rfl : _ = ch d.1) hcd.ge.1 hdc.ge.1 ?_ e0 e1 p0 p1
  rw [hp, price_N]
  unfold priceN
  cases Nat.beq c.1 d.1 <;> cases Nat.beq c.2.1 d.2.1 <;> rfl
theorem tells1 {f g : Fm} {e port p : Int} (h : F2 f g) (e0 : 0 ≤ e) (e1 : e < 4) (p0 : 0 ≤ port) (p1 : port < 100) (hp : p = priceOf f g) : Tells (rd1 e port f g) port (decide (p < 2)) := by
  obtain ⟨c, d, rfl, rfl, _, hcd, hdc, _⟩ := h.codes
  refine tells_of (fun x => x.2.1) _ (rfl : _ = ch c.2.1) (rfl : _ = ch d.2.1) hcd.ge.2.1 hdc.ge.2.1 ?_ e0 e1 p0 p1
  rw [hp, price_N]
  unfold priceN
  have hu := hcd.up
  cases h1 : Nat.beq c.1 d.1 with
  | true =>
    have := hu (Nat.eq_of_beq_eq_true h1)
    rw [this, Nat.beq_refl]; rfl
  | false => cases Nat.beq c.2.1 d.2.1 <;> rfl
theorem tells2 {f g : Fm} {e port : Int} (h : F2 f g) (e0 : 0 ≤ e) (e1 : e < 4) (p0 : 0 ≤ port) (p1 : port < 100) : Tells (rd2 e port f g) port (f.2.2 == g.2.2) := by
  obtain ⟨c, d, rfl, rfl, _, hcd, hdc, _⟩ := h.codes
  exact tells_of (fun x => x.2.2) _ (rfl : _ = ch c.2.2) (rfl : _ = ch d.2.2) hcd.ge.2.2 hdc.ge.2.2 (ch_beq _ _) e0 e1 p0 p1
theorem join_flat : ∀ l : List Str, (Txt.join (Str.ofString "") l).cps.toList = (l.map fun x => x.cps.toList).flatten := by
  intro l
  show (Builtin.Str.glued (Str.ofString "") l).cps.toList = _
  rw [StrLaws.glued_eq_join]
  have e : (Str.ofString "").cps = #[] := by decide +kernel
  induction l with
  | nil => rfl
  | cons x l ih =>
    cases l with
    | nil => simp [Str.join]
    | cons y r =>
      show ((x ++ Str.ofString "" ++ Str.join (Str.ofString "") (y :: r)) : Str).cps.toList = _
      simp only [Str.cps_append, Array.toList_append, ih, e]
      simp
theorem prep_list {x y : Str} (h : ∃ l : List (Nat × Nat), x.cps.toList = l.map (·.1) ∧ y.cps.toList = l.map (·.2) ∧ ∀ p ∈ l, B3 p.1 p.2) : Txt.join (Str.ofString "") (prepL x) = y := by
  obtain ⟨l, hx, hy, hl⟩ := h
  apply Str.ext'
  apply Array.toList_inj.mp
  rw [join_flat, hy]
  unfold prepL
  rw [hx]
  clear hx hy
  induction l with
  | nil => rfl
  | cons p l ih =>
    have hp := hl p List.mem_cons_self
    have ih' := ih fun q hq => hl q (List.mem_cons_of_mem _ hq)
    rw [List.map_cons, List.filter_cons, hp.2]
    simp only [Bool.not_false, if_true, List.map_cons, List.flatten_cons, hp.1, ih']
    rfl
theorem prep_rep {a b c d a' b' c' d' : Nat} {port : Int} (h0 : 0 ≤ port) (h1 : port < 100) (ha : B3 a a') (hb : B3 b b') (hc : B3 c c') (hd : B3 d d') : Txt.join (Str.ofString "") (prepL (rep (ch a) (ch b) (ch c) (ch d) port)) = rep (ch a') (ch b') (ch c') (ch d') port := by
  have hP := (port_digits port h0 h1).1
  refine prep_list ⟨[(50, 50), (50, 50), (57, 57), (32, 32), (40, 40)] ++ ((a, a') :: (b, b') :: (c, c') :: ((portS port).cps.toList.map (fun x => (x, x)) ++ [(d, d')])) ++ [(41, 41)], ?_, ?_, ?_⟩
  · have := rep_list a b c d port
    unfold ch
    rw [this]
    simp [Function.comp_def]
  · have := rep_list a' b' c' d' port
    unfold ch
    rw [this]
    simp [Function.comp_def]
  · intro p hp
    simp only [List.mem_append, List.mem_cons, List.not_mem_nil, or_false, List.mem_map] at hp
    rcases hp with ((rfl | rfl | rfl | rfl | rfl) | rfl | rfl | rfl | ⟨x, hx, rfl⟩ | rfl) | rfl
    · exact b3_fix 50 (by decide)
    · exact b3_fix 50 (by decide)
    · exact b3_fix 57 (by decide)
    · exact b3_fix 32 (by decide)
    · exact b3_fix 40 (by decide)
    · exact ha
    · exact hb
    · exact hc
    · exact b3_fix x (by have := hP.2.2 x hx; (first | lia | omega))
    · exact hd
    · exact b3_fix 41 (by decide)
theorem prep_road {f g : Fm} {e port : Int} (h : F2 f g) (p0 : 0 ≤ port) (p1 : port < 100) : Txt.join (Str.ofString "") (prepL (rd0 e port f g)) = rd2 e port f g := by
  obtain ⟨c, d, rfl, rfl, hcc, hcd, hdc, hdd⟩ := h.codes
  unfold rd0 rd2
  simp only [pick_toF]
  have hb : ∀ i : Int, B3 (if i = e then c else d).1 (if i = e then c else d).2.2 := fun i => by split; exact hcc.b3; exact hdc.b3
  exact prep_rep p0 p1 (hb _) (hb _) (hb _) (hb _)
/- the road of replies -/
noncomputable def mk4 (A : Nat → Nat) (port : Int) : Str := rep (ch (A 0)) (ch (A 1)) (ch (A 2)) (ch (A 3)) port
theorem mk4_at (A : Nat → Nat) {port : Int} (h0 : 0 ≤ port) (h1 : port < 100) : ∃ n : Nat, (∀ A : Nat → Nat, (mk4 A port).length = 10 + n) ∧ n ≤ 2 ∧
    (∀ k, k < 10 + n → (∃ i, i < 4 ∧ k = (if i = 3 then 8 + n else 5 + i)) ∨ ∃ q, q < 58 ∧ ∀ A : Nat → Nat, at1 (mk4 A port) k = ch q) ∧ ∀ A : Nat → Nat, at1 (mk4 A port) 5 = ch (A 0) ∧ at1 (mk4 A port) 6 = ch (A 1) ∧ at1 (mk4 A port) 7 = ch (A 2) ∧ at1 (mk4 A port) (8 + n) = ch (A 3) := by
  have hP := (port_digits port h0 h1).1
  have hl : ∀ A : Nat → Nat, (mk4 A port).cps.toList = [50, 50, 57, 32, 40] ++ (A 0 :: A 1 :: A 2 :: ((portS port).cps.toList ++ [A 3])) ++ [41] := fun A => rep_list (A 0) (A 1) (A 2) (A 3) port
  revert hP hl
  generalize (portS port).cps.toList = P
  intro hP hl
  have len : ∀ A : Nat → Nat, (mk4 A port).length = 10 + P.length := fun A => by rw [← len_list, hl]; simp; (first | lia | omega)
  have get : ∀ (A : Nat → Nat) k c, ([50, 50, 57, 32, 40] ++ (A 0 :: A 1 :: A 2 :: (P ++ [A 3])) ++ [41])[k]? = some c → at1 (mk4 A port) k = ch c := fun A k c e => by
    unfold at1 ch
    rw [hl, List.getD_eq_getElem?_getD, e]; rfl
  have gP : ∀ (A : Nat → Nat) k, 8 ≤ k → ([50, 50, 57, 32, 40] ++ (A 0 :: A 1 :: A 2 :: (P ++ [A 3])) ++ [41])[k]? = (P ++ [A 3] ++ [41])[k - 8]? := fun A k hk => by
    obtain ⟨j, rfl⟩ : ∃ j, k = j + 1 + 1 + 1 + 1 + 1 + 1 + 1 + 1 := ⟨k - 8, by (first | lia | omega)⟩
    simp
  refine ⟨P.length, len, hP.2.1, ?_, ?_⟩
  · intro k hk
    by_cases h5 : k < 5
    · right
      match k, h5 with
      | 0, _ => exact ⟨50, by decide, fun A => get A _ _ rfl⟩
      | 1, _ => exact ⟨50, by decide, fun A => get A _ _ rfl⟩
      | 2, _ => exact ⟨57, by decide, fun A => get A _ _ rfl⟩
      | 3, _ => exact ⟨32, by decide, fun A => get A _ _ rfl⟩
      | 4, _ => exact ⟨40, by decide, fun A => get A _ _ rfl⟩
    by_cases h8 : k < 8
    · left; exact ⟨k - 5, by (first | lia | omega), by rw [if_neg (by (first | lia | omega))]; (first | lia | omega)⟩
    by_cases hp : k < 8 + P.length
    · right
      have hlt : k - 8 < P.length := by (first | lia | omega)
      have := hP.2.2 P[k - 8] (List.getElem_mem hlt)
      refine ⟨P[k - 8], by (first | lia | omega), fun A => get A _ _ ?_⟩
      rw [gP A k (by (first | lia | omega)), List.append_assoc, List.getElem?_append_left hlt, List.getElem?_eq_getElem hlt]
    by_cases h9 : k = 8 + P.length
    · left; exact ⟨3, by decide, by rw [if_pos rfl]; exact h9⟩
    · right
      refine ⟨41, by decide, fun A => get A _ _ ?_⟩
      rw [gP A k (by (first | lia | omega)), List.getElem?_append_right (by simp; (first | lia | omega))]
      have e0 : k - 8 - (P ++ [A 3]).length = 0 := by simp; (first | lia | omega)
      rw [e0]; rfl
  · intro A
    refine ⟨get A _ _ rfl, get A _ _ rfl, get A _ _ rfl, get A _ _ ?_⟩
    rw [gP A _ (by (first | lia | omega)), List.append_assoc, List.getElem?_append_right (by (first | lia | omega))]
    rw [show 8 + P.length - 8 - P.length = 0 by (first | lia | omega)]; rfl
theorem costN_le (x y : Nat) : costN x y ≤ 2 := by
  unfold costN
  cases Nat.beq x y <;> cases Nat.beq (lowN x) (lowN y) <;> decide
theorem costN_self (x : Nat) : costN x x = 0 := by unfold costN; rw [Nat.beq_refl]; rfl
theorem beq_ff {a b : Nat} (h : a ≠ b) : Nat.beq a b = false := by
  cases e : Nat.beq a b with
  | false => rfl
  | true => exact absurd (Nat.eq_of_beq_eq_true e) h
theorem costN_fix {q x : Nat} (hq : q < 58) (hx : 65 ≤ x) : costN q x = 2 ∧ costN x q = 2 := by
  have h1 : Nat.beq q x = false := beq_ff (by (first | lia | omega))
  have h1' : Nat.beq x q = false := beq_ff (by (first | lia | omega))
  have hl : ∀ c, lowN c = lowC c := fun c => (lowC_eq c).symm
  have e1 : lowN q = q := by
    rw [hl]; unfold lowC
    rw [if_neg (by (first | lia | omega)), if_neg (by (first | lia | omega)), if_neg (by (first | lia | omega))]
  have e2 : 65 ≤ lowN x := by
    rw [hl]; unfold lowC
    split
    · (first | lia | omega)
    · split
      · (first | lia | omega)
      · split <;> (first | lia | omega)
  have h2 : Nat.beq (lowN q) (lowN x) = false := by rw [e1]; exact beq_ff (by (first | lia | omega))
  have h2' : Nat.beq (lowN x) (lowN q) = false := by rw [e1]; exact beq_ff (by (first | lia | omega))
  unfold costN
  rw [h1, h1', h2, h2']
  exact ⟨rfl, rfl⟩
theorem csum_marks (c : Nat → Nat → Int) (N : Nat) (zero : ∀ k, k < 10 + N → k ≠ 5 → k ≠ 6 → k ≠ 7 → k ≠ 8 + N → c k k = 0) : csum c (10 + N) = c 5 5 + c 6 6 + c 7 7 + c (8 + N) (8 + N) := by
  have e5 : csum c 5 = 0 := csum_zero c 5 fun k hk => zero k (by (first | lia | omega)) (by (first | lia | omega)) (by (first | lia | omega)) (by (first | lia | omega)) (by (first | lia | omega))
  have e8 : csum c 8 = c 5 5 + c 6 6 + c 7 7 := by
    show csum c 5 + c 5 5 + c 6 6 + c 7 7 = _
    (first | lia | omega)
  have eN : csum c (8 + N) = csum c 8 := by
    rw [csum_shift c 8 N]
    have : csum (fun j i => c (8 + j) (8 + i)) N = 0 := csum_zero (fun j i => c (8 + j) (8 + i)) N fun k hk => zero (8 + k) (by (first | lia | omega)) (by (first | lia | omega)) (by (first | lia | omega)) (by (first | lia | omega)) (by (first | lia | omega))
    (first | lia | omega)
  have e9 : csum c (10 + N) = csum c (8 + N) + c (8 + N) (8 + N) + c (9 + N) (9 + N) := by
    rw [show 10 + N = 8 + N + 1 + 1 by (first | lia | omega), show 9 + N = 8 + N + 1 by (first | lia | omega)]
    rfl
  have := zero (9 + N) (by (first | lia | omega)) (by (first | lia | omega)) (by (first | lia | omega)) (by (first | lia | omega)) (by (first | lia | omega))
  (first | lia | omega)
theorem lev_road {A B : Nat → Nat} {port mc r : Int} (p0 : 0 ≤ port) (p1 : port < 100) (hA : ∀ i, i < 4 → Low (A i) ∧ 65 ≤ A i) (hB : ∀ i, i < 4 → Low (B i) ∧ 65 ≤ B i) (h : LevR (mk4 A port) (mk4 B port) mc r) (hm : mk4 A port ≠ mk4 B port → 0 ≤ mc)
    (hd : (∀ i j, i < 4 → j < 4 → costN (B i) (A i) ≤ costN (B j) (A i)) ∨ (∀ i j, i < 4 → j < 4 → costN (B j) (A j) ≤ costN (B j) (A i)))
    (hmc : ((costN (B 0) (A 0) + costN (B 1) (A 1) + costN (B 2) (A 2) + costN (B 3) (A 3) : Nat) : Int) ≤ mc ∨ ((costN (B 0) (A 0) + costN (B 1) (A 1) + costN (B 2) (A 2) + costN (B 3) (A 3) : Nat) : Int) = mc + 1) :
    r = ((costN (B 0) (A 0) + costN (B 1) (A 1) + costN (B 2) (A 2) + costN (B 3) (A 3) : Nat) : Int) := by
  obtain ⟨N, len, hN, pos, at4⟩ := mk4_at A p0 p1
  have mark : ∀ (A : Nat → Nat) i, i < 4 → at1 (mk4 A port) (if i = 3 then 8 + N else 5 + i) = ch (A i) := fun A i hi => by
    obtain ⟨a5, a6, a7, a8⟩ := at4 A
    match i, hi with
    | 0, _ => exact a5
    | 1, _ => exact a6
    | 2, _ => exact a7
    | 3, _ => exact a8
  have lowf : ∀ q, q < 58 → Low q := low_fix
  -- the four marks and the others
  have diag0 : ∀ k q, (∀ A : Nat → Nat, at1 (mk4 A port) k = ch q) → c1 (mk4 A port) (mk4 B port) k k = 0 := fun k q h => by
    unfold c1; rw [h, h]; exact cost_self _
  have cm : ∀ i j, i < 4 → j < 4 → c1 (mk4 A port) (mk4 B port) (if j = 3 then 8 + N else 5 + j) (if i = 3 then 8 + N else 5 + i) = (costN (B j) (A i) : Int) := fun i j hi hj => by
    unfold c1; rw [mark A i hi, mark B j hj]; exact cost_N (hB j hj).1 (hA i hi).1
  have csumE : csum (c1 (mk4 A port) (mk4 B port)) (10 + N) = ((costN (B 0) (A 0) + costN (B 1) (A 1) + costN (B 2) (A 2) + costN (B 3) (A 3) : Nat) : Int) := by
    have zero : ∀ k, k < 10 + N → k ≠ 5 → k ≠ 6 → k ≠ 7 → k ≠ 8 + N → c1 (mk4 A port) (mk4 B port) k k = 0 := fun k hk n5 n6 n7 n8 => by
      rcases pos k hk with ⟨i, hi, e⟩ | ⟨q, _, hq⟩
      · exfalso; revert e; split <;> (first | lia | omega)
      · exact diag0 k q hq
    have m0 : c1 (mk4 A port) (mk4 B port) 5 5 = (costN (B 0) (A 0) : Int) := by have e := cm 0 0 (by decide) (by decide); rw [if_neg (by decide)] at e; exact e
    have m1 : c1 (mk4 A port) (mk4 B port) 6 6 = (costN (B 1) (A 1) : Int) := by have e := cm 1 1 (by decide) (by decide); rw [if_neg (by decide)] at e; exact e
    have m2 : c1 (mk4 A port) (mk4 B port) 7 7 = (costN (B 2) (A 2) : Int) := by have e := cm 2 2 (by decide) (by decide); rw [if_neg (by decide)] at e; exact e
    have m3 : c1 (mk4 A port) (mk4 B port) (8 + N) (8 + N) = (costN (B 3) (A 3) : Int) := by have e := cm 3 3 (by decide) (by decide); rw [if_pos rfl] at e; exact e
    rw [csum_marks _ N zero, m0, m1, m2, m3]
    (first | lia | omega)
  rw [← csumE] at hmc ⊢
  refine lev_main (len A) (len B) h hm ?_ hmc
  rcases hd with hd | hd
  · left
    intro j i hj hi
    rcases pos i hi with ⟨i', hi', rfl⟩ | ⟨q, _, hq⟩
    · rw [cm i' i' hi' hi']
      rcases pos j hj with ⟨j', hj', rfl⟩ | ⟨q, hq58, hq⟩
      · rw [cm i' j' hi' hj']
        exact Int.ofNat_le.mpr (hd i' j' hi' hj')
      · have e : c1 (mk4 A port) (mk4 B port) j (if i' = 3 then 8 + N else 5 + i') = (costN q (A i') : Int) := by
          unfold c1; rw [mark A i' hi', hq]; exact cost_N (lowf q hq58) (hA i' hi').1
        rw [e, (costN_fix hq58 (hA i' hi').2).1]
        exact Int.ofNat_le.mpr (costN_le _ _)
    · rw [diag0 i q hq]; exact (c1_nonneg _ _ _ _).1
  · right
    intro j i hj hi
    rcases pos j hj with ⟨j', hj', rfl⟩ | ⟨q, _, hq⟩
    · rw [cm j' j' hj' hj']
      rcases pos i hi with ⟨i', hi', rfl⟩ | ⟨q, hq58, hq⟩
      · rw [cm i' j' hi' hj']
        exact Int.ofNat_le.mpr (hd i' j' hi' hj')
      · have e : c1 (mk4 A port) (mk4 B port) (if j' = 3 then 8 + N else 5 + j') i = (costN (B j') q : Int) := by
          unfold c1; rw [mark B j' hj', hq]; exact cost_N (hB j' hj').1 (lowf q hq58)
        rw [e, (costN_fix hq58 (hB j' hj').2).2]
        exact Int.ofNat_le.mpr (costN_le _ _)
    · rw [diag0 j q hq]; exact (c1_nonneg _ _ _ _).1
theorem cnt4 (p : Nat → Bool) : ((List.range 4).filter p).length = (p 0).toNat + (p 1).toNat + (p 2).toNat + (p 3).toNat := by
  show ([0, 1, 2, 3].filter p).length = _
  simp only [List.filter_cons, List.filter_nil]
  cases p 0 <;> cases p 1 <;> cases p 2 <;> cases p 3 <;> rfl
noncomputable def sc (e : Int) (c d : Nat × Nat × Nat) (i : Nat) : Nat × Nat × Nat := if 0 + (i : Int) = e then c else d
theorem pick_sc (e : Int) (c d : Nat × Nat × Nat) (i : Nat) : pick e (toF c) (toF d) i = toF (sc e c d i) := by
  unfold pick sc; split <;> rfl
theorem rd0_mk (e port : Int) (c d : Nat × Nat × Nat) : rd0 e port (toF c) (toF d) = mk4 (fun i => (sc e c d i).1) port := by
  unfold rd0
  simp only [pick_toF]
  rfl
theorem rd1_mk (e port : Int) (c d : Nat × Nat × Nat) : rd1 e port (toF c) (toF d) = mk4 (fun i => (sc e c d i).2.1) port := by
  unfold rd1
  simp only [pick_toF]
  rfl
theorem rd2_mk (e port : Int) (c d : Nat × Nat × Nat) : rd2 e port (toF c) (toF d) = mk4 (fun i => (sc e c d i).2.2) port := by
  unfold rd2
  simp only [pick_toF]
  rfl
structure Cds (e : Int) (c d : Nat × Nat × Nat) : Prop where
  h : ∀ i j, Cd (sc e c d i) (sc e c d j)
theorem F2.cds {f g : Fm} (h : F2 f g) (e : Int) : ∃ c d, f = toF c ∧ g = toF d ∧ Cds e c d := by
  obtain ⟨c, d, hf, hg, hcc, hcd, hdc, hdd⟩ := h.codes
  refine ⟨c, d, hf, hg, ⟨fun i j => ?_⟩⟩
  unfold sc
  split <;> split <;> assumption
theorem bn (a b : Nat) : (ch a != ch b) = !Nat.beq a b := by
  show (!(ch a == ch b)) = _
  rw [ch_beq]
theorem near_sum {e : Int} {c d : Nat × Nat × Nat} (h : Cds e c d) : cnt e (toF c) (toF d) pNear = costN (sc e c d 0).2.1 (sc e c d 0).1 + costN (sc e c d 1).2.1 (sc e c d 1).1 + costN (sc e c d 2).2.1 (sc e c d 2).1 + costN (sc e c d 3).2.1 (sc e c d 3).1 := by
  unfold cnt
  rw [cnt4]
  have k : ∀ i, (pNear (pick e (toF c) (toF d) i)).toNat = costN (sc e c d i).2.1 (sc e c d i).1 := fun i => by
    rw [pick_sc, (h.h i i).n1]
    show (ch _ != ch _).toNat = _
    rw [bn]
    show (!Nat.beq (sc e c d i).1 (sc e c d i).2.1).toNat = _
    cases Nat.beq (sc e c d i).1 (sc e c d i).2.1 <;> rfl
  rw [k, k, k, k]
theorem far_sum {e : Int} {c d : Nat × Nat × Nat} (h : Cds e c d) : 2 * cnt e (toF c) (toF d) pFar = costN (sc e c d 0).2.1 (sc e c d 0).2.2 + costN (sc e c d 1).2.1 (sc e c d 1).2.2 + costN (sc e c d 2).2.1 (sc e c d 2).2.2 + costN (sc e c d 3).2.1 (sc e c d 3).2.2 := by
  unfold cnt
  rw [cnt4]
  have k : ∀ i, 2 * (pFar (pick e (toF c) (toF d) i)).toNat = costN (sc e c d i).2.1 (sc e c d i).2.2 := fun i => by
    rw [pick_sc, (h.h i i).n2]
    show 2 * (ch _ != ch _).toNat = _
    rw [bn]
    show 2 * (!Nat.beq (sc e c d i).2.1 (sc e c d i).2.2).toNat = _
    cases Nat.beq (sc e c d i).2.1 (sc e c d i).2.2 <;> rfl
  rw [← k, ← k, ← k, ← k]; (first | lia | omega)
noncomputable def IsN (e : Int) (f g : Fm) (q : Fm → Bool) (n : Int) : Prop := n = (cnt e f g q : Int)
section
variable {f g : Fm} {e port n k r : Int}
theorem lev01 (h : F2 f g) (p0 : 0 ≤ port) (p1 : port < 100) (hn : IsN e f g pNear n) (hl : LevR (rd0 e port f g) (rd1 e port f g) n r) : r = n := by
  obtain ⟨c, d, rfl, rfl, hc⟩ := h.cds e
  rw [rd0_mk, rd1_mk] at hl
  have hs := near_sum hc
  unfold IsN at hn
  have := lev_road p0 p1 (fun i _ => ⟨(hc.h i i).low.1, (hc.h i i).ge.1⟩) (fun i _ => ⟨(hc.h i i).low.2.1, (hc.h i i).ge.2.1⟩) hl (fun _ => by (first | lia | omega)) (.inl fun i j _ _ => (hc.h i j).e01) (.inl (by (first | lia | omega)))
  (first | lia | omega)
theorem lev21 (h : F2 f g) (p0 : 0 ≤ port) (p1 : port < 100) (hk : IsN e f g pFar k) (hl : LevR (rd2 e port f g) (rd1 e port f g) (2 * k) r) : r = 2 * k := by
  obtain ⟨c, d, rfl, rfl, hc⟩ := h.cds e
  rw [rd2_mk, rd1_mk] at hl
  have hs := far_sum hc
  unfold IsN at hk
  have := lev_road p0 p1 (fun i _ => ⟨(hc.h i i).low.2.2, (hc.h i i).ge.2.2⟩) (fun i _ => ⟨(hc.h i i).low.2.1, (hc.h i i).ge.2.1⟩) hl (fun _ => by (first | lia | omega)) (.inr fun i j _ _ => (hc.h j i).e21) (.inl (by (first | lia | omega)))
  (first | lia | omega)
theorem sum3 {e : Int} {c d : Nat × Nat × Nat} (hc : Cds e c d) : costN (sc e c d 0).2.2 (sc e c d 0).1 + costN (sc e c d 1).2.2 (sc e c d 1).1 + costN (sc e c d 2).2.2 (sc e c d 2).1 + costN (sc e c d 3).2.2 (sc e c d 3).1 = cnt e (toF c) (toF d) pNear + 2 * cnt e (toF c) (toF d) pFar := by
  rw [near_sum hc, far_sum hc, (hc.h 0 0).n3, (hc.h 1 1).n3, (hc.h 2 2).n3, (hc.h 3 3).n3]; (first | lia | omega)
theorem sum4 {e : Int} {c d : Nat × Nat × Nat} (hc : Cds e c d) : costN (sc e c d 0).1 (sc e c d 0).2.2 + costN (sc e c d 1).1 (sc e c d 1).2.2 + costN (sc e c d 2).1 (sc e c d 2).2.2 + costN (sc e c d 3).1 (sc e c d 3).2.2 = cnt e (toF c) (toF d) pNear + 2 * cnt e (toF c) (toF d) pFar := by
  rw [near_sum hc, far_sum hc, (hc.h 0 0).n4, (hc.h 1 1).n4, (hc.h 2 2).n4, (hc.h 3 3).n4]; (first | lia | omega)
theorem lev02 (h : F2 f g) (p0 : 0 ≤ port) (p1 : port < 100) (hn : IsN e f g pNear n) (hk : IsN e f g pFar k) (hl : LevR (rd0 e port f g) (rd2 e port f g) (n + 2 * k) r) : r = n + 2 * k := by
  obtain ⟨c, d, rfl, rfl, hc⟩ := h.cds e
  rw [rd0_mk, rd2_mk] at hl
  have hs := sum3 hc
  unfold IsN at hk hn
  have := lev_road p0 p1 (fun i _ => ⟨(hc.h i i).low.1, (hc.h i i).ge.1⟩) (fun i _ => ⟨(hc.h i i).low.2.2, (hc.h i i).ge.2.2⟩) hl (fun _ => by (first | lia | omega)) (.inl fun i j _ _ => (hc.h i j).e02) (.inl (by (first | lia | omega)))
  (first | lia | omega)
theorem mk4_eq_of {A B : Nat → Nat} {port : Int} (p0 : 0 ≤ port) (p1 : port < 100) (h : ∀ i, i < 4 → costN (B i) (A i) = 0) : mk4 A port = mk4 B port := by
  have e : ∀ i, i < 4 → A i = B i := fun i hi => by
    have := h i hi
    unfold costN at this
    cases hb : Nat.beq (B i) (A i) with
    | true => exact (Nat.eq_of_beq_eq_true hb).symm
    | false => rw [hb] at this; cases hc : Nat.beq (lowN (B i)) (lowN (A i)) <;> rw [hc] at this <;> exact absurd this (by decide)
  unfold mk4
  rw [e 0 (by decide), e 1 (by decide), e 2 (by decide), e 3 (by decide)]
theorem lev20 (h : F2 f g) (p0 : 0 ≤ port) (p1 : port < 100) (hn : IsN e f g pNear n) (hk : IsN e f g pFar k) (hl : LevR (rd2 e port f g) (rd0 e port f g) (n + 2 * k - 1) r) : n + 2 * k ≤ r := by
  obtain ⟨c, d, rfl, rfl, hc⟩ := h.cds e
  rw [rd2_mk, rd0_mk] at hl
  have hs := sum4 hc
  unfold IsN at hk hn
  have := lev_road p0 p1 (fun i _ => ⟨(hc.h i i).low.2.2, (hc.h i i).ge.2.2⟩) (fun i _ => ⟨(hc.h i i).low.1, (hc.h i i).ge.1⟩) hl (fun ne => by
    refine Int.not_lt.mp fun hlt => ne (mk4_eq_of p0 p1 fun i hi => ?_)
    match i, hi with
    | 0, _ => (first | lia | omega)
    | 1, _ => (first | lia | omega)
    | 2, _ => (first | lia | omega)
    | 3, _ => (first | lia | omega)) (.inr fun i j _ _ => (hc.h j i).e20) (.inr (by (first | lia | omega)))
  (first | lia | omega)
end
theorem cnt_le4 (e : Int) (f g : Fm) (q : Fm → Bool) : cnt e f g q ≤ 4 := by
  unfold cnt
  rw [cnt4]
  have : ∀ b : Bool, b.toNat ≤ 1 := by decide
  have h0 := this (q (pick e f g 0)); have h1 := this (q (pick e f g 1)); have h2 := this (q (pick e f g 2)); have h3 := this (q (pick e f g 3))
  (first | lia | omega)
theorem IsN.le {e n : Int} {f g : Fm} {q : Fm → Bool} (h : IsN e f g q n) : 0 ≤ n ∧ n ≤ 4 := by
  unfold IsN at h
  have := cnt_le4 e f g q
  (first | lia | omega)
theorem strOk_rep {a b c d : Nat} {port : Int} (p0 : 0 ≤ port) (p1 : port < 100) (ha : a < 1114112) (hb : b < 1114112) (hc : c < 1114112) (hd : d < 1114112) : PyData.strOk (rep (ch a) (ch b) (ch c) (ch d) port) = true := by
  have hP := (port_digits port p0 p1).1
  unfold PyData.strOk
  rw [← Array.all_toList]
  unfold ch
  rw [rep_list, List.all_eq_true]
  intro x hx
  rw [decide_eq_true_eq]
  simp only [List.mem_append, List.mem_cons, List.not_mem_nil, or_false] at hx
  rcases hx with (h | h | h | h | h | h) | h
  · (first | lia | omega)
  · (first | lia | omega)
  · (first | lia | omega)
  · (first | lia | omega)
  · have := hP.2.2 x h; (first | lia | omega)
  · (first | lia | omega)
  · (first | lia | omega)
theorem strOk_mk {A : Nat → Nat} {port : Int} (p0 : 0 ≤ port) (p1 : port < 100) (h : ∀ i, A i < 1114112) : PyData.strOk (mk4 A port) = true := strOk_rep p0 p1 (h 0) (h 1) (h 2) (h 3)
theorem F2.one {f g : Fm} (h : F2 f g) : (f.1.length ≤ 1 ∧ f.2.1.length ≤ 1 ∧ f.2.2.length ≤ 1) ∧ (g.1.length ≤ 1 ∧ g.2.1.length ≤ 1 ∧ g.2.2.length ≤ 1) := by
  obtain ⟨c, d, rfl, rfl, _⟩ := h.codes
  exact ⟨⟨Nat.le_refl _, Nat.le_refl _, Nat.le_refl _⟩, ⟨Nat.le_refl _, Nat.le_refl _, Nat.le_refl _⟩⟩
theorem rd_len (pr : Fm → Str) {e port : Int} {f g : Fm} (hf : (pr f).length ≤ 1) (hg : (pr g).length ≤ 1) (p0 : 0 ≤ port) (p1 : port < 100) : (rep (pr (if 0 + ((0 : Nat) : Int) = e then f else g)) (pr (if 0 + ((0 + 1 : Nat) : Int) = e then f else g)) (pr (if 0 + ((0 + 1 + 1 : Nat) : Int) = e then f else g)) (pr (if 0 + ((0 + 1 + 1 + 1 : Nat) : Int) = e then f else g)) port).length ≤ 40 := by
  have k : ∀ i : Int, (pr (if i = e then f else g)).length ≤ 1 := fun i => by split <;> assumption
  exact Nat.le_trans (rep_size (k _) (k _) (k _) (k _) p0 p1) (by decide)
theorem C_lev01 {w : World} {loose : List Str} {mean : ExcName → Option Value} {mg mb : Str → Option Value} {dp un : Nat} {gd : Option (List Code)} {cn : Str} {cs : Scope} {ca : Addr} {ccd : Value} {cl : List (Str × Addr)} {outer : List Env} {A₀ : Around} {base h₀ : Heap} {L : Addr} {m : Str → Option Value} {s : Shared} {Q E : Value → Shared → Prop} {news : List (Addr × Obj)}
    (B : Below A₀ base outer h₀) (F : Fr h₀ L s.heap m) (X : (T49.K w.params).In h₀) (N : News h₀ L s.heap news) (T : Top T49.vw loose mean mg mb h₀) (hk : cs.kind = .function) (hd : dp + 12 < recursionLimit) (hu : un + 300 < cLine)
    {e port n : Int} {f g : Fm} {ta tb tm : Tok} (h : F2 f g) (p0 : 0 ≤ port) (p1 : port < 100) (hn : IsN e f g pNear n)
    (hret : ∀ (t : Tok) (h' : Heap) (tk' : Nat), Fr h₀ L h' m → News h₀ L h' news → Q (.int (n) t) { s with heap := h', toks := tk' }) :
    wpAny (model PySem.Challenge.rw_tp0049_01.row.prog w) (ktrTop dp un gd cn cs L ca ccd cl outer) (call (.ref 136) [.str (rd0 e port f g) ta, .str (rd1 e port f g) tb, .int (n) tm]) Q E s := by
  have hn4 := hn.le
  refine C_lev B F X N T hk hd hu (rd_len (fun x => x.1) h.one.1.1 h.one.2.1 p0 p1) (rd_len (fun x => x.2.1) h.one.1.2.1 h.one.2.2.1 p0 p1) (by (first | lia | omega)) (by (first | lia | omega)) (fun t h' tk' r lr F' N' => ?_)
  rw [lev01 h p0 p1 hn lr]
  exact hret t h' tk' F' N'
theorem C_lev21 {w : World} {loose : List Str} {mean : ExcName → Option Value} {mg mb : Str → Option Value} {dp un : Nat} {gd : Option (List Code)} {cn : Str} {cs : Scope} {ca : Addr} {ccd : Value} {cl : List (Str × Addr)} {outer : List Env} {A₀ : Around} {base h₀ : Heap} {L : Addr} {m : Str → Option Value} {s : Shared} {Q E : Value → Shared → Prop} {news : List (Addr × Obj)}
    (B : Below A₀ base outer h₀) (F : Fr h₀ L s.heap m) (X : (T49.K w.params).In h₀) (N : News h₀ L s.heap news) (T : Top T49.vw loose mean mg mb h₀) (hk : cs.kind = .function) (hd : dp + 12 < recursionLimit) (hu : un + 300 < cLine)
    {e port k : Int} {f g : Fm} {ta tb tm : Tok} (h : F2 f g) (p0 : 0 ≤ port) (p1 : port < 100) (hk2 : IsN e f g pFar k)
    (hret : ∀ (t : Tok) (h' : Heap) (tk' : Nat), Fr h₀ L h' m → News h₀ L h' news → Q (.int (2 * k) t) { s with heap := h', toks := tk' }) :
    wpAny (model PySem.Challenge.rw_tp0049_01.row.prog w) (ktrTop dp un gd cn cs L ca ccd cl outer) (call (.ref 136) [.str (rd2 e port f g) ta, .str (rd1 e port f g) tb, .int (2 * k) tm]) Q E s := by
  have hk4 := hk2.le
  refine C_lev B F X N T hk hd hu (rd_len (fun x => x.2.2) h.one.1.2.2 h.one.2.2.2 p0 p1) (rd_len (fun x => x.2.1) h.one.1.2.1 h.one.2.2.1 p0 p1) (by (first | lia | omega)) (by (first | lia | omega)) (fun t h' tk' r lr F' N' => ?_)
  rw [lev21 h p0 p1 hk2 lr]
  exact hret t h' tk' F' N'
theorem C_lev02 {w : World} {loose : List Str} {mean : ExcName → Option Value} {mg mb : Str → Option Value} {dp un : Nat} {gd : Option (List Code)} {cn : Str} {cs : Scope} {ca : Addr} {ccd : Value} {cl : List (Str × Addr)} {outer : List Env} {A₀ : Around} {base h₀ : Heap} {L : Addr} {m : Str → Option Value} {s : Shared} {Q E : Value → Shared → Prop} {news : List (Addr × Obj)}
    (B : Below A₀ base outer h₀) (F : Fr h₀ L s.heap m) (X : (T49.K w.params).In h₀) (N : News h₀ L s.heap news) (T : Top T49.vw loose mean mg mb h₀) (hk : cs.kind = .function) (hd : dp + 12 < recursionLimit) (hu : un + 300 < cLine)
    {e port n k : Int} {f g : Fm} {ta tb tm : Tok} (h : F2 f g) (p0 : 0 ≤ port) (p1 : port < 100) (hn : IsN e f g pNear n) (hk2 : IsN e f g pFar k)
    (hret : ∀ (t : Tok) (h' : Heap) (tk' : Nat), Fr h₀ L h' m → News h₀ L h' news → Q (.int (n + 2 * k) t) { s with heap := h', toks := tk' }) :
    wpAny (model PySem.Challenge.rw_tp0049_01.row.prog w) (ktrTop dp un gd cn cs L ca ccd cl outer) (call (.ref 136) [.str (rd0 e port f g) ta, .str (rd2 e port f g) tb, .int (n + 2 * k) tm]) Q E s := by
  have hn4 := hn.le; have hk4 := hk2.le
  refine C_lev B F X N T hk hd hu (rd_len (fun x => x.1) h.one.1.1 h.one.2.1 p0 p1) (rd_len (fun x => x.2.2) h.one.1.2.2 h.one.2.2.2 p0 p1) (by (first | lia | omega)) (by (first | lia | omega)) (fun t h' tk' r lr F' N' => ?_)
  rw [lev02 h p0 p1 hn hk2 lr]
  exact hret t h' tk' F' N'
theorem C_lev20 {w : World} {loose : List Str} {mean : ExcName → Option Value} {mg mb : Str → Option Value} {dp un : Nat} {gd : Option (List Code)} {cn : Str} {cs : Scope} {ca : Addr} {ccd : Value} {cl : List (Str × Addr)} {outer : List Env} {A₀ : Around} {base h₀ : Heap} {L : Addr} {m : Str → Option Value} {s : Shared} {Q E : Value → Shared → Prop} {news : List (Addr × Obj)}
    (B : Below A₀ base outer h₀) (F : Fr h₀ L s.heap m) (X : (T49.K w.params).In h₀) (N : News h₀ L s.heap news) (T : Top T49.vw loose mean mg mb h₀) (hk : cs.kind = .function) (hd : dp + 12 < recursionLimit) (hu : un + 300 < cLine)
    {e port n k : Int} {f g : Fm} {ta tb tm : Tok} (h : F2 f g) (p0 : 0 ≤ port) (p1 : port < 100) (hn : IsN e f g pNear n) (hk2 : IsN e f g pFar k)
    (hret : ∀ (t : Tok) (h' : Heap) (tk' : Nat) (r : Int) (_ : n + 2 * k ≤ r), Fr h₀ L h' m → News h₀ L h' news → Q (.int r t) { s with heap := h', toks := tk' }) :
    wpAny (model PySem.Challenge.rw_tp0049_01.row.prog w) (ktrTop dp un gd cn cs L ca ccd cl outer) (call (.ref 136) [.str (rd2 e port f g) ta, .str (rd0 e port f g) tb, .int (n + 2 * k - 1) tm]) Q E s := by
  have hn4 := hn.le; have hk4 := hk2.le
  refine C_lev B F X N T hk hd hu (rd_len (fun x => x.2.2) h.one.1.2.2 h.one.2.2.2 p0 p1) (rd_len (fun x => x.1) h.one.1.1 h.one.2.1 p0 p1) (by (first | lia | omega)) (by (first | lia | omega)) (fun t h' tk' r lr F' N' => ?_)
  exact hret t h' tk' r (lev20 h p0 p1 hn hk2 lr) F' N'
theorem strOk_rd0 {f g : Fm} {e port : Int} (h : F2 f g) (p0 : 0 ≤ port) (p1 : port < 100) : PyData.strOk (rd0 e port f g) = true := by
  obtain ⟨c, d, rfl, rfl, hc⟩ := h.cds e
  rw [rd0_mk]
  exact strOk_mk p0 p1 fun i => (hc.h i i).le.1
theorem strOk_rd1 {f g : Fm} {e port : Int} (h : F2 f g) (p0 : 0 ≤ port) (p1 : port < 100) : PyData.strOk (rd1 e port f g) = true := by
  obtain ⟨c, d, rfl, rfl, hc⟩ := h.cds e
  rw [rd1_mk]
  exact strOk_mk p0 p1 fun i => (hc.h i i).le.2.1
theorem strOk_rd2 {f g : Fm} {e port : Int} (h : F2 f g) (p0 : 0 ≤ port) (p1 : port < 100) : PyData.strOk (rd2 e port f g) = true := by
  obtain ⟨c, d, rfl, rfl, hc⟩ := h.cds e
  rw [rd2_mk]
  exact strOk_mk p0 p1 fun i => (hc.h i i).le.2.2
theorem sel_F1 {f g : Fm} {c : Prop} [Decidable c] (hf : f.1.length ≤ 1 ∧ f.2.1.length ≤ 1 ∧ f.2.2.length ≤ 1) (hg : g.1.length ≤ 1 ∧ g.2.1.length ≤ 1 ∧ g.2.2.length ≤ 1) : (if c then f else g).1.length ≤ 1 ∧ (if c then f else g).2.1.length ≤ 1 ∧ (if c then f else g).2.2.length ≤ 1 := by split <;> assumption
theorem sel_mem {ao a1 : Addr} {f g : Fm} {t u v t' u' v' : Tok} {c : Prop} [Decidable c] {news : List (Addr × Obj)} (ho : (ao, listOf #[.str f.1 t, .str f.2.1 u, .str f.2.2 v] 0) ∈ news) (h1 : (a1, listOf #[.str g.1 t', .str g.2.1 u', .str g.2.2 v'] 0) ∈ news) :
    ((if c then ao else a1), listOf #[.str (if c then f else g).1 (if c then t else t'), .str (if c then f else g).2.1 (if c then u else u'), .str (if c then f else g).2.2 (if c then v else v')] 0) ∈ news := by
  split <;> assumption
structure Rd0 (e port : Int) (f g : Fm) (x : Str) : Prop where
  eq : x = rd0 e port f g
structure Rd1 (e port : Int) (f g : Fm) (x : Str) : Prop where
  eq : x = rd1 e port f g
structure Rd2 (e port : Int) (f g : Fm) (x : Str) : Prop where
  eq : x = rd2 e port f g
theorem C_rep0 {w : World} {loose : List Str} {mean : ExcName → Option Value} {mg mb : Str → Option Value} {dp un : Nat} {gd : Option (List Code)} {cn : Str} {cs : Scope} {ca : Addr} {ccd : Value} {cl : List (Str × Addr)} {outer : List Env} {A₀ : Around} {base h₀ : Heap} {L : Addr} {m : Str → Option Value} {s : Shared} {Q E : Value → Shared → Prop} {news : List (Addr × Obj)}
    (B : Below A₀ base outer h₀) (F : Fr h₀ L s.heap m) (X : (T49.K w.params).In h₀) (N : News h₀ L s.heap news) (T : Top T49.vw loose mean mg mb h₀) (hk : cs.kind = .function) (hd : dp + 12 < recursionLimit) (hu : un + 300 < cLine)
    {Dm ao a1 : Addr} {tz tp tf uf vf tg ug vg : Tok} {e port : Int} {f g : Fm} (hm : (Dm, LCg.lst [.ref (if 0 + ((0 : Nat) : Int) = e then ao else a1), .ref (if 0 + ((0 + 1 : Nat) : Int) = e then ao else a1), .ref (if 0 + ((0 + 1 + 1 : Nat) : Int) = e then ao else a1), .ref (if 0 + ((0 + 1 + 1 + 1 : Nat) : Int) = e then ao else a1)]) ∈ news) (h0 : (ao, listOf #[.str f.1 tf, .str f.2.1 uf, .str f.2.2 vf] 0) ∈ news) (h1 : (a1, listOf #[.str g.1 tg, .str g.2.1 ug, .str g.2.2 vg] 0) ∈ news) (hp0 : 0 ≤ port) (hp1 : port < 100) (h : F2 f g)
    (hret : ∀ (t : Tok) (h' : Heap) (tk' : Nat) (x : Str) (_ : Rd0 e port f g x) (_ : PyData.strOk x = true), Fr h₀ L h' m → News h₀ L h' news → Q (.str x t) { s with heap := h', toks := tk' }) :
    wpAny (model PySem.Challenge.rw_tp0049_01.row.prog w) (ktrTop dp un gd cn cs L ca ccd cl outer) (call (.ref 160) [.ref Dm, .int 0 tz, .int port tp]) Q E s := by
  have hl := h.one
  exact C_reply0 B F X N T hk hd hu hm (sel_mem h0 h1) (sel_mem h0 h1) (sel_mem h0 h1) (sel_mem h0 h1) hp0 hp1 (sel_F1 hl.1 hl.2).1 (sel_F1 hl.1 hl.2).1 (sel_F1 hl.1 hl.2).1 (sel_F1 hl.1 hl.2).1 fun t h' tk' F' N' => hret t h' tk' _ ⟨rfl⟩ (strOk_rd0 h hp0 hp1) F' N'
theorem C_rep1 {w : World} {loose : List Str} {mean : ExcName → Option Value} {mg mb : Str → Option Value} {dp un : Nat} {gd : Option (List Code)} {cn : Str} {cs : Scope} {ca : Addr} {ccd : Value} {cl : List (Str × Addr)} {outer : List Env} {A₀ : Around} {base h₀ : Heap} {L : Addr} {m : Str → Option Value} {s : Shared} {Q E : Value → Shared → Prop} {news : List (Addr × Obj)}
    (B : Below A₀ base outer h₀) (F : Fr h₀ L s.heap m) (X : (T49.K w.params).In h₀) (N : News h₀ L s.heap news) (T : Top T49.vw loose mean mg mb h₀) (hk : cs.kind = .function) (hd : dp + 12 < recursionLimit) (hu : un + 300 < cLine)
    {Dm ao a1 : Addr} {tz tp tf uf vf tg ug vg : Tok} {e port : Int} {f g : Fm} (hm : (Dm, LCg.lst [.ref (if 0 + ((0 : Nat) : Int) = e then ao else a1), .ref (if 0 + ((0 + 1 : Nat) : Int) = e then ao else a1), .ref (if 0 + ((0 + 1 + 1 : Nat) : Int) = e then ao else a1), .ref (if 0 + ((0 + 1 + 1 + 1 : Nat) : Int) = e then ao else a1)]) ∈ news) (h0 : (ao, listOf #[.str f.1 tf, .str f.2.1 uf, .str f.2.2 vf] 0) ∈ news) (h1 : (a1, listOf #[.str g.1 tg, .str g.2.1 ug, .str g.2.2 vg] 0) ∈ news) (hp0 : 0 ≤ port) (hp1 : port < 100) (h : F2 f g)
    (hret : ∀ (t : Tok) (h' : Heap) (tk' : Nat) (x : Str) (_ : Rd1 e port f g x) (_ : PyData.strOk x = true), Fr h₀ L h' m → News h₀ L h' news → Q (.str x t) { s with heap := h', toks := tk' }) :
    wpAny (model PySem.Challenge.rw_tp0049_01.row.prog w) (ktrTop dp un gd cn cs L ca ccd cl outer) (call (.ref 160) [.ref Dm, .int 1 tz, .int port tp]) Q E s := by
  have hl := h.one
  exact C_reply1 B F X N T hk hd hu hm (sel_mem h0 h1) (sel_mem h0 h1) (sel_mem h0 h1) (sel_mem h0 h1) hp0 hp1 (sel_F1 hl.1 hl.2).2.1 (sel_F1 hl.1 hl.2).2.1 (sel_F1 hl.1 hl.2).2.1 (sel_F1 hl.1 hl.2).2.1 fun t h' tk' F' N' => hret t h' tk' _ ⟨rfl⟩ (strOk_rd1 h hp0 hp1) F' N'
theorem C_rep2 {w : World} {loose : List Str} {mean : ExcName → Option Value} {mg mb : Str → Option Value} {dp un : Nat} {gd : Option (List Code)} {cn : Str} {cs : Scope} {ca : Addr} {ccd : Value} {cl : List (Str × Addr)} {outer : List Env} {A₀ : Around} {base h₀ : Heap} {L : Addr} {m : Str → Option Value} {s : Shared} {Q E : Value → Shared → Prop} {news : List (Addr × Obj)}
    (B : Below A₀ base outer h₀) (F : Fr h₀ L s.heap m) (X : (T49.K w.params).In h₀) (N : News h₀ L s.heap news) (T : Top T49.vw loose mean mg mb h₀) (hk : cs.kind = .function) (hd : dp + 12 < recursionLimit) (hu : un + 300 < cLine)
    {Dm ao a1 : Addr} {tz tp tf uf vf tg ug vg : Tok} {e port : Int} {f g : Fm} (hm : (Dm, LCg.lst [.ref (if 0 + ((0 : Nat) : Int) = e then ao else a1), .ref (if 0 + ((0 + 1 : Nat) : Int) = e then ao else a1), .ref (if 0 + ((0 + 1 + 1 : Nat) : Int) = e then ao else a1), .ref (if 0 + ((0 + 1 + 1 + 1 : Nat) : Int) = e then ao else a1)]) ∈ news) (h0 : (ao, listOf #[.str f.1 tf, .str f.2.1 uf, .str f.2.2 vf] 0) ∈ news) (h1 : (a1, listOf #[.str g.1 tg, .str g.2.1 ug, .str g.2.2 vg] 0) ∈ news) (hp0 : 0 ≤ port) (hp1 : port < 100) (h : F2 f g)
    (hret : ∀ (t : Tok) (h' : Heap) (tk' : Nat) (x : Str) (_ : Rd2 e port f g x) (_ : PyData.strOk x = true), Fr h₀ L h' m → News h₀ L h' news → Q (.str x t) { s with heap := h', toks := tk' }) :
    wpAny (model PySem.Challenge.rw_tp0049_01.row.prog w) (ktrTop dp un gd cn cs L ca ccd cl outer) (call (.ref 160) [.ref Dm, .int 2 tz, .int port tp]) Q E s := by
  have hl := h.one
  exact C_reply2 B F X N T hk hd hu hm (sel_mem h0 h1) (sel_mem h0 h1) (sel_mem h0 h1) (sel_mem h0 h1) hp0 hp1 (sel_F1 hl.1 hl.2).2.2 (sel_F1 hl.1 hl.2).2.2 (sel_F1 hl.1 hl.2).2.2 (sel_F1 hl.1 hl.2).2.2 fun t h' tk' F' N' => hret t h' tk' _ ⟨rfl⟩ (strOk_rd2 h hp0 hp1) F' N'
theorem C_prepX {w : World} {loose : List Str} {mean : ExcName → Option Value} {mg mb : Str → Option Value} {dp un : Nat} {gd : Option (List Code)} {cn : Str} {cs : Scope} {ca : Addr} {ccd : Value} {cl : List (Str × Addr)} {outer : List Env} {A₀ : Around} {base h₀ : Heap} {L : Addr} {m : Str → Option Value} {s : Shared} {Q E : Value → Shared → Prop} {news : List (Addr × Obj)}
    (B : Below A₀ base outer h₀) (F : Fr h₀ L s.heap m) (X : (T49.K w.params).In h₀) (N : News h₀ L s.heap news) (T : Top T49.vw loose mean mg mb h₀) (hk : cs.kind = .function) (hd : dp + 12 < recursionLimit) (hu : un + 300 < cLine)
    {e port : Int} {f g : Fm} {x y : Str} {tx : Tok} (hx : Rd0 e port f g x) (hy : Rd2 e port f g y) (h : F2 f g) (p0 : 0 ≤ port) (p1 : port < 100)
    (hret : ∀ (t : Tok) (h' : Heap) (tk' : Nat), Fr h₀ L h' m → News h₀ L h' news → Q (.str y t) { s with heap := h', toks := tk' }) :
    wpAny (model PySem.Challenge.rw_tp0049_01.row.prog w) (ktrTop dp un gd cn cs L ca ccd cl outer) (call (.ref 155) [.str x tx]) Q E s := by
  have hl := h.one
  have hlen : x.length ≤ 40 := by rw [hx.eq]; exact rd_len (fun x => x.1) hl.1.1 hl.2.1 p0 p1
  refine C_prep B F X N T hk hd hu (Nat.le_trans hlen (by decide)) (prep_wt (Nat.le_trans hlen (by decide))) fun t h' tk' F' N' => ?_
  rw [hx.eq, prep_road h p0 p1, ← hy.eq]
  exact hret t h' tk' F' N'
section
variable {f g : Fm} {e port p : Int} {x : Str}
theorem tellsX0 (hx : Rd0 e port f g x) (h : F2 f g) (hp : p = priceOf f g) (e0 : 0 ≤ e) (e1 : e < 4) (p0 : 0 ≤ port) (p1 : port < 100) : Tells x port (p == 0) := hx.eq ▸ tells0 h e0 e1 p0 p1 hp
theorem tellsX1 (hx : Rd1 e port f g x) (h : F2 f g) (hp : p = priceOf f g) (e0 : 0 ≤ e) (e1 : e < 4) (p0 : 0 ≤ port) (p1 : port < 100) : Tells x port (decide (p < 2)) := hx.eq ▸ tells1 h e0 e1 p0 p1 hp
theorem tellsX2 (hx : Rd2 e port f g x) (h : F2 f g) (e0 : 0 ≤ e) (e1 : e < 4) (p0 : 0 ≤ port) (p1 : port < 100) : Tells x port (f.2.2 == g.2.2) := hx.eq ▸ tells2 h e0 e1 p0 p1
end
theorem fm8 (x : Int) : (x.fmod 8).toNat < 8 := by
  have h1 := Int.fmod_nonneg_of_pos x (show (0 : Int) < 8 by decide)
  have h2 := Int.fmod_lt_of_pos x (show (0 : Int) < 8 by decide)
  omega
theorem C_lev01X {w : World} {loose : List Str} {mean : ExcName → Option Value} {mg mb : Str → Option Value} {dp un : Nat} {gd : Option (List Code)} {cn : Str} {cs : Scope} {ca : Addr} {ccd : Value} {cl : List (Str × Addr)} {outer : List Env} {A₀ : Around} {base h₀ : Heap} {L : Addr} {m : Str → Option Value} {s : Shared} {Q E : Value → Shared → Prop} {news : List (Addr × Obj)}
    (B : Below A₀ base outer h₀) (F : Fr h₀ L s.heap m) (X : (T49.K w.params).In h₀) (N : News h₀ L s.heap news) (T : Top T49.vw loose mean mg mb h₀) (hk : cs.kind = .function) (hd : dp + 12 < recursionLimit) (hu : un + 300 < cLine)
    {e port n : Int} {f g : Fm} {x y : Str} {ta tb tm : Tok} (hx : Rd0 e port f g x) (hy : Rd1 e port f g y) (h : F2 f g) (p0 : 0 ≤ port) (p1 : port < 100)
    (hn : IsN e f g pNear n)
    (hret : ∀ (t : Tok) (h' : Heap) (tk' : Nat), Fr h₀ L h' m → News h₀ L h' news → Q (.int (n) t) { s with heap := h', toks := tk' }) :
    wpAny (model PySem.Challenge.rw_tp0049_01.row.prog w) (ktrTop dp un gd cn cs L ca ccd cl outer) (call (.ref 136) [.str x ta, .str y tb, .int (n) tm]) Q E s := by
  rw [hx.eq, hy.eq]
  exact C_lev01 B F X N T hk hd hu h p0 p1 hn hret
theorem C_lev21X {w : World} {loose : List Str} {mean : ExcName → Option Value} {mg mb : Str → Option Value} {dp un : Nat} {gd : Option (List Code)} {cn : Str} {cs : Scope} {ca : Addr} {ccd : Value} {cl : List (Str × Addr)} {outer : List Env} {A₀ : Around} {base h₀ : Heap} {L : Addr} {m : Str → Option Value} {s : Shared} {Q E : Value → Shared → Prop} {news : List (Addr × Obj)}
    (B : Below A₀ base outer h₀) (F : Fr h₀ L s.heap m) (X : (T49.K w.params).In h₀) (N : News h₀ L s.heap news) (T : Top T49.vw loose mean mg mb h₀) (hk : cs.kind = .function) (hd : dp + 12 < recursionLimit) (hu : un + 300 < cLine)
    {e port k : Int} {f g : Fm} {x y : Str} {ta tb tm : Tok} (hx : Rd2 e port f g x) (hy : Rd1 e port f g y) (h : F2 f g) (p0 : 0 ≤ port) (p1 : port < 100)
    (hk2 : IsN e f g pFar k)
    (hret : ∀ (t : Tok) (h' : Heap) (tk' : Nat), Fr h₀ L h' m → News h₀ L h' news → Q (.int (2 * k) t) { s with heap := h', toks := tk' }) :
    wpAny (model PySem.Challenge.rw_tp0049_01.row.prog w) (ktrTop dp un gd cn cs L ca ccd cl outer) (call (.ref 136) [.str x ta, .str y tb, .int (2 * k) tm]) Q E s := by
  rw [hx.eq, hy.eq]
  exact C_lev21 B F X N T hk hd hu h p0 p1 hk2 hret
theorem C_lev02X {w : World} {loose : List Str} {mean : ExcName → Option Value} {mg mb : Str → Option Value} {dp un : Nat} {gd : Option (List Code)} {cn : Str} {cs : Scope} {ca : Addr} {ccd : Value} {cl : List (Str × Addr)} {outer : List Env} {A₀ : Around} {base h₀ : Heap} {L : Addr} {m : Str → Option Value} {s : Shared} {Q E : Value → Shared → Prop} {news : List (Addr × Obj)}
    (B : Below A₀ base outer h₀) (F : Fr h₀ L s.heap m) (X : (T49.K w.params).In h₀) (N : News h₀ L s.heap news) (T : Top T49.vw loose mean mg mb h₀) (hk : cs.kind = .function) (hd : dp + 12 < recursionLimit) (hu : un + 300 < cLine)
    {e port n k : Int} {f g : Fm} {x y : Str} {ta tb tm : Tok} (hx : Rd0 e port f g x) (hy : Rd2 e port f g y) (h : F2 f g) (p0 : 0 ≤ port) (p1 : port < 100)
    (hn : IsN e f g pNear n) (hk2 : IsN e f g pFar k)
    (hret : ∀ (t : Tok) (h' : Heap) (tk' : Nat), Fr h₀ L h' m → News h₀ L h' news → Q (.int (n + 2 * k) t) { s with heap := h', toks := tk' }) :
    wpAny (model PySem.Challenge.rw_tp0049_01.row.prog w) (ktrTop dp un gd cn cs L ca ccd cl outer) (call (.ref 136) [.str x ta, .str y tb, .int (n + 2 * k) tm]) Q E s := by
  rw [hx.eq, hy.eq]
  exact C_lev02 B F X N T hk hd hu h p0 p1 hn hk2 hret
theorem C_lev20X {w : World} {loose : List Str} {mean : ExcName → Option Value} {mg mb : Str → Option Value} {dp un : Nat} {gd : Option (List Code)} {cn : Str} {cs : Scope} {ca : Addr} {ccd : Value} {cl : List (Str × Addr)} {outer : List Env} {A₀ : Around} {base h₀ : Heap} {L : Addr} {m : Str → Option Value} {s : Shared} {Q E : Value → Shared → Prop} {news : List (Addr × Obj)}
    (B : Below A₀ base outer h₀) (F : Fr h₀ L s.heap m) (X : (T49.K w.params).In h₀) (N : News h₀ L s.heap news) (T : Top T49.vw loose mean mg mb h₀) (hk : cs.kind = .function) (hd : dp + 12 < recursionLimit) (hu : un + 300 < cLine)
    {e port n k : Int} {f g : Fm} {x y : Str} {ta tb tm : Tok} (hx : Rd2 e port f g x) (hy : Rd0 e port f g y) (h : F2 f g) (p0 : 0 ≤ port) (p1 : port < 100)
    (hn : IsN e f g pNear n) (hk2 : IsN e f g pFar k)
    (hret : ∀ (t : Tok) (h' : Heap) (tk' : Nat) (r : Int) (_ : n + 2 * k ≤ r), Fr h₀ L h' m → News h₀ L h' news → Q (.int r t) { s with heap := h', toks := tk' }) :
    wpAny (model PySem.Challenge.rw_tp0049_01.row.prog w) (ktrTop dp un gd cn cs L ca ccd cl outer) (call (.ref 136) [.str x ta, .str y tb, .int (n + 2 * k - 1) tm]) Q E s := by
  rw [hx.eq, hy.eq]
  exact C_lev20 B F X N T hk hd hu h p0 p1 hn hk2 hret
theorem C_costA {w : World} {loose : List Str} {mean : ExcName → Option Value} {mg mb : Str → Option Value} {dp un : Nat} {gd : Option (List Code)} {cn : Str} {cs : Scope} {ca : Addr} {ccd : Value} {cl : List (Str × Addr)} {outer : List Env} {A₀ : Around} {base h₀ : Heap} {L : Addr} {m : Str → Option Value} {s : Shared} {Q E : Value → Shared → Prop} {news : List (Addr × Obj)}
    (B : Below A₀ base outer h₀) (F : Fr h₀ L s.heap m) (X : (T49.K w.params).In h₀) (N : News h₀ L s.heap news) (T : Top T49.vw loose mean mg mb h₀) (hk : cs.kind = .function) (hd : dp + 5 < recursionLimit) (hu : un + 60 < cLine)
    {f g : Fm} {p : Int} {tx ty : Tok} (h : F2 f g) (hp : p = priceOf f g)
    (hret : ∀ (t : Tok) (h' : Heap) (tk' : Nat), Fr h₀ L h' m → News h₀ L h' news → Q (.int p t) { s with heap := h', toks := tk' }) :
    wpAny (model PySem.Challenge.rw_tp0049_01.row.prog w) (ktrTop dp un gd cn cs L ca ccd cl outer) (call (.ref 129) [.str g.1 tx, .str f.1 ty]) Q E s := by
  have hl := h.one
  refine C_cost B F X N T hk hd hu (Nat.le_trans hl.2.1 (by decide)) (Nat.le_trans hl.1.1 (by decide)) fun t h' tk' F' N' => ?_
  rw [(cost_price h).2, ← hp]
  exact hret t h' tk' F' N'
theorem C_costB {w : World} {loose : List Str} {mean : ExcName → Option Value} {mg mb : Str → Option Value} {dp un : Nat} {gd : Option (List Code)} {cn : Str} {cs : Scope} {ca : Addr} {ccd : Value} {cl : List (Str × Addr)} {outer : List Env} {A₀ : Around} {base h₀ : Heap} {L : Addr} {m : Str → Option Value} {s : Shared} {Q E : Value → Shared → Prop} {news : List (Addr × Obj)}
    (B : Below A₀ base outer h₀) (F : Fr h₀ L s.heap m) (X : (T49.K w.params).In h₀) (N : News h₀ L s.heap news) (T : Top T49.vw loose mean mg mb h₀) (hk : cs.kind = .function) (hd : dp + 5 < recursionLimit) (hu : un + 60 < cLine)
    {f g : Fm} {p : Int} {tx ty : Tok} (h : F2 f g) (hp : p = priceOf f g)
    (hret : ∀ (t : Tok) (h' : Heap) (tk' : Nat), Fr h₀ L h' m → News h₀ L h' news → Q (.int p t) { s with heap := h', toks := tk' }) :
    wpAny (model PySem.Challenge.rw_tp0049_01.row.prog w) (ktrTop dp un gd cn cs L ca ccd cl outer) (call (.ref 129) [.str f.1 tx, .str g.1 ty]) Q E s := by
  have hl := h.one
  refine C_cost B F X N T hk hd hu (Nat.le_trans hl.1.1 (by decide)) (Nat.le_trans hl.2.1 (by decide)) fun t h' tk' F' N' => ?_
  rw [(cost_price h).1, ← hp]
  exact hret t h' tk' F' N'
theorem getD_all {P : Int → Prop} {l : List Int} (h0 : P 0) (h : ∀ x ∈ l, P x) (i : Nat) : P (l.getD i 0) := by
  rw [List.getD_eq_getElem?_getD]
  cases e : l[i]? with
  | none => exact h0
  | some x => exact h x (List.mem_of_getElem? e)
noncomputable def drawnL (ns : List Int) : List Int := List.map (fun k' => k'.fmod 1000000) (List.take 3 ns) ++ List.drop ((List.take 3 ns).length : Int).toNat [10, 25, 986]
theorem drawn_b (ns : List Int) (i : Nat) : 0 ≤ (drawnL ns).getD i 0 ∧ (drawnL ns).getD i 0 < 1000000 := by
  refine getD_all (P := fun z => 0 ≤ z ∧ z < 1000000) (by decide) (fun x hx => ?_) i
  rcases List.mem_append.mp hx with hx | hx
  · obtain ⟨y, _, rfl⟩ := List.mem_map.mp hx
    exact ⟨Int.fmod_nonneg_of_pos y (by decide), Int.fmod_lt_of_pos y (by decide)⟩
  · have h2 : x ∈ [10, 25, 986] := List.mem_of_mem_drop hx
    simp at h2
    (first | lia | omega)
theorem C_forms2 {w : World} {loose : List Str} {mean : ExcName → Option Value} {mg mb : Str → Option Value} {dp un : Nat} {gd : Option (List Code)} {cn : Str} {cs : Scope} {ca : Addr} {ccd : Value} {cl : List (Str × Addr)} {outer : List Env} {A₀ : Around} {base h₀ : Heap} {L : Addr} {m : Str → Option Value} {s : Shared} {Q E : Value → Shared → Prop} {news : List (Addr × Obj)}
    (B : Below A₀ base outer h₀) (F : Fr h₀ L s.heap m) (X : (T49.K w.params).In h₀) (N : News h₀ L s.heap news) (T : Top T49.vw loose mean mg mb h₀) (hk : cs.kind = .function) (hd : dp + 12 < recursionLimit) (hu : un + 300 < cLine)
    {y : Int} {ty : Tok} (hy0 : 0 ≤ y) (hy1 : y < 1000000)
    (hret : ∀ (t : Tok) (h' : Heap) (tk' : Nat) (D a0 a1 a2 a3 a4 a5 a6 a7 : Addr) (t0 u0 v0 t1 u1 v1 t2 u2 v2 t3 u3 v3 t4 u4 v4 t5 u5 v5 t6 u6 v6 t7 u7 v7 : Tok) (_ : ∀ p ∈ news, p.1 < D) (_ : ∀ p ∈ news, p.1 < a0) (_ : ∀ p ∈ news, p.1 < a1) (_ : ∀ p ∈ news, p.1 < a2) (_ : ∀ p ∈ news, p.1 < a3) (_ : ∀ p ∈ news, p.1 < a4) (_ : ∀ p ∈ news, p.1 < a5) (_ : ∀ p ∈ news, p.1 < a6) (_ : ∀ p ∈ news, p.1 < a7) (fs : Nat → Str × Str × Str) (_ : fs = fAt y), Fr h₀ L h' m → News h₀ L h' ((D, listOf #[.ref a0, .ref a1, .ref a2, .ref a3, .ref a4, .ref a5, .ref a6, .ref a7] 0) :: (a0, fObj (fs 0) t0 u0 v0) :: (a1, fObj (fs 1) t1 u1 v1) :: (a2, fObj (fs 2) t2 u2 v2) :: (a3, fObj (fs 3) t3 u3 v3) :: (a4, fObj (fs 4) t4 u4 v4) :: (a5, fObj (fs 5) t5 u5 v5) :: (a6, fObj (fs 6) t6 u6 v6) :: (a7, fObj (fs 7) t7 u7 v7) :: news) → Q (.ref D) { s with heap := h', toks := tk' }) :
    wpAny (model PySem.Challenge.rw_tp0049_01.row.prog w) (ktrTop dp un gd cn cs L ca ccd cl outer) (call (.ref 143) [.int y ty]) Q E s := by
  exact C_forms B F X N T hk hd hu hy0 hy1 (fun t h' tk' D a0 a1 a2 a3 a4 a5 a6 a7 t0 u0 v0 t1 u1 v1 t2 u2 v2 t3 u3 v3 t4 u4 v4 t5 u5 v5 t6 u6 v6 t7 u7 v7 gD g0 g1 g2 g3 g4 g5 g6 g7 F N => hret t h' tk' D a0 a1 a2 a3 a4 a5 a6 a7 t0 u0 v0 t1 u1 v1 t2 u2 v2 t3 u3 v3 t4 u4 v4 t5 u5 v5 t6 u6 v6 t7 u7 v7 gD g0 g1 g2 g3 g4 g5 g6 g7 (fAt y) rfl F N)
noncomputable def FLt (old : List (Addr × Obj)) (a : Addr) : Prop := ∀ p ∈ old, p.1 < a
section
variable {prog : Program} {w : World} {A : Around} {E : Value → Shared → Prop} {s : Shared} {h₀ : Heap} {L D a0 a1 a2 a3 a4 a5 a6 a7 : Addr} {m₀ : Str → Option Value} {news old : List (Addr × Obj)}
theorem item_forms {value slice : Expr} {fs : Nat → Str × Str × Str} {j : Int} {tj : Tok} {t0 u0 v0 t1 u1 v1 t2 u2 v2 t3 u3 v3 t4 u4 v4 t5 u5 v5 t6 u6 v6 t7 u7 v7 : Tok} {Q : Value → Shared → Prop} (N : News h₀ L s.heap news) (hm : (D, listOf #[.ref a0, .ref a1, .ref a2, .ref a3, .ref a4, .ref a5, .ref a6, .ref a7] 0) ∈ news)
    (m0 : (a0, fObj (fs 0) t0 u0 v0) ∈ news) (l0 : FLt old a0) (m1 : (a1, fObj (fs 1) t1 u1 v1) ∈ news) (l1 : FLt old a1) (m2 : (a2, fObj (fs 2) t2 u2 v2) ∈ news) (l2 : FLt old a2) (m3 : (a3, fObj (fs 3) t3 u3 v3) ∈ news) (l3 : FLt old a3) (m4 : (a4, fObj (fs 4) t4 u4 v4) ∈ news) (l4 : FLt old a4) (m5 : (a5, fObj (fs 5) t5 u5 v5) ∈ news) (l5 : FLt old a5) (m6 : (a6, fObj (fs 6) t6 u6 v6) ∈ news) (l6 : FLt old a6) (m7 : (a7, fObj (fs 7) t7 u7 v7) ∈ news) (l7 : FLt old a7)
    (hj0 : 0 ≤ j) (hj : j < 8) (h : ∀ a t u v g, g = fs j.toNat → (a, fObj g t u v) ∈ news → FLt old a → Q (.ref a) s)
    (hs : subscripted slice false (.ref D) (.int j tj) = operate [.ref D, .int j tj] (getItem (.ref D) (.int j tj)) := by with_unfolding_all rfl) :
    wpAny (model prog w) A (subscriptTail value slice (.ref D) (.int j tj)) Q E s := by
  have hl : s.heap.IsList D #[.ref a0, .ref a1, .ref a2, .ref a3, .ref a4, .ref a5, .ref a6, .ref a7] := PySem.IsL.isList (n := 0) (N _ hm).1
  refine tail_any hl.typeIs slot_list_getitem.lookup ?_ hs
  have cases : j = 0 ∨ j = 1 ∨ j = 2 ∨ j = 3 ∨ j = 4 ∨ j = 5 ∨ j = 6 ∨ j = 7 := by (first | lia | omega)
  rcases cases with rfl | rfl | rfl | rfl | rfl | rfl | rfl | rfl
  · exact wpAny_getItem_list hl (by decide) (by decide) rfl (h a0 _ _ _ _ rfl m0 l0)
  · exact wpAny_getItem_list hl (by decide) (by decide) rfl (h a1 _ _ _ _ rfl m1 l1)
  · exact wpAny_getItem_list hl (by decide) (by decide) rfl (h a2 _ _ _ _ rfl m2 l2)
  · exact wpAny_getItem_list hl (by decide) (by decide) rfl (h a3 _ _ _ _ rfl m3 l3)
  · exact wpAny_getItem_list hl (by decide) (by decide) rfl (h a4 _ _ _ _ rfl m4 l4)
  · exact wpAny_getItem_list hl (by decide) (by decide) rfl (h a5 _ _ _ _ rfl m5 l5)
  · exact wpAny_getItem_list hl (by decide) (by decide) rfl (h a6 _ _ _ _ rfl m6 l6)
  · exact wpAny_getItem_list hl (by decide) (by decide) rfl (h a7 _ _ _ _ rfl m7 l7)
end
theorem news_consP {h₀ h : Heap} {L : Addr} {q : Addr × Obj} {l r : List (Addr × Obj)} (N : News h₀ L h l) (hm : q ∈ l) (R : News h₀ L h r) : News h₀ L h (q :: r) := by
  intro p hp
  rcases List.mem_cons.mp hp with rfl | hp
  · exact N _ hm
  · exact R p hp
noncomputable abbrev lawStored : List Str := [Str.ofString "price", Str.ofString "road", Str.ofString "reply", Str.ofString "told", Str.ofString "near", Str.ofString "far"]
noncomputable def LawEnd (h₀ : Heap) (L : Addr) (cm co : Addr) (rest : List (Addr × Obj)) (it : Addr × Obj) (m₀ : Str → Option Value) (s₁ s₂ : Shared) : Prop :=
  ∃ h' tk m' news' om oo vm vo, s₂ = { s₁ with heap := h', toks := tk } ∧ Fr h₀ L h' m' ∧ News h₀ L h' news' ∧ (∀ p ∈ (cm, om) :: (co, oo) :: rest, p ∈ news') ∧ it ∈ news' ∧ om.data = Data.cell vm ∧ oo.data = Data.cell vo ∧ ∀ z, z ≠ Str.ofString "k" → lawStored.contains z = false → m' z = m₀ z
noncomputable def LawPost (h₀ : Heap) (L : Addr) (cm co : Addr) (rest : List (Addr × Obj)) (it : Addr × Obj) (m₀ : Str → Option Value) (s₁ : Shared) (Q : Flow → Shared → Prop) (f : Flow) (s₂ : Shared) : Prop :=
  match f with
  | .ret v => Q (.ret v) s₂
  | .brk => Q .next s₂
  | _ => LawEnd h₀ L cm co rest it m₀ s₁ s₂
section
variable {prog : Program} {w : World} {A : Around} {E : Value → Shared → Prop} {s : Shared} {env : Env} {h₀ : Heap}
theorem law_range {body : List Stmt} {Q : Flow → Shared → Prop} {r : Addr} {t₀ u₀ v₀ : Tok} {m₀ : Str → Option Value} {e0 e1 e2 e3 e4 e5 e6 e7 e8 e9 e10 d0 d1 d2 d3 d4 p0 p1 p2 : Addr × Obj} {cm co : Addr} {om oo : Obj} {vm vo : Option Value} (hh : A.handled = none) (hr : IsRange s.heap r 0 8 1 t₀ u₀ v₀) (F : Fr h₀ env.locals s.heap m₀)
    (N : News h₀ env.locals s.heap (e0 :: e1 :: e2 :: e3 :: e4 :: e5 :: e6 :: e7 :: e8 :: e9 :: e10 :: d0 :: d1 :: d2 :: d3 :: d4 :: (cm, om) :: (co, oo) :: p0 :: p1 :: p2 :: [])) (hm : om.data = Data.cell vm) (ho : oo.data = Data.cell vo)
    (turn : ∀ (I : Addr) (oI : Obj) (om oo : Obj) (vm vo : Option Value) (k : Int) t (u : Str → Option Value) h tk, om.data = Data.cell vm → oo.data = Data.cell vo → 0 ≤ k → k < 8 → (∀ p ∈ (cm, om) :: (co, oo) :: e0 :: e1 :: e2 :: e3 :: e4 :: e5 :: e6 :: e7 :: e8 :: e9 :: e10 :: p0 :: p1 :: p2 :: [], p.1 < I) → Fr h₀ env.locals h (fun y => if y = Str.ofString "k" then some (.int k t) else if lawStored.contains y then u y else m₀ y) → News h₀ env.locals h ((I, oI) :: (cm, om) :: (co, oo) :: e0 :: e1 :: e2 :: e3 :: e4 :: e5 :: e6 :: e7 :: e8 :: e9 :: e10 :: p0 :: p1 :: p2 :: []) →
      wpAny (model prog w) A (execs body env) (LawPost h₀ env.locals cm co (e0 :: e1 :: e2 :: e3 :: e4 :: e5 :: e6 :: e7 :: e8 :: e9 :: e10 :: p0 :: p1 :: p2 :: []) (I, oI) m₀ { s with heap := h, toks := tk } Q) E { s with heap := h, toks := tk })
    (done : ∀ (u : Str → Option Value) h tk, Fr h₀ env.locals h u → Q .next { s with heap := h, toks := tk }) :
    wpAny (model prog w) A (pyIter (.ref r)) (fun it s₂ => LoopAtV prog w A h₀ env (Str.ofString "k") body Q E it s₂) E s := by
  refine wpAny_pyIter_range hr (by decide) ?_
  have N₀ : News h₀ env.locals s.heap ((cm, om) :: (co, oo) :: e0 :: e1 :: e2 :: e3 :: e4 :: e5 :: e6 :: e7 :: e8 :: e9 :: e10 :: p0 :: p1 :: p2 :: []) := (news_consP N (.tail _ (.tail _ (.tail _ (.tail _ (.tail _ (.tail _ (.tail _ (.tail _ (.tail _ (.tail _ (.tail _ (.tail _ (.tail _ (.tail _ (.tail _ (.tail _ (.head _))))))))))))))))) (news_consP N (.tail _ (.tail _ (.tail _ (.tail _ (.tail _ (.tail _ (.tail _ (.tail _ (.tail _ (.tail _ (.tail _ (.tail _ (.tail _ (.tail _ (.tail _ (.tail _ (.tail _ (.head _)))))))))))))))))) (news_consP N (.head _) (news_consP N (.tail _ (.head _)) (news_consP N (.tail _ (.tail _ (.head _))) (news_consP N (.tail _ (.tail _ (.tail _ (.head _)))) (news_consP N (.tail _ (.tail _ (.tail _ (.tail _ (.head _))))) (news_consP N (.tail _ (.tail _ (.tail _ (.tail _ (.tail _ (.head _)))))) (news_consP N (.tail _ (.tail _ (.tail _ (.tail _ (.tail _ (.tail _ (.head _))))))) (news_consP N (.tail _ (.tail _ (.tail _ (.tail _ (.tail _ (.tail _ (.tail _ (.head _)))))))) (news_consP N (.tail _ (.tail _ (.tail _ (.tail _ (.tail _ (.tail _ (.tail _ (.tail _ (.head _))))))))) (news_consP N (.tail _ (.tail _ (.tail _ (.tail _ (.tail _ (.tail _ (.tail _ (.tail _ (.tail _ (.head _)))))))))) (news_consP N (.tail _ (.tail _ (.tail _ (.tail _ (.tail _ (.tail _ (.tail _ (.tail _ (.tail _ (.tail _ (.head _))))))))))) (news_consP N (.tail _ (.tail _ (.tail _ (.tail _ (.tail _ (.tail _ (.tail _ (.tail _ (.tail _ (.tail _ (.tail _ (.tail _ (.tail _ (.tail _ (.tail _ (.tail _ (.tail _ (.tail _ (.head _))))))))))))))))))) (news_consP N (.tail _ (.tail _ (.tail _ (.tail _ (.tail _ (.tail _ (.tail _ (.tail _ (.tail _ (.tail _ (.tail _ (.tail _ (.tail _ (.tail _ (.tail _ (.tail _ (.tail _ (.tail _ (.tail _ (.head _)))))))))))))))))))) (news_consP N (.tail _ (.tail _ (.tail _ (.tail _ (.tail _ (.tail _ (.tail _ (.tail _ (.tail _ (.tail _ (.tail _ (.tail _ (.tail _ (.tail _ (.tail _ (.tail _ (.tail _ (.tail _ (.tail _ (.tail _ (.head _))))))))))))))))))))) (fun p hp => nomatch hp)))))))))))))))))
  have lt₀ : ∀ p ∈ (cm, om) :: (co, oo) :: e0 :: e1 :: e2 :: e3 :: e4 :: e5 :: e6 :: e7 :: e8 :: e9 :: e10 :: p0 :: p1 :: p2 :: [], p.1 < s.heap.objs.size := fun p hp => Heap.lt_size (N₀ p hp).1
  have lt : ∀ om' oo', ∀ p ∈ (cm, om') :: (co, oo') :: e0 :: e1 :: e2 :: e3 :: e4 :: e5 :: e6 :: e7 :: e8 :: e9 :: e10 :: p0 :: p1 :: p2 :: [], p.1 < s.heap.objs.size := by
    intro om' oo' p hp
    rcases List.mem_cons.mp hp with rfl | hp
    · exact lt₀ (cm, om) List.mem_cons_self
    rcases List.mem_cons.mp hp with rfl | hp
    · exact lt₀ (co, oo) (List.mem_cons_of_mem _ List.mem_cons_self)
    exact lt₀ p (List.mem_cons_of_mem _ (List.mem_cons_of_mem _ hp))
  have W : Walks prog w A s.heap.objs.size [s.heap.objs.size] [s.heap.objs.size] 8 (fun i v => i < 8 ∧ ∃ t, v = .int (0 + i * 1) t)
      (fun i h => IsRangeIter h s.heap.objs.size (0 + (i : Nat) * 1) ((8 : Nat) - (i : Nat) : Int) 1) := (Walks.range hh _ 0 1 8).bound
  have hnew := next_is_new F
  let J : Nat → (Str → Option Value) → List (Addr × Obj) → Prop := fun _ m₁ news₁ => ∃ om' oo' vm' vo', news₁ = (cm, om') :: (co, oo') :: e0 :: e1 :: e2 :: e3 :: e4 :: e5 :: e6 :: e7 :: e8 :: e9 :: e10 :: p0 :: p1 :: p2 :: [] ∧ om'.data = Data.cell vm' ∧ oo'.data = Data.cell vo' ∧ ∀ z, z ≠ Str.ofString "k" → lawStored.contains z = false → m₁ z = m₀ z
  have notI : ∀ om' oo', ∀ p ∈ (cm, om') :: (co, oo') :: e0 :: e1 :: e2 :: e3 :: e4 :: e5 :: e6 :: e7 :: e8 :: e9 :: e10 :: p0 :: p1 :: p2 :: [], p.1 ∉ [s.heap.objs.size] := fun om' oo' p hp hI => Nat.ne_of_lt (lt om' oo' p hp) (List.mem_singleton.mp hI)
  refine ⟨_, _, _, 8, _, _, m₀, _, J, rfl, W, ?_, ?_, notI om oo, (by show IsRangeIter _ _ _ _ _; simpa [Builtin.Range.rangeSize] using Heap.get?_push_size _ rfl), F.push _, (fun p hp => ⟨Heap.get?_push_of_some _ (N₀ p hp).1, (N₀ p hp).2⟩), ⟨om, oo, vm, vo, rfl, hm, ho, fun _ _ _ => rfl⟩, ?_, ?_⟩
  · intro hm
    exact absurd F.ns.lt ((List.mem_singleton.mp hm) ▸ Nat.lt_irrefl _)
  · intro b hb
    rw [List.mem_singleton.mp hb]
    exact hnew
  · rintro i v m₁ news₁ s₁ own ⟨hh', tk', rfl⟩ hin ⟨_, t, rfl⟩ ⟨om', oo', vm', vo', rfl, hm', ho', hz⟩ hoff hown hget hall hst F₁ N₁
    have hst' : hh'.get? s.heap.objs.size = some _ := hst
    have hmem := hall s.heap.objs.size (List.mem_singleton.mpr rfl) hnew _ hst'
    have N₂ := news_cons N₁ (List.mem_append_left _ hmem) (fun p hp => N₁ p (List.mem_append_right _ hp))
    have F₂ : Fr h₀ env.locals hh' (fun y => if y = Str.ofString "k" then some (.int (0 + (i : Int) * 1) t) else if lawStored.contains y then m₁ y else m₀ y) := by
      have e : (fun y => if y = Str.ofString "k" then some (Value.int (0 + (i : Int) * 1) t) else if lawStored.contains y then m₁ y else m₀ y) = fun y => if y = Str.ofString "k" then some (.int (0 + (i : Int) * 1) t) else m₁ y := by
        funext y
        by_cases hy : y = Str.ofString "k"
        · simp only [hy, if_true]
        · simp only [if_neg hy]
          cases hc : lawStored.contains y with
          | true => simp
          | false => simp only [Bool.false_eq_true, if_false]; exact (hz y hy hc).symm
      rw [e]; exact F₁
    refine wpAny_mono (turn s.heap.objs.size _ om' oo' vm' vo' (0 + (i : Int) * 1) t m₁ hh' tk' hm' ho' (by (first | lia | omega)) (by (first | lia | omega)) (lt om' oo') F₂ N₂) (fun f s₂ q => ?_) fun _ _ e => e
    have fin : ∀ oI, (s.heap.objs.size, oI) ∈ own → LawEnd h₀ env.locals cm co (e0 :: e1 :: e2 :: e3 :: e4 :: e5 :: e6 :: e7 :: e8 :: e9 :: e10 :: p0 :: p1 :: p2 :: []) (s.heap.objs.size, oI) m₀ { s with heap := hh', toks := tk' } s₂ → LoopStepU h₀ env.locals [s.heap.objs.size] own (J (i + 1)) { s with heap := hh', toks := tk' } .next s₂ := by
      rintro oI hoI ⟨h', tk, m', news', om2, oo2, vm2, vo2, rfl, F', N', hn, hit, hm2, ho2, hz2⟩
      refine ⟨rfl, h', tk, m', (cm, om2) :: (co, oo2) :: e0 :: e1 :: e2 :: e3 :: e4 :: e5 :: e6 :: e7 :: e8 :: e9 :: e10 :: p0 :: p1 :: p2 :: [], rfl, F', fun p hp => ?_, notI om2 oo2, om2, oo2, vm2, vo2, rfl, hm2, ho2, hz2⟩
      rcases List.mem_append.mp hp with hp | hp
      · have h1 : p.1 = s.heap.objs.size := List.mem_singleton.mp (hown p hp)
        have h2 : hh'.get? p.1 = some p.2 := hget p hp
        have h3 : hh'.get? s.heap.objs.size = some oI := hget _ hoI
        have h4 : p = (s.heap.objs.size, oI) := Prod.ext h1 (by rw [h1, h3] at h2; exact (Option.some.inj h2).symm)
        rw [h4]; exact N' _ hit
      · exact N' p (hn p hp)
    cases f with
    | ret v => exact q
    | brk => exact q
    | next => exact fin _ hmem q
    | cont => exact fin _ hmem q
  · intro h' tk m' news' F' _ _ _
    exact done m' h' tk F'
end
noncomputable def LoopQ (h₀ : Heap) (L : Addr) (s : Shared) (f : Flow) (s₃ : Shared) : Prop := f = .next ∧ ∃ u h tk, s₃ = { s with heap := h, toks := tk } ∧ Fr h₀ L h u
theorem law_cut {prog : Program} {w : World} {A : Around} {E : Value → Shared → Prop} {Q : Flow → Shared → Prop} {s : Shared} {h₀ : Heap} {L : Addr} {m₀ : Str → Option Value} {c : Sem Flow} (F : Fr h₀ L s.heap m₀) (w1 : wpAny (model prog w) A c (LoopQ h₀ L s) E s) (w2 : ∀ (u : Str → Option Value) h tk, Fr h₀ L h u → Q .next { s with heap := h, toks := tk }) : wpAny (model prog w) A c Q E s :=
  wpAny_mono w1 (fun fl s₃ q => by obtain ⟨rfl, u, h, tk, rfl, F⟩ := q; exact w2 u h tk F) fun _ _ e => e
structure OneIs (a : Addr) (fs : Nat → Fm) (f : Fm) : Prop where
  one : ∃ j, j < 8 ∧ f = fs j
structure OddIs (a : Addr) (fs : Nat → Fm) (f : Fm) : Prop where
  one : ∃ j, j < 8 ∧ f = fs j
theorem OneIs.of {a : Addr} {fs : Nat → Fm} {f : Fm} {j : Nat} {t u v : Tok} {news : List (Addr × Obj)} (_ : (a, fObj f t u v) ∈ news) (e : f = fs j) (hj : j < 8) : OneIs a fs f := ⟨j, hj, e⟩
theorem OddIs.of {a : Addr} {fs : Nat → Fm} {f : Fm} {j : Nat} {t u v : Tok} {news : List (Addr × Obj)} (_ : (a, fObj f t u v) ∈ news) (e : f = fs j) (hj : j < 8) : OddIs a fs f := ⟨j, hj, e⟩
theorem f2_of {y : Int} {fs : Nat → Fm} {f g : Fm} {ao a1 : Addr} (hf : fs = fAt y) (o : OddIs ao fs f) (n : OneIs a1 fs g) : F2 f g := by
  obtain ⟨i, hi, e1⟩ := o.one
  obtain ⟨j, hj, e2⟩ := n.one
  exact F2.of hf e1 e2 hi hj
noncomputable def JoinP (x : Str) (P : Int → Prop) (h₀ : Heap) (L : Addr) (m₀ : Str → Option Value) (news : List (Addr × Obj)) (s : Shared) (f : Flow) (s₃ : Shared) : Prop :=
  f = .next ∧ ∃ h tk p t, s₃ = { s with heap := h, toks := tk } ∧ Fr h₀ L h (fun y => if y = x then some (.int p t) else m₀ y) ∧ News h₀ L h news ∧ P p
section
variable {prog : Program} {w : World} {A : Around} {E : Value → Shared → Prop} {Q : Flow → Shared → Prop} {s : Shared} {env : Env} {h₀ : Heap} {L : Addr} {m₀ : Str → Option Value} {news : List (Addr × Obj)}
theorem law_price {v : Expr} {px pos : Pos} {f g : Fm} (F : Fr h₀ L s.heap m₀) (N : News h₀ L s.heap news) (_ : F2 f g)
    (w1 : wpAny (model prog w) A (exec (.Assign [.Name (Str.ofString "price") px] v pos) env) (JoinP (Str.ofString "price") (fun p => p = priceOf f g) h₀ L m₀ news s) E s)
    (w2 : ∀ p t h tk, p = priceOf f g → Fr h₀ L h (fun y => if y = Str.ofString "price" then some (.int p t) else m₀ y) → News h₀ L h news → Q .next { s with heap := h, toks := tk }) :
    wpAny (model prog w) A (exec (.Assign [.Name (Str.ofString "price") px] v pos) env) Q E s :=
  wpAny_mono w1 (fun fl s₃ q => by obtain ⟨rfl, h, tk, p, t, rfl, F, N, hP⟩ := q; exact w2 p t h tk hP F N) fun _ _ e => e
noncomputable def IfPost (b : Addr) (h₀ : Heap) (L : Addr) (m₀ : Str → Option Value) (news : List (Addr × Obj)) (s : Shared) (v : Value) (s₃ : Shared) : Prop :=
  ∃ h tk, v = .ref b ∧ s₃ = { s with heap := h, toks := tk } ∧ Fr h₀ L h m₀ ∧ News h₀ L h news
theorem law_if {test body orelse : Expr} {pos : Pos} {Q : Value → Shared → Prop} {ao a1 : Addr} {fs : Nat → Fm} {f g : Fm} {o : Obj} {y i : Int} {t ti : Tok} {m₂ : Str → Option Value} (F : Fr h₀ L s.heap m₀) (N : News h₀ L s.heap news) (_ : OddIs ao fs f) (_ : OneIs a1 fs g)
    (hp : o.data = Data.cell (some (.int ((y.fdiv 8).fmod 4) t))) (hi : m₂ (Str.ofString "i") = some (.int i ti))
    (w1 : wpAny (model prog w) A (eval (.IfExp test body orelse pos) env) (IfPost (if i = (y.fdiv 8).fmod 4 then ao else a1) h₀ L m₀ news s) E s)
    (w2 : ∀ h tk, Fr h₀ L h m₀ → News h₀ L h news → Q (.ref (if i = (y.fdiv 8).fmod 4 then ao else a1)) { s with heap := h, toks := tk }) :
    wpAny (model prog w) A (eval (.IfExp test body orelse pos) env) Q E s :=
  wpAny_mono w1 (fun v s₃ q => by obtain ⟨h, tk, rfl, rfl, F, N⟩ := q; exact w2 h tk F N) fun _ _ e => e
theorem IfPost.pos {b a1 : Addr} {c : Prop} [Decidable c] {h : Heap} {tk : Nat} (F : Fr h₀ L h m₀) (N : News h₀ L h news) (hc : c) : IfPost (if c then b else a1) h₀ L m₀ news s (.ref b) { s with heap := h, toks := tk } := ⟨h, tk, by rw [if_pos hc], rfl, F, N⟩
theorem IfPost.neg {b ao : Addr} {c : Prop} [Decidable c] {h : Heap} {tk : Nat} (F : Fr h₀ L h m₀) (N : News h₀ L h news) (hc : ¬ c) : IfPost (if c then ao else b) h₀ L m₀ news s (.ref b) { s with heap := h, toks := tk } := ⟨h, tk, by rw [if_neg hc], rfl, F, N⟩
end
noncomputable abbrev toldNames : List Str := [Str.ofString "reply", Str.ofString "told"]
noncomputable def ToldPost (h₀ : Heap) (L : Addr) (m₀ : Str → Option Value) (news : List (Addr × Obj)) (s : Shared) (f : Flow) (s₃ : Shared) : Prop :=
  f = .next ∧ ∃ h tk m', s₃ = { s with heap := h, toks := tk } ∧ Fr h₀ L h m' ∧ News h₀ L h news ∧ ∀ y, toldNames.contains y = false → m' y = m₀ y
section
variable {prog : Program} {w : World} {A : Around} {E : Value → Shared → Prop} {Q : Flow → Shared → Prop} {s : Shared} {h₀ : Heap} {L : Addr} {m₀ : Str → Option Value} {news : List (Addr × Obj)}
theorem ToldPost.intro {h : Heap} {tk : Nat} {m' : Str → Option Value} {news' : List (Addr × Obj)} (F : Fr h₀ L h m') (N : News h₀ L h news') (hn : ∀ p ∈ news, p ∈ news') (hm : ∀ y, toldNames.contains y = false → m' y = m₀ y) : ToldPost h₀ L m₀ news s .next { s with heap := h, toks := tk } :=
  ⟨rfl, h, tk, m', rfl, F, fun p hp => N p (hn p hp), hm⟩
theorem law_toldcut {c : Sem Flow} (F : Fr h₀ L s.heap m₀) (N : News h₀ L s.heap news)
    (w1 : wpAny (model prog w) A c (ToldPost h₀ L m₀ news s) E s)
    (w2 : ∀ (u : Str → Option Value) h tk, Fr h₀ L h (fun y => if toldNames.contains y then u y else m₀ y) → News h₀ L h news → Q .next { s with heap := h, toks := tk }) :
    wpAny (model prog w) A c Q E s :=
  wpAny_mono w1 (fun fl s₃ q => by
    obtain ⟨rfl, h, tk, m', rfl, F, N, hm⟩ := q
    refine w2 m' h tk ?_ N
    have e : (fun y => if toldNames.contains y then m' y else m₀ y) = m' := by
      funext y
      cases hy : toldNames.contains y with
      | true => simp
      | false => simp only [Bool.false_eq_true, if_false]; exact (hm y hy).symm
    rw [e]; exact F) fun _ _ e => e
end
theorem len_isN {prog : Program} {w : World} {A : Around} {E : Value → Shared → Prop} {s : Shared} {h₀ : Heap} {L D : Addr} {ys : List Value} {e : Int} {f g : Fm} {q : Fm → Bool} {news : List (Addr × Obj)} {Q : Value → Shared → Prop} (N : News h₀ L s.heap news) (hm : (D, LCg.lst ys) ∈ news) (hn : ys.length = cnt e f g q) (h : ∀ (n : Int) t tk, IsN e f g q n → 0 ≤ n → n ≤ 4 → Q (.int n t) { s with toks := tk }) : wpAny (model prog w) A (call (.builtin "len") [.ref D]) Q E s := by
  have hl : Heap.IsList s.heap D ys.toArray := News.isList (n := ys.length) (fun p hp => by rw [List.mem_singleton.mp hp]; exact N _ hm) List.mem_cons_self
  have hN : IsN e f g q (ys.length : Int) := by unfold IsN; rw [hn]
  refine PyProof.Rows.len_list hl ?_ ?_
  · rw [List.size_toArray]; have := hN.le; (first | lia | omega)
  · rw [List.size_toArray]; exact h _ _ _ hN hN.le.1 hN.le.2
theorem notStored {z : Str} (h : lawStored.contains z = false) : z ≠ Str.ofString "price" ∧ z ≠ Str.ofString "road" ∧ z ≠ Str.ofString "reply" ∧ z ≠ Str.ofString "told" ∧ z ≠ Str.ofString "near" ∧ z ≠ Str.ofString "far" ∧ toldNames.contains z = false := by
  refine ⟨?_, ?_, ?_, ?_, ?_, ?_, ?_⟩
  · rintro rfl; revert h; decide +kernel
  · rintro rfl; revert h; decide +kernel
  · rintro rfl; revert h; decide +kernel
  · rintro rfl; revert h; decide +kernel
  · rintro rfl; revert h; decide +kernel
  · rintro rfl; revert h; decide +kernel
  · simp only [lawStored, toldNames, List.contains_cons, Bool.or_eq_false_iff] at h ⊢
    exact ⟨h.2.2.1, h.2.2.2.1, rfl⟩
theorem LawEnd.intro {h₀ : Heap} {L : Addr} {cm co : Addr} {rest : List (Addr × Obj)} {it : Addr × Obj} {m₀ : Str → Option Value} {s₁ : Shared} {h' : Heap} {tk : Nat} {m' : Str → Option Value} {news' : List (Addr × Obj)} {om oo : Obj} {vm vo : Option Value} (F : Fr h₀ L h' m') (N : News h₀ L h' news') (h1 : (cm, om) ∈ news') (h2 : (co, oo) ∈ news') (hr : ∀ p ∈ rest, p ∈ news') (hit : it ∈ news') (hm : om.data = Data.cell vm) (ho : oo.data = Data.cell vo) (hz : ∀ z, z ≠ Str.ofString "k" → lawStored.contains z = false → m' z = m₀ z) : LawEnd h₀ L cm co rest it m₀ s₁ { s₁ with heap := h', toks := tk } := by
  refine ⟨h', tk, m', news', om, oo, vm, vo, rfl, F, N, fun p hp => ?_, hit, hm, ho, hz⟩
  rcases List.mem_cons.mp hp with rfl | hp
  · exact h1
  rcases List.mem_cons.mp hp with rfl | hp
  · exact h2
  exact hr p hp
section
open LCg
variable {prog : Program} {w : World} {A : Around} {E : Value → Shared → Prop} {s : Shared} {h₀ : Heap} {L : Addr} {m : Str → Option Value} {env : Env}
theorem rest_marks {ct elt : Expr} {x : Str} {scope : Scope} {cl : List (Str × Addr)} {S : List (Addr × Obj) → Prop} {news : List (Addr × Obj)} {Fin : List Value → List (Addr × Obj) → Prop} (q : Str × Str × Str → Bool) {e : Int} {f g : Str × Str × Str} {ao a1 : Addr} {t u v t' u' v' : Tok} (hS : S news)
    (ho : (ao, listOf #[.str f.1 t, .str f.2.1 u, .str f.2.2 v] 0) ∈ news) (h1 : (a1, listOf #[.str g.1 t', .str g.2.1 u', .str g.2.2 v'] 0) ∈ news)
    (turn : ∀ (i : Nat) a x0 x1 x2 t u wt I oI C oC D m₂ ys h tk (E' : Value → Shared → Prop), pick e f g i = (x0, x1, x2) → LCg.NsObj oC m₂ → m₂ x = some (.ref a) → Fr h₀ L h m → News h₀ L h ((a, listOf #[.str x0 t, .str x1 u, .str x2 wt] 0) :: (I, oI) :: (C, oC) :: (D, LCg.lst ys) :: news) → LCg.Off3 I C D news → ((@Ne Nat I C) ∧ (@Ne Nat I D) ∧ (@Ne Nat C D)) →
      wpAny (model prog w) A (isTrue ct (compEnvC scope cl C env) (eval ct (compEnvC scope cl C env))) (fun b s' => if b = true then wpAny (model prog w) A (eval elt (compEnvC scope cl C env)) (LCg.CompEnd h₀ L m { s with heap := h, toks := tk } I oI C oC D (LCg.lst ys) S (fun _ news' => news' = news ∧ q (pick e f g i) = true)) E' s'
        else LCg.CompEnd h₀ L m { s with heap := h, toks := tk } I oI C oC D (LCg.lst ys) S (fun _ news' => news' = news ∧ q (pick e f g i) = false) Value.none s') E' { s with heap := h, toks := tk })
    (fin : ∀ ys, ys.length = cnt e f g q → Fin ys news) : LCt.CompRestT prog w A h₀ L m env ct elt x scope cl s S (fun i v => (#[Value.ref (if 0 + ((0 : Nat) : Int) = e then ao else a1), .ref (if 0 + ((0 + 1 : Nat) : Int) = e then ao else a1), .ref (if 0 + ((0 + 1 + 1 : Nat) : Int) = e then ao else a1), .ref (if 0 + ((0 + 1 + 1 + 1 : Nat) : Int) = e then ao else a1)] : Array Value)[i]? = some v) Fin 4 0 [] news := by
  refine rest_items (its := #[Value.ref (if 0 + ((0 : Nat) : Int) = e then ao else a1), .ref (if 0 + ((0 + 1 : Nat) : Int) = e then ao else a1), .ref (if 0 + ((0 + 1 + 1 : Nat) : Int) = e then ao else a1), .ref (if 0 + ((0 + 1 + 1 + 1 : Nat) : Int) = e then ao else a1)]) (fun i => q (pick e f g i)) (MarkAt e f g news) hS (marks_hits ho h1) ?_ fin
  intro i v I oI C oC D m₂ ys h tk E' hT hC hx F N off ne
  obtain ⟨a, X0, X1, X2, t, u, wt, rfl, hm, hX⟩ := hT
  exact turn i a X0 X1 X2 t u wt I oI C oC D m₂ ys h tk E' hX hC hx F (news_cons N (.tail _ (.tail _ (.tail _ hm))) N) off ne
end
theorem ne_strs1 {prog : Program} {w : World} {A : Around} {E : Value → Shared → Prop} {s : Shared} {h₀ : Heap} {L la lb : Addr} {x : Str} {t u : Tok} {news : List (Addr × Obj)} {Q : Value → Shared → Prop} (N : News h₀ L s.heap news) (ha : (la, W.listOf #[.str x t] 0) ∈ news) (hb : (lb, W.listOf #[.str x u] 0) ∈ news) (hx : PyData.strOk x = true) (hu : A.units + 64 < cLine) (h : Q (.bool false) s) : wpAny (model prog w) A (compareOp .NotEq (.ref la) (.ref lb)) Q E s := by
  have e : PyData.eqv (.list [.str x]) (.list [.str x]) = true := by simp [PyData.eqv, PyData.eqvAll]
  refine ne_dataH (reads_list_at (News.get N ha) rfl rfl (ReadsAll.cons (Reads.str _ _) ReadsAll.nil)) (reads_list_at (News.get N hb) rfl rfl (ReadsAll.cons (Reads.str _ _) ReadsAll.nil)) ?_ ?_ hu ?_
  · simp [SeqAt.shaped, PyData.canLay0, PyData.depth, PyData.canLayAll0, PyData.depthAll, hx]
  · simp [SeqAt.shaped, PyData.canLay0, PyData.depth, PyData.canLayAll0, PyData.depthAll, hx]
  · rw [e]; exact h
theorem notTold {z : Str} (h : toldNames.contains z = false) : z ≠ Str.ofString "reply" ∧ z ≠ Str.ofString "told" := by
  refine ⟨?_, ?_⟩ <;> (rintro rfl; revert h; decide +kernel)
theorem price0 {f g : Fm} (h : (f.1 == g.1) = true) : (0 : Int) = priceOf f g := by unfold priceOf; rw [if_pos h]
theorem price1 {f g : Fm} (h : (f.1 == g.1) = false) (h2 : (f.2.1 == g.2.1) = true) : (1 : Int) = priceOf f g := by unfold priceOf; rw [if_neg (by rw [h]; decide), if_pos h2]
theorem price2 {f g : Fm} (h : (f.1 == g.1) = false) (h2 : (f.2.1 == g.2.1) = false) : (2 : Int) = priceOf f g := by unfold priceOf; rw [if_neg (by rw [h]; decide), if_neg (by rw [h2]; decide)]
noncomputable def IfCut (h₀ : Heap) (L : Addr) (m₀ : Str → Option Value) (news : List (Addr × Obj)) (s : Shared) (f : Flow) (s₃ : Shared) : Prop :=
  f = .next ∧ ∃ h tk, s₃ = { s with heap := h, toks := tk } ∧ Fr h₀ L h m₀ ∧ News h₀ L h news
section
variable {prog : Program} {w : World} {A : Around} {E : Value → Shared → Prop} {Q : Flow → Shared → Prop} {s : Shared} {h₀ : Heap} {L : Addr} {m₀ : Str → Option Value} {news : List (Addr × Obj)}
theorem IfCut.intro {h : Heap} {tk : Nat} {news' : List (Addr × Obj)} (F : Fr h₀ L h m₀) (N : News h₀ L h news') (hn : ∀ p ∈ news, p ∈ news') : IfCut h₀ L m₀ news s .next { s with heap := h, toks := tk } :=
  ⟨rfl, h, tk, rfl, F, fun p hp => N p (hn p hp)⟩
theorem law_ifcut {c : Sem Flow} (F : Fr h₀ L s.heap m₀) (N : News h₀ L s.heap news) (w1 : wpAny (model prog w) A c (IfCut h₀ L m₀ news s) E s)
    (w2 : ∀ h tk, Fr h₀ L h m₀ → News h₀ L h news → Q .next { s with heap := h, toks := tk }) : wpAny (model prog w) A c Q E s :=
  wpAny_mono w1 (fun fl s₃ q => by obtain ⟨rfl, h, tk, rfl, F, N⟩ := q; exact w2 h tk F N) fun _ _ e => e
end
theorem bne_ab {x : Str} (h : (x != x) = true) : False := by simp at h
theorem len_ints3 {prog : Program} {w : World} {A : Around} {E : Value → Shared → Prop} {s : Shared} {h₀ : Heap} {L D : Addr} {ws : List Value} {ns : List Int} {n : Nat} {news : List (Addr × Obj)} {Q : Value → Shared → Prop} (N : News h₀ L s.heap news) (hm : (D, listOf ws.toArray n) ∈ news) (hI : IntsAre ws (List.take 3 ns)) (h : Q (.int ((List.take 3 ns).length : Int) (s.toks + 1)) { s with toks := s.toks + 1 + 1 }) : wpAny (model prog w) A (call (.builtin "len") [.ref D]) Q E s := by
  have hl : Heap.IsList s.heap D ws.toArray := News.isList (n := n) (fun p hp => by rw [List.mem_singleton.mp hp]; exact N _ hm) List.mem_cons_self
  have e : ws.length = (List.take 3 ns).length := hI.length
  have e2 : (List.take 3 ns).length ≤ 3 := by rw [List.length_take]; omega
  refine PyProof.Rows.len_list hl ?_ ?_
  · rw [List.size_toArray]; omega
  · rw [List.size_toArray, e]; exact h
theorem regKC21 : (∀ P, T49.K P = T49.K P) ∧ PySem.Challenge.rw_tp0049_01 = PySem.Challenge.rw_tp0049_01 := by
  k_fill
  exact ⟨fun _ => rfl, rfl⟩
noncomputable def forK : List Stmt := match dLaw.body.getD 5 default with | .For _ _ b _ _ => b | _ => []
noncomputable def forT : List Stmt := match forK.getD 6 default with | .For _ _ b _ _ => b | _ => []
noncomputable def ifT : Stmt := forT.getD 0 default
set_option maxHeartbeats 8000000 in
theorem C_cmp {w : World} {loose : List Str} {mean : ExcName → Option Value} {mg mb : Str → Option Value} {fa : Addr} {cd : Value} {h₀ : Heap} {L : Addr} {m : Str → Option Value} {s : Shared} {E : Value → Shared → Prop} {news : List (Addr × Obj)} {x : Str} {tx tp : Tok} {port : Int} {b : Bool} {op : Obj}
    (B : Below callerA h₀ [] h₀) (X : (T49.K w.params).In h₀) (T : Top T49.vw loose mean mg mb h₀)
    (F : Fr h₀ L s.heap (fun y => if y = Str.ofString "told" then some (.bool b) else if y = Str.ofString "reply" then some (.str x tx) else m y)) (N : News h₀ L s.heap news)
    (hp : (L + 1 + 1 + 1, op) ∈ news) (hpd : op.data = Data.cell (some (.int port tp))) (H : Tells x port b) (ok : PyData.strOk x = true) :
    wpAny (model PySem.Challenge.rw_tp0049_01.row.prog w) (callerA.deeper (envOfC (Str.ofString "law") dLaw.scope L fa cd)) (exec ifT (envOfC (Str.ofString "law") dLaw.scope L fa cd))
      (IfCut h₀ L (fun y => if y = Str.ofString "told" then some (.bool b) else if y = Str.ofString "reply" then some (.str x tx) else m y) news s) E s := by
  k_with_none
  (k_with "call ref" => ((k_here; (with_reducible show wpAny _ _ (call (Value.ref 150) _) _ _ _); k_dflt (refine C_told (by k_asm) (by k_asm) (by k_asm) (by k_asm) (by k_asm) (by first | exact rfl | assumption) (by ktr_room) (by ktr_units) (by k_asm) (by k_asm) (by assumption) ?_ ?_); (all_goals (first | (intro l9 h9 tk9 t91 t92 eb9 F9 N9 g9) | (intro l9 h9 tk9 eb9 F9 N9 g9)); k_lt g9; (try dsimp only); (try k_fold)))))
  (k_with "compareOp NotEq ref ref" => ((k_here; (with_reducible show wpAny _ _ (compareOp CmpOp.NotEq (Value.ref _) (Value.ref _)) _ _ _); k_dflt (refine ne_strs1 (by k_asm) (by k_mem) (by k_mem) (by assumption) (by ke_room) ?_))))
  (k_with "IfCut" => ((k_dflt (exact IfCut.intro (by assumption) (by assumption) (by kcj_all)))))
  have N9 := news_cons N hp N
  clear N
  dsimp only [ifT, forT, forK, dLaw, List.getD, List.getElem?_cons_zero, List.getElem?_cons_succ, Option.getD]
  k_steps
local macro_rules | `(tactic| k_qdec) => `(tactic| decide +kernel)
set_option maxHeartbeats 8000000 in
theorem walk : WalkO T49.vw [Str.ofString "b1_set", Str.ofString "b3_exceptions"] (XL T49.vw []) (Hook.says (kHook T49.K T49.kAs T49.kAs_eq)) (OpenLaw.row PySem.Challenge.rw_tp0049_01).toRowW T49.dLaw [] (fun f vs => call f vs) := by
  k_with_none
  (k_with "call ref" => ((k_here; (with_reducible show wpAny _ _ (call (Value.ref 143) _) _ _ _); k_dflt (refine C_forms2 (by k_asm) (by k_asm) (by k_asm) (by k_asm) (by k_asm) (by first | exact rfl | assumption) (by ktr_room) (by ktr_units) (by exact (drawn_b _ _).1) (by exact (drawn_b _ _).2) ?_); (intro t9 h9 tk9 D9 a90 a91 a92 a93 a94 a95 a96 a97 t90 u90 v90 t91 u91 v91 t92 u92 v92 t93 u93 v93 t94 u94 v94 t95 u95 v95 t96 u96 v96 t97 u97 v97 gD g0 g1 g2 g3 g4 g5 g6 g7 fs9 hfs F9 N9; (k_lt gD); k_dflt (have f0 : FLt _ a90 := g0); (k_lt g0); k_dflt (have f1 : FLt _ a91 := g1); (k_lt g1); k_dflt (have f2 : FLt _ a92 := g2); (k_lt g2); k_dflt (have f3 : FLt _ a93 := g3); (k_lt g3); k_dflt (have f4 : FLt _ a94 := g4); (k_lt g4); k_dflt (have f5 : FLt _ a95 := g5); (k_lt g5); k_dflt (have f6 : FLt _ a96 := g6); (k_lt g6); k_dflt (have f7 : FLt _ a97 := g7); (k_lt g7); (try dsimp only); (try k_fold)))))
  (k_with "subscriptTail" => ((k_here; (with_reducible show wpAny _ _ (subscriptTail _ _ (Value.ref _) (Value.int _ _)) _ _ _); k_dflt (refine item_forms (by k_asm) (by k_mem) (by k_mem) (by assumption) (by k_mem) (by assumption) (by k_mem) (by assumption) (by k_mem) (by assumption) (by k_mem) (by assumption) (by k_mem) (by assumption) (by k_mem) (by assumption) (by k_mem) (by assumption)  (by first | exact Int.fmod_nonneg_of_pos _ (by decide) | omega) (by first | exact Int.fmod_lt_of_pos _ (by decide) | omega) ?_); (intro a9 t9 u9 v9 g9 e9 m9 l9); (rename News _ _ _ _ => N9); k_dflt (have N8 := news_cons (o := listOf #[Value.str _ _, Value.str _ _, Value.str _ _] 0) N9 m9 N9); (have mk9 := OddIs.of m9 e9 (by first | exact fm8 _ | omega)); (have f2 := f2_of (by assumption) mk9 (by assumption)); (clear N9 m9 e9); (simp only [FLt] at l9); (k_lt l9))))
  (k_with "subscriptTail" => ((k_here; (with_reducible show wpAny _ _ (subscriptTail _ _ (Value.ref _) (Value.int (Int.fmod _ 8) _)) _ _ _); k_dflt (refine item_forms (by k_asm) (by k_mem) (by k_mem) (by assumption) (by k_mem) (by assumption) (by k_mem) (by assumption) (by k_mem) (by assumption) (by k_mem) (by assumption) (by k_mem) (by assumption) (by k_mem) (by assumption) (by k_mem) (by assumption)  (by first | exact Int.fmod_nonneg_of_pos _ (by decide) | omega) (by first | exact Int.fmod_lt_of_pos _ (by decide) | omega) ?_); (intro a9 t9 u9 v9 g9 e9 m9 l9); (rename News _ _ _ _ => N9); k_dflt (have N8 := news_cons (o := listOf #[Value.str _ _, Value.str _ _, Value.str _ _] 0) N9 m9 N9); (have mk9 := OneIs.of m9 e9 (by first | exact fm8 _ | omega)); (clear N9 m9 e9); (simp only [FLt] at l9); (k_lt l9))))
  (k_with "exec For Name Call cons nil" => ((k_here; first | ((fail_if_success (with_reducible show wpAny _ _ _ (LoopQ _ _ _) _ _)); k_dflt (refine law_cut (by assumption) ?_ ?_)) | ((rename Fr _ _ _ _ => lF'); (with_unfolding_all refine' For_invVF lF' ?k1 ?k2 ?_; (case k1 => exact rfl); (case k2 => exact rfl); k_whole)))))
  (k_with "pyIter ref" => ((k_here; k_dflt (refine law_range rfl (by assumption) (by assumption) (by assumption) (by assumption) (by assumption) ?_ ?_); (all_goals (first | (intro I oI om oo vm vo k t u h tk hm ho hk0 hk8 lI F N; (k_lt lI); (try k_fold)) | (intro u h tk F; k_dflt (exact ⟨rfl, u, h, tk, rfl, F⟩)))))))
  (k_with "exec Assign cons IfExp" => ((k_here; (fail_if_success (with_reducible show wpAny _ _ _ (JoinP _ _ _ _ _ _ _) _ _)); k_dflt (refine law_price (by assumption) (by assumption) (by assumption) ?_ ?_))))
  (k_with "call ref" => ((k_here; (with_reducible show wpAny _ _ (call (Value.ref 129) _) _ _ _); k_dflt (first | (refine C_costA (by k_asm) (by k_asm) (by k_asm) (by k_asm) (by k_asm) (by first | exact rfl | assumption) (by ktr_room) (by ktr_units) (by assumption) (by assumption) ?_) | (refine C_costB (by k_asm) (by k_asm) (by k_asm) (by k_asm) (by k_asm) (by first | exact rfl | assumption) (by ktr_room) (by ktr_units) (by assumption) (by assumption) ?_)); (intro t9 h9 tk9 F9 N9; (try dsimp only); (try k_fold)))))
  (k_with "eval IfExp" => ((k_here; (with_reducible show wpAny _ _ (eval (Expr.IfExp (Expr.Compare _ _ _ _) _ _ _) _) _ _ _); (fail_if_success (with_reducible show wpAny _ _ _ (IfPost _ _ _ _ _ _) _ _)); (fail_if_success (with_reducible show wpAny _ _ _ (JoinP _ _ _ _ _ _ _) _ _)); k_dflt (refine law_if (by assumption) (by assumption) (by assumption) (by assumption) (by assumption) (by assumption) ?_ ?_))))
  (k_with "IfPost" => (first | (k_dflt (exact IfPost.pos (by assumption) (by assumption) (by first | assumption | omega))) | (k_dflt (exact IfPost.neg (by assumption) (by assumption) (by first | assumption | omega)))))
  (k_with "CompSrc" => ((k_here; k_dflt (first | (refine LCg.CompSrc.range (n := 4) rfl (by assumption) (by assumption) (by assumption) (by decide) (by decide) (by decide) ?_) | (refine LCg.CompSrc.range (n := 3) rfl (by assumption) (by assumption) (by assumption) (by decide) (by decide) (by decide) ?_)); intro _)))
  (k_with "CompRest" => ((k_here; first | (k_dflt (refine LCg.CompRest.succ ?_); (intro v I oI C oC D m₂ h tk E' hP hC hx F N off ne); (obtain ⟨t, e⟩ := hP); subst e) | (k_dflt (refine LCg.CompRest.zero ?_)))))
  (k_with "CompEnd" => ((k_here; k_dflt (refine LCg.CompEnd.intro (by assumption) (by assumption) _ (fun p hp => hp) (by first | assumption | (simp only [LCg.Off3, and_true]; assumption)) (by lcg_src) ?_))))
  (k_with "call ref" => ((k_here; (with_reducible show wpAny _ _ (call (Value.ref 160) _) _ _ _); k_dflt (first | (refine C_rep0 (by k_asm) (by k_asm) (by k_asm) (by k_asm) (by k_asm) (by first | exact rfl | assumption) (by ktr_room) (by ktr_units) (by k_mem) (by k_mem) (by k_mem) (by first | exact Int.fmod_nonneg_of_pos _ (by decide) | omega) (by first | exact Int.fmod_lt_of_pos _ (by decide) | omega) (by assumption) ?_) | (refine C_rep1 (by k_asm) (by k_asm) (by k_asm) (by k_asm) (by k_asm) (by first | exact rfl | assumption) (by ktr_room) (by ktr_units) (by k_mem) (by k_mem) (by k_mem) (by first | exact Int.fmod_nonneg_of_pos _ (by decide) | omega) (by first | exact Int.fmod_lt_of_pos _ (by decide) | omega) (by assumption) ?_) | (refine C_rep2 (by k_asm) (by k_asm) (by k_asm) (by k_asm) (by k_asm) (by first | exact rfl | assumption) (by ktr_room) (by ktr_units) (by k_mem) (by k_mem) (by k_mem) (by first | exact Int.fmod_nonneg_of_pos _ (by decide) | omega) (by first | exact Int.fmod_lt_of_pos _ (by decide) | omega) (by assumption) ?_)); (intro t9 h9 tk9 x9 hx9 ox9 F9 N9; (try dsimp only); (try k_fold)))))
  (k_with "call ref" => ((k_here; (with_reducible show wpAny _ _ (call (Value.ref 155) _) _ _ _); k_dflt (refine C_prepX (by k_asm) (by k_asm) (by k_asm) (by k_asm) (by k_asm) (by first | exact rfl | assumption) (by ktr_room) (by ktr_units) (by assumption) (by assumption) (by assumption) (by first | exact Int.fmod_nonneg_of_pos _ (by decide) | omega) (by first | exact Int.fmod_lt_of_pos _ (by decide) | omega) ?_); (intro t9 h9 tk9 F9 N9; (try dsimp only); (try k_fold)))))
  (k_with "LawPost" => ((dsimp only [LawPost])))
  (k_with "exec For Tuple List cons nil" => ((k_here; (fail_if_success (with_reducible show wpAny _ _ _ (ToldPost _ _ _ _ _) _ _)); k_dflt (refine law_toldcut (by assumption) (by assumption) ?_ ?_))))
  (k_with "call ref" => ((k_here; (with_reducible show wpAny _ _ (call (Value.ref 136) _) _ _ _); k_dflt (first | (refine C_lev01X (by k_asm) (by k_asm) (by k_asm) (by k_asm) (by k_asm) (by first | exact rfl | assumption) (by ktr_room) (by ktr_units) (by assumption) (by assumption) (by assumption) (by first | exact Int.fmod_nonneg_of_pos _ (by decide) | omega) (by first | exact Int.fmod_lt_of_pos _ (by decide) | omega) (by assumption) ?_) | (refine C_lev21X (by k_asm) (by k_asm) (by k_asm) (by k_asm) (by k_asm) (by first | exact rfl | assumption) (by ktr_room) (by ktr_units) (by assumption) (by assumption) (by assumption) (by first | exact Int.fmod_nonneg_of_pos _ (by decide) | omega) (by first | exact Int.fmod_lt_of_pos _ (by decide) | omega) (by assumption) ?_) | (refine C_lev02X (by k_asm) (by k_asm) (by k_asm) (by k_asm) (by k_asm) (by first | exact rfl | assumption) (by ktr_room) (by ktr_units) (by assumption) (by assumption) (by assumption) (by first | exact Int.fmod_nonneg_of_pos _ (by decide) | omega) (by first | exact Int.fmod_lt_of_pos _ (by decide) | omega) (by assumption) (by assumption) ?_) | (refine C_lev20X (by k_asm) (by k_asm) (by k_asm) (by k_asm) (by k_asm) (by first | exact rfl | assumption) (by ktr_room) (by ktr_units) (by assumption) (by assumption) (by assumption) (by first | exact Int.fmod_nonneg_of_pos _ (by decide) | omega) (by first | exact Int.fmod_lt_of_pos _ (by decide) | omega) (by assumption) (by assumption) ?_)); (first | (intro t9 h9 tk9 r9 hr9 F9 N9) | (intro t9 h9 tk9 F9 N9)); (try dsimp only); (try k_fold))))
  (k_with "eval ListComp" => ((k_here; (with_reducible show wpAny _ _ (eval (Expr.ListComp (Expr.Name _ _) _ _ _) _) _ _ _); lcg_calm; k_dflt (refine LCt.ListComp_T (F₀ := by k_asm) (by with_unfolding_all rfl) (by decide) (by rfl) (by decide) (by rfl) ?_))))
  (k_with "CompSrcT" => ((k_here; (with_reducible show LCt.CompSrcT _ _ _ _ _ _ _ (Expr.Compare (Expr.Subscript _ (Expr.Constant (Const.int 0) _ _) _) _ _ _) _ _ _ _ _ _ _); k_dflt (refine LCt.CompSrcT.ledger (by rfl) (by k_asm) (by k_asm) (by k_mem) (by exact Nat.le_of_ble_eq_true rfl) ?_); intro g'; k_dflt (refine rest_marks pNear (by exact Or.inr ⟨_, by k_mem, rfl, _, rfl⟩) (by k_mem) (by k_mem) ?_ ?_); (first | (intro i a x0 x1 x2 t u w I oI C oC D m₂ ys h tk E' hX hC hx F N off ne) | (intro ys hys)))))
  (k_with "CompSrcT" => ((k_here; (with_reducible show LCt.CompSrcT _ _ _ _ _ _ _ (Expr.Compare (Expr.Subscript _ (Expr.Constant (Const.int 1) _ _) _) _ _ _) _ _ _ _ _ _ _); k_dflt (refine LCt.CompSrcT.ledger (by rfl) (by k_asm) (by k_asm) (by k_mem) (by exact Nat.le_of_ble_eq_true rfl) ?_); intro g'; k_dflt (refine rest_marks pFar (by exact Or.inr ⟨_, by k_mem, rfl, _, rfl⟩) (by k_mem) (by k_mem) ?_ ?_); (first | (intro i a x0 x1 x2 t u w I oI C oC D m₂ ys h tk E' hX hC hx F N off ne) | (intro ys hys)))))
  (k_with "CompEnd" => ((k_here; k_dflt (refine LCg.CompEnd.intro (by assumption) (by assumption) _ (fun p hp => List.mem_cons_of_mem _ hp) (by assumption) (by exact Or.inr ⟨_, by k_mem, rfl, _, rfl⟩) ⟨rfl, ?_⟩); (rename pick _ _ _ _ = _ => hX9); k_dflt (rw [hX9]); first | (k_dflt assumption) | (k_dflt (simp only [pNear, pFar]); simp_all))))
  (k_with "call builtin:len" => ((k_here; k_dflt (refine len_isN (by k_asm) (by k_mem) (by assumption) ?_); intro n9 t9 tk9 hn9 hn8 hn7; (try dsimp only); (try k_fold))))
  (k_with "ToldPost" => ((k_dflt (refine ToldPost.intro (by assumption) (by assumption) (by kcj_all) ?_); intro z h2; (obtain ⟨n1, n2⟩ := notTold h2); simp only [if_neg n1, if_neg n2])))
  (k_with "JoinP" => ((k_dflt (refine ⟨rfl, _, _, _, _, rfl, by assumption, by assumption, ?_⟩); (first | (k_dflt (exact price0 (by assumption))) | (k_dflt (exact price1 (by assumption) (by assumption))) | (k_dflt (exact price2 (by assumption) (by assumption)))))))
  (k_with "call builtin:len" => ((k_here; k_dflt (refine len_ints3 (by k_asm) (by k_mem) (by assumption) ?_); (try dsimp only); (try k_fold))))
  (k_with "subscriptTail Name Slice ref ref" => ((k_here; (with_reducible show wpAny _ _ (subscriptTail _ (PySem.Expr.Slice _ none none _) (Value.ref _) (Value.ref _)) _ _ _); k_dflt (refine' kmk_slice_ints ?F ?N ?l ?p ?q ?i ?m ?c ?_ ?s ?t ?z; (case F => k_asm); (case N => k_asm); (case l => kmk_list); (case p => kmk_part); (case q => kmk_part); (case i => l_ints); (case m => exact kmk_from (by l_ints) (Int.natCast_nonneg _)); (case c => kmk_len); (case s => with_unfolding_all rfl); (case t => kmk_pure); (case z => kmk_size)); intro D' ws' h' F' N' l1 hI' hC' hL'; (try simp only [Int.reduceNeg, Int.neg_neg, Int.reduceToNat] at hI' hC' hL'); (try k_lt l1); (try k_sweep))))
  (k_with "exec If Compare cons nil" => ((k_here; (with_reducible show wpAny _ _ (exec (Stmt.If (Expr.Compare _ _ [Expr.IfExp _ _ _ _] _) _ _ _) _) _ _ _); k_dflt (first | (refine law_ifcut (by k_asm) (by k_asm) (C_cmp (by k_asm) (by k_asm) (by k_asm) (by k_asm) (by k_asm) (by k_mem) (by assumption) (tellsX0 (by assumption) (by assumption) (by assumption) (by first | exact Int.fmod_nonneg_of_pos _ (by decide) | omega) (by first | exact Int.fmod_lt_of_pos _ (by decide) | omega) (by first | exact Int.fmod_nonneg_of_pos _ (by decide) | omega) (by first | exact Int.fmod_lt_of_pos _ (by decide) | omega)) (by assumption)) ?_) | (refine law_ifcut (by k_asm) (by k_asm) (C_cmp (by k_asm) (by k_asm) (by k_asm) (by k_asm) (by k_asm) (by k_mem) (by assumption) (tellsX1 (by assumption) (by assumption) (by assumption) (by first | exact Int.fmod_nonneg_of_pos _ (by decide) | omega) (by first | exact Int.fmod_lt_of_pos _ (by decide) | omega) (by first | exact Int.fmod_nonneg_of_pos _ (by decide) | omega) (by first | exact Int.fmod_lt_of_pos _ (by decide) | omega)) (by assumption)) ?_) | (refine law_ifcut (by k_asm) (by k_asm) (C_cmp (by k_asm) (by k_asm) (by k_asm) (by k_asm) (by k_asm) (by k_mem) (by assumption) (tellsX2 (by assumption) (by assumption) (by first | exact Int.fmod_nonneg_of_pos _ (by decide) | omega) (by first | exact Int.fmod_lt_of_pos _ (by decide) | omega) (by first | exact Int.fmod_nonneg_of_pos _ (by decide) | omega) (by first | exact Int.fmod_lt_of_pos _ (by decide) | omega)) (by assumption)) ?_)); intro h9 tk9 F9 N9)))
  w_strict k_go0
  (all_goals try k_fold)
  k_steps
  all_goals first
    | ((try dsimp only [LawPost]); k_dflt (refine LawEnd.intro (by assumption) (by assumption) (by k_mem) (by k_mem) (by kcj_all) (by k_mem) (by assumption) (by assumption) ?_); intro z h1 h2; obtain ⟨n1, n2, n3, n4, n5, n6, n7⟩ := notStored h2; simp only [if_neg n1, if_neg n2, if_neg n3, if_neg n4, if_neg n5, if_neg n6, if_neg h1, h2, n7, Bool.false_eq_true, if_false])
    | (exfalso; omega)
    | (exfalso; (rename _ ≠ _ => hne); exact hne rfl)
    | (exact (bne_ab (by assumption)).elim)
end T49
theorem T49.said : PySem.Challenge.rw_tp0049_01.wellSaid = true := by
  unfold OpenLaw.wellSaid OpenRow.wellSaid OpenRow.partSaid looksOpen
  repeat' (with_reducible refine look_both ?_ ?_)
  all_goals decide +kernel
theorem T49.wit : (OpenLaw.row PySem.Challenge.rw_tp0049_01).promised := by
  k_with_none
  w_witness2
set_option maxHeartbeats 8000000 in
theorem PySem.Challenge.cw_tp0049_01_holds : PySem.Challenge.rw_tp0049_01.Holds := by
  w_on
  refine holds_law T49.said fun said => ?_
  refine holds_open (r := OpenLaw.row PySem.Challenge.rw_tp0049_01) (q := T49.vw) (loose := T49.loose) (Xt := T49.XtH) (XP := XL T49.vw []) (Yf := Hook.obs T49.H) (Ya := Hook.val T49.H) (YP := Hook.says T49.H) (N := 30000) T49.leftH (Hook.of T49.H) (Hook.keeps T49.H) (fun s e => xl_of s (Bool.and_eq_true_iff.mp e).1) XL.keeps T49.hdefL T49.hpL T49.hkL (fun s e => recFacts_of (Bool.and_eq_true_iff.mp e).2) (by rfl) (by assumption) T49.okL T49.bareL ?hw ?hc
  case hw => exact T49.wit
  exact T49.walk
