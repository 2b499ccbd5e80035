import PyProof.Rows.All
import Wide.All
import OpenK.AllK
import Wide.FinOn
import PySem.Challenge.RW_ny0220_01
set_option Elab.async false
section
open PySem PySem.W PyProof.Rows
namespace Mine
section
variable {p : Program} {w : World} {α β : Type}
abbrev go (p : Program) (w : World) (n : Nat) (s : Shared) (t : Thread) := segGo treeTable p w 11 (some (.ref 6)) 1 n s t
/-- the tree runs in n good steps from s to s' and hands on a -/
def Ex (p : Program) (w : World) (n : Nat) (m : Sem α) (s : Shared) (q : Pos) (a : α) (s' : Shared) (q' : Pos) : Prop :=
  ∀ (K : α → Sem Fin) (H : Value → Sem Fin) (gd : Bool → Bool) (lv : List Value → List Value) (c : Code) (st : List Frame) (N : Nat), st ≠ [] →
    go p w (n + N) s ⟨m.wrap K H gd lv, c, q, st⟩ = go p w N s' ⟨K a, c, q', st⟩
theorem ex_pure {a : α} {s : Shared} {q : Pos} : Ex p w 0 (pure a) s q a s q := by
  intro K H gd lv c st N hst
  rw [Nat.zero_add]; rfl
theorem ex_bind {n k : Nat} {m : Sem α} {f : α → Sem β} {s s₁ s₂ : Shared} {q q₁ q₂ : Pos} {a : α} {b : β}
    (h : Ex p w n m s q a s₁ q₁) (h' : Ex p w k (f a) s₁ q₁ b s₂ q₂) : Ex p w (n + k) (m >>= f) s q b s₂ q₂ := by
  intro K H gd lv c st N hst
  rw [Sem.bind_eq_wrap', Sem.wrap_wrap, Nat.add_assoc]
  rw [show (fun e => (Sem.raise e : Sem β).wrap K H gd lv) = H from rfl]
  exact (h _ _ _ _ c st _ hst).trans (h' K H gd lv c st N hst)
theorem ex_keep {n : Nat} {m : Sem α} {vs : List Value} {s s₁ : Shared} {q q₁ : Pos} {a : α} (h : Ex p w n m s q a s₁ q₁) : Ex p w n (m.keep vs) s q a s₁ q₁ := by
  intro K H gd lv c st N hst
  rw [Sem.keep_eq_wrap, Sem.wrap_wrap]
  exact h _ _ _ _ c st _ hst
theorem ex_hold {n : Nat} {m : Sem α} {vs : List Value} {s s₁ : Shared} {q q₁ : Pos} {a : α} (h : Ex p w n m s q a s₁ q₁) : Ex p w n (holding vs m) s q a s₁ q₁ := by
  unfold holding
  split
  · exact h
  · exact ex_keep h
theorem ex_catch {n : Nat} {m : Sem α} {g : Value → Sem α} {s s₁ : Shared} {q q₁ : Pos} {a : α} (h : Ex p w n m s q a s₁ q₁) : Ex p w n (m.tryCatch g) s q a s₁ q₁ := by
  intro K H gd lv c st N hst
  rw [Sem.tryCatch_eq_wrap, Sem.wrap_wrap]
  exact h _ _ _ _ c st _ hst
theorem ex_onRaise {n : Nat} {m : Sem α} {g : Value → Sem Unit} {s s₁ : Shared} {q q₁ : Pos} {a : α} (h : Ex p w n m s q a s₁ q₁) : Ex p w n (m.onRaise g) s q a s₁ q₁ := by
  intro K H gd lv c st N hst
  rw [Sem.onRaise_eq_wrap, Sem.wrap_wrap]
  exact h _ _ _ _ c st _ hst
theorem go_step {s s' : Shared} {t t' : Thread} {N : Nat} (he : endAt 1 t = none) (hk : stepOk 11 (some (.ref 6)) t = true) (hs : step (denote treeTable) p w s t = .go s' t') :
    go p w (1 + N) s t = go p w N s' t' := by
  rw [Nat.add_comm]
  show segGo _ _ _ _ _ _ (N + 1) s t = _
  rw [segGo, he]
  dsimp only
  rw [hk]
  dsimp only
  rw [hs]
theorem endAt_of {c : Sem Fin} {cd : Code} {q : Pos} {st : List Frame} (h : ∀ f, c ≠ .pure (.done f)) : endAt 1 ⟨c, cd, q, st⟩ = none := by
  unfold endAt
  split
  · rename_i f _ e; exact absurd e (h f)
  · rfl
theorem ex_rule {tag : String} {s : Shared} {q : Pos} : Ex p w 1 (rule tag) s q () s q := by
  intro K H gd lv c st N hst
  exact go_step (endAt_of (by intro f e; cases e)) rfl (by obtain ⟨_, _, _, _, _⟩ := s; rfl)
theorem ex_at {q' : Pos} {s : Shared} {q : Pos} : Ex p w 1 (standAt q') s q () s q' := by
  intro K H gd lv c st N hst
  exact go_step (endAt_of (by intro f e; cases e)) rfl (by obtain ⟨_, _, _, _, _⟩ := s; rfl)
theorem ex_point {s : Shared} {q : Pos} : Ex p w 1 point s q () s q := by
  intro K H gd lv c st N hst
  exact go_step (endAt_of (by intro f e; cases e)) rfl (by obtain ⟨_, _, _, _, _⟩ := s; rfl)
theorem ex_ask {s : Shared} {q : Pos} : Ex p w 1 ask s q ⟨p, w.params⟩ s q := by
  intro K H gd lv c st N hst
  exact go_step (endAt_of (by intro f e; cases e)) rfl (by obtain ⟨_, _, _, _, _⟩ := s; rfl)
theorem ex_fresh {s : Shared} {q : Pos} : Ex p w 1 fresh s q s.toks { s with toks := s.toks + 1 } q := by
  intro K H gd lv c st N hst
  exact go_step (endAt_of (by intro f e; cases e)) rfl (by obtain ⟨_, _, _, _, _⟩ := s; rfl)
theorem ex_load {a : Addr} {part : Option Value} {o : Obj} {s : Shared} {q : Pos} (h : s.heap.get? a = some o) : Ex p w 1 (loadPart a part) s q o s q := by
  intro K H gd lv c st N hst
  refine go_step (endAt_of (by intro f e; cases e)) rfl ?_
  obtain ⟨heap, _, _, _, _⟩ := s
  show step _ _ _ _ ⟨.load a part _, _, _, _⟩ = _
  have h' : heap.get? a = some o := h
  simp only [step, h']
  rfl
theorem ex_update {a : Addr} {part : Option Value} {f : Obj → Obj} {s : Shared} {q : Pos} (h : (s.heap.get? a).isSome = true) (ha : 11 ≤ a) : Ex p w 1 (updatePart a part f) s q () { s with heap := s.heap.update a f } q := by
  intro K H gd lv c st N hst
  refine go_step (endAt_of (by intro f e; cases e)) ?_ ?_
  · show (Thread.calm _ && (Nat.ble 11 a || a == mainNs || a == cStatics || _)) = true
    rw [show Nat.ble 11 a = true from Nat.ble_eq_true_of_le ha]
    rfl
  · obtain ⟨heap, _, _, _, _⟩ := s
    have h' : (heap.get? a).isSome = true := h
    show step _ _ _ _ ⟨.update a part f _, _, _, _⟩ = _
    simp only [step, h', if_true]
    rfl
theorem ex_alloc {o : Obj} {s : Shared} {q : Pos} : Ex p w 1 (alloc o) s q s.heap.objs.size { s with heap := s.heap.push o } q := by
  intro K H gd lv c st N hst
  exact go_step (endAt_of (by intro f e; cases e)) rfl (by obtain ⟨_, _, _, _, _⟩ := s; rfl)
end
end Mine
end
section
open PySem PySem.W PyProof.Rows
namespace Mine
section
variable {p : Program} {w : World} {α β : Type}
theorem look_hash : typeLookup (.type "int") "__hash__" = pure (some (.builtin "int.__hash__")) := by kernel_rfl
theorem den_call {k : Int} {t : Tok} : denote treeTable (.call (.builtin "int.__hash__") ⟨[.int k t], []⟩) = pure (.again (.builtin "int.__hash__" ⟨[.int k t], []⟩)) := by kernel_rfl
theorem den_hash {k : Int} {t : Tok} : denote treeTable (.builtin "int.__hash__" ⟨[.int k t], []⟩) = Builtin.«int.__hash__» ⟨[.int k t], []⟩ := by kernel_rfl
theorem bind_hash {k : Int} {t : Tok} : bindSpecial (.builtin "int.__hash__") (.int k t) = pure (.builtin "int.__hash__", [.int k t]) := by kernel_rfl
theorem int_hash {k : Int} {t : Tok} (h0 : 0 ≤ k) (h1 : k < 2 ^ 60) : Builtin.«int.__hash__» ⟨[.int k t], []⟩ = retInt k := by
  have e : Builtin.Int.intSlot0 "__hash__" ⟨[.int k t], []⟩ = pure (.int k t, k) := by kernel_rfl
  unfold Builtin.«int.__hash__»
  rw [e]
  have e1 : ((k.natAbs : Int) % ((2 ^ 61 - 1 : Nat) : Int)) = k := by omega
  have e2 : ¬ k < 0 := by omega
  have e3 : ((k == -1) = false) := beq_eq_false_iff_ne.mpr (by omega)
  show retInt (if ((if k < 0 then -((k.natAbs : Int) % ((2 ^ 61 - 1 : Nat) : Int)) else ((k.natAbs : Int) % ((2 ^ 61 - 1 : Nat) : Int))) == -1) = true then -2 else (if k < 0 then -((k.natAbs : Int) % ((2 ^ 61 - 1 : Nat) : Int)) else ((k.natAbs : Int) % ((2 ^ 61 - 1 : Nat) : Int)))) = _
  rw [e1, if_neg e2, e3]
  rfl
theorem ex_runHash {k : Int} {t : Tok} (h0 : 0 ≤ k) (h1 : k < 2 ^ 60) {s : Shared} {q : Pos} :
    Ex p w 4 (run (.call (.builtin "int.__hash__") ⟨[.int k t], []⟩)) s q (.ret (.int k s.toks)) { s with toks := s.toks + 1 } q := by
  intro K H gd lv c st N hst
  obtain ⟨heap, gens, drawn, toks, os⟩ := s
  have a1 : step (denote treeTable) p w ⟨heap, gens, drawn, toks, os⟩ ⟨(run (.call (.builtin "int.__hash__") ⟨[.int k t], []⟩)).wrap K H gd lv, c, q, st⟩ = .go ⟨heap, gens, drawn, toks, os⟩ ⟨denote treeTable (.call (.builtin "int.__hash__") ⟨[.int k t], []⟩), .call (.builtin "int.__hash__") ⟨[.int k t], []⟩, q, _⟩ := rfl
  rw [show 4 + N = 1 + (1 + (1 + (1 + N))) by omega]
  rw [go_step (endAt_of (by intro f e; cases e)) rfl a1, den_call]
  rw [go_step (endAt_of (by intro f e; cases e)) (by kernel_rfl) rfl, den_hash, int_hash h0 h1]
  rw [go_step (endAt_of (by intro f e; cases e)) rfl rfl]
  refine go_step ?_ rfl rfl
  cases st with
  | nil => exact absurd rfl hst
  | cons f st => rfl
theorem ex_hash {k : Int} {t : Tok} (h0 : 0 ≤ k) (h1 : k < 2 ^ 60) {s : Shared} {q : Pos} :
    Ex p w 5 (pyHash (.int k t)) s q k { s with toks := s.toks + 1 } q := by
  have hs : specialOf (.int k t) "__hash__" = pure (some (.builtin "int.__hash__")) := look_hash
  have hb : Ex p w 1 (bindSpecialIfBound? (.int k t) "__hash__") s q (some (.builtin "int.__hash__", [.int k t])) s q := by
    unfold bindSpecialIfBound?
    rw [hs]
    refine ex_bind (n := 0) (k := 1) ex_pure ?_
    dsimp only
    rw [bind_hash]
    refine ex_bind (n := 1) (k := 0) ex_ask ?_
    split
    · exact ex_pure
    · exact ex_catch ex_pure
  have hc : Ex p w (1 + (4 + 0)) (callSpecialIfBoundUnlessNone? (.int k t) "__hash__" (do rule "hash.unhashable"; raiseError "TypeError" s!"unhashable type: '{← typeNameOf (.int k t)}'")) s q (some (.int k s.toks)) { s with toks := s.toks + 1 } q := by
    unfold callSpecialIfBoundUnlessNone?
    refine ex_hold (ex_bind hb ?_)
    show Ex p w (4 + 0) (_ >>= _) _ _ _ _ _
    exact ex_bind (ex_bind (n := 4) (k := 0) (ex_runHash h0 h1) ex_pure) ex_pure
  show Ex p w 5 (pyHashByItsType (.int k t)) s q k _ q
  unfold pyHashByItsType
  rw [hs]
  refine ex_bind (n := 0) (k := 5) (a := ()) (by exact ex_pure) ?_
  refine ex_bind (n := 0) (k := 5) ex_pure ?_
  rw [if_neg (by decide)]
  refine ex_bind (n := 0) (k := 5) ex_pure ?_
  rw [if_neg (by decide)]
  refine ex_bind (n := 5) (k := 0) hc ?_
  show Ex p w 0 (pyHashByItsType.reduced k) _ _ _ _ _
  unfold pyHashByItsType.reduced
  rw [if_pos (by simp; omega), show ((k == -1) = false) from beq_eq_false_iff_ne.mpr (by omega)]
  exact ex_pure
end
end Mine
end
section
open PySem PySem.W PyProof.Rows
namespace Mine
def hp (h : Heap) (l : List Obj) : Heap := ⟨h.objs ++ l.toArray, h.life⟩
theorem hp_size (h : Heap) (l : List Obj) : (hp h l).objs.size = h.objs.size + l.length := by simp [hp]
theorem hp_push (h : Heap) (l : List Obj) (o : Obj) : (hp h l).push o = hp h (l ++ [o]) := by
  simp [hp, Heap.push, ← Array.append_push]
def dictO (es : List DictEntry) : Obj := { cls := .type "dict", data := .dict es.toArray es.length }
theorem hp_get {h : Heap} {l : List Obj} {i : Nat} {es : List DictEntry} (hi : l[i]? = some (dictO es)) : (hp h l).get? (h.objs.size + i) = some (dictO es) := by
  have e : (hp h l).objs[h.objs.size + i]? = some (dictO es) := by
    show (h.objs ++ l.toArray)[h.objs.size + i]? = _
    rw [Array.getElem?_append_right (by omega), Nat.add_sub_cancel_left, List.getElem?_toArray, hi]
  unfold Heap.get?
  rw [e]
  rfl
theorem hp_update (h : Heap) (l : List Obj) (i : Nat) (f : Obj → Obj) : (hp h l).update (h.objs.size + i) f = hp h (l.modify i f) := by
  have e : (h.objs ++ l.toArray).modify (h.objs.size + i) f = h.objs ++ (l.modify i f).toArray := by
    apply Array.ext_getElem?
    intro j
    rw [Array.getElem?_modify]
    by_cases hj : j < h.objs.size
    · rw [Array.getElem?_append_left hj, Array.getElem?_append_left hj, if_neg (by omega)]
    · rw [Array.getElem?_append_right (by omega), Array.getElem?_append_right (by omega), List.getElem?_toArray, List.getElem?_toArray, List.getElem?_modify]
      by_cases q : h.objs.size + i = j
      · have q' : i = j - h.objs.size := by omega
        rw [if_pos q]; simp [q']
      · have q' : ¬ i = j - h.objs.size := by omega
        rw [if_neg q]; simp [q']
  show Heap.mk _ _ = Heap.mk _ _
  exact congrArg (Heap.mk · h.life) e
theorem modify_set {l : List Obj} {i : Nat} {o : Obj} {f : Obj → Obj} (hi : l[i]? = some o) : l.modify i f = l.set i (f o) := by
  apply List.ext_getElem?
  intro j
  rw [List.getElem?_modify, List.getElem?_set]
  by_cases q : i = j
  · subst q
    have : i < l.length := (List.getElem?_eq_some_iff.mp hi).1
    rw [hi]
    simp [this]
  · simp [q]
section
variable {p : Program} {w : World} {α β : Type} {h : Heap} {l : List Obj} {i : Nat} {es : List DictEntry} {g : Array GenState} {d : Drawn} {tk : Nat} {os : OsState} {q : Pos}
abbrev sh (h : Heap) (l : List Obj) (g : Array GenState) (d : Drawn) (tk : Nat) (os : OsState) : Shared := ⟨hp h l, g, d, tk, os⟩
theorem ex_entries {part : Option Value} (hi : l[i]? = some (dictO es)) : Ex p w 1 (dictEntries (h.objs.size + i) part) (sh h l g d tk os) q es.toArray (sh h l g d tk os) q :=
  ex_bind (n := 1) (k := 0) (ex_load (hp_get hi)) ex_pure
theorem ex_epoch {part : Option Value} (hi : l[i]? = some (dictO es)) : Ex p w 1 (dictEpoch (h.objs.size + i) part) (sh h l g d tk os) q es.length (sh h l g d tk os) q :=
  ex_bind (n := 1) (k := 0) (ex_load (hp_get hi)) ex_pure
theorem places_none {k : Int} (hne : ∀ e ∈ es, e.hash ≠ k) : placesWithHash es.toArray.size (fun i => es.toArray[i]?.map (·.hash)) k = [] := by
  unfold placesWithHash
  rw [List.filter_eq_nil_iff]
  intro j _ hj
  have hj' : es.toArray[j]?.map (·.hash) = some k := by simpa using hj
  rw [List.getElem?_toArray] at hj'
  cases e : es[j]? with
  | none => rw [e] at hj'; cases hj'
  | some x =>
    rw [e] at hj'
    exact hne x (List.mem_of_getElem? e) (Option.some.inj hj')
theorem ex_find {k k' : Int} {t : Tok} (hi : l[i]? = some (dictO es)) (hne : ∀ e ∈ es, e.hash ≠ k) :
    Ex p w 1 (dictFind (h.objs.size + i) (.int k' t) k) (sh h l g d tk os) q none (sh h l g d tk os) q := by
  unfold dictFind
  refine ex_hold (ex_bind (n := 1) (k := 0) (ex_entries hi) ?_)
  dsimp only
  rw [places_none hne]
  exact ex_pure
theorem ex_upd {part : Option Value} {e : DictEntry} (h0 : 11 ≤ h.objs.size) (hi : l[i]? = some (dictO es)) (hz : es.length < 1000) :
    Ex p w 3 (updateDictKeys (h.objs.size + i) (·.push e) part) (sh h l g d tk os) q () (sh h (l.set i (dictO (es ++ [e]))) g d tk os) q := by
  unfold updateDictKeys
  refine ex_bind (n := 1) (k := 2) (ex_load (hp_get hi)) ?_
  dsimp only [dictO]
  refine ex_bind (n := 1) (k := 1) (ex_update (by show ((hp h l).get? _).isSome = true; rw [hp_get hi]; rfl) (Nat.le_trans h0 (Nat.le_add_right _ _))) ?_
  have e1 : (hp h l).update (h.objs.size + i) (Obj.mapDictKeys (·.push e)) = hp h (l.set i (dictO (es ++ [e]))) := by
    rw [hp_update, modify_set hi]
    unfold dictO
    simp [Obj.mapDictKeys]
  have hi' : (l.set i (dictO (es ++ [e])))[i]? = some (dictO (es ++ [e])) := by
    have : i < l.length := (List.getElem?_eq_some_iff.mp hi).1
    simp [List.getElem?_set, this]
  show Ex p w 1 (lookBehind _ _) ⟨(hp h l).update (h.objs.size + i) (Obj.mapDictKeys (·.push e)), g, d, tk, os⟩ q () _ q
  rw [e1]
  unfold lookBehind
  refine ex_bind (n := 1) (k := 0) (ex_load (hp_get hi')) ?_
  have hp0 : (dictO (es ++ [e])).data.pastItsLine = none := by
    unfold dictO Data.pastItsLine
    dsimp only
    rw [if_neg]
    rw [List.size_toArray, List.length_append, sizeLine]
    simp only [List.length_cons, List.length_nil]
    omega
  rw [hp0]
  exact ex_pure
theorem ex_set {k : Int} {t : Tok} {v : Value} (h0 : 11 ≤ h.objs.size) (hi : l[i]? = some (dictO es)) (hz : es.length < 1000) (hne : ∀ e ∈ es, e.hash ≠ k) (k0 : 0 ≤ k) (k1 : k < 2 ^ 60) :
    Ex p w 10 (dictSet (h.objs.size + i) (.int k t) v) (sh h l g d tk os) q () (sh h (l.set i (dictO (es ++ [⟨k, .int k t, v⟩]))) g d (tk + 1) os) q := by
  unfold dictSet
  refine ex_hold (ex_bind (n := 5) (k := 5) (ex_hash k0 k1) ?_)
  unfold dictSetHashed
  refine ex_hold (ex_bind (n := 1) (k := 4) (ex_find hi hne) ?_)
  exact ex_bind (n := 1) (k := 3) ex_rule (ex_upd h0 hi hz)
theorem ex_put {e : DictEntry} {k' : Int} {t : Tok} (hk : e.key = .int k' t) (h0 : 11 ≤ h.objs.size) (hi : l[i]? = some (dictO es)) (hz : es.length < 1000) (hne : ∀ x ∈ es, x.hash ≠ e.hash) :
    Ex p w 4 (dictPut (h.objs.size + i) e.hash e.key e.val) (sh h l g d tk os) q () (sh h (l.set i (dictO (es ++ [e]))) g d tk os) q := by
  unfold dictPut
  rw [hk]
  refine ex_bind (n := 1) (k := 3) (ex_find hi hne) ?_
  have : e = ⟨e.hash, .int k' t, e.val⟩ := by rw [← hk]
  rw [this]
  exact ex_upd h0 hi hz
end
end Mine
end
section
open PySem PySem.W PyProof.Rows
namespace Mine
section
variable {p : Program} {w : World} {α β : Type}
theorem ex_for0 {b : β} {f : α → β → Sem (ForInStep β)} {s : Shared} {q : Pos} : Ex p w 0 (forIn ([] : List α) b f) s q b s q := by
  rw [List.forIn_nil]; exact ex_pure
theorem ex_for1 {n k : Nat} {x : α} {r : List α} {b b' c : β} {f : α → β → Sem (ForInStep β)} {s s₁ s₂ : Shared} {q q₁ q₂ : Pos}
    (h : Ex p w n (f x b) s q (.yield b') s₁ q₁) (h' : Ex p w k (forIn r b' f) s₁ q₁ c s₂ q₂) : Ex p w (n + k) (forIn (x :: r) b f) s q c s₂ q₂ := by
  rw [List.forIn_cons]
  exact ex_bind h h'
/-- the trees of a display's pairs -/
def trees (pos : Pos) (ps : List (Int × Str)) : List (Sem Value × Sem Value) := ps.map fun x => (mkInt x.1, do let v ← mkText x.2; standAt pos; pure v)
def ents (tk : Nat) : List (Int × Str) → List DictEntry
  | [] => []
  | x :: r => ⟨x.1, .int x.1 tk, .str x.2 (tk + 1)⟩ :: ents (tk + 3) r
def ents2 (tk : Nat) : List (Int × Str) → List DictEntry
  | [] => []
  | x :: r => ⟨x.1, .int x.1 tk, .str x.2 (tk + 1)⟩ :: ents2 (tk + 2) r
def Rising : List Int → Prop
  | [] => True
  | [_] => True
  | a :: b :: r => a < b ∧ Rising (b :: r)
def After (es : List DictEntry) (ps : List (Int × Str)) : Prop := ∀ e ∈ es, ∀ x ∈ ps, e.hash ≠ x.1
def Small (ps : List (Int × Str)) : Prop := ∀ x ∈ ps, 0 ≤ x.1 ∧ x.1 < 2 ^ 60
variable {h : Heap} {l : List Obj} {i : Nat} {es : List DictEntry} {g : Array GenState} {d : Drawn} {os : OsState} {q : Pos}
theorem set_set {l : List Obj} {i : Nat} {a b : Obj} : (l.set i a).set i b = l.set i b := by simp
theorem set_get {l : List Obj} {i : Nat} {a b : Obj} (hi : l[i]? = some a) : (l.set i b)[i]? = some b := by
  have : i < l.length := (List.getElem?_eq_some_iff.mp hi).1
  simp [this]
theorem set_same {l : List Obj} {i : Nat} {a : Obj} (hi : l[i]? = some a) : l.set i a = l := by
  apply List.ext_getElem?
  intro j
  rw [List.getElem?_set]
  by_cases q : i = j
  · subst q
    have : i < l.length := (List.getElem?_eq_some_iff.mp hi).1
    rw [hi]
    simp [this]
  · simp [q]
theorem ex_long (h0 : 11 ≤ h.objs.size) : ∀ (ps : List (Int × Str)) (l : List Obj) (es : List DictEntry) (tk : Nat), l[i]? = some (dictO es) → es.length + ps.length < 1000 → After es ps → (ps.map (·.1)).Pairwise (· ≠ ·) → Small ps →
    Ex p w (13 * ps.length) (forIn (trees q ps) PUnit.unit fun x (_ : PUnit) => match x with
      | (k, v) => do
        let kv ← k
        let vv ← holding [kv] v
        holding [kv, vv] (dictSet (h.objs.size + i) kv vv)
        pure (ForInStep.yield PUnit.unit)) (sh h l g d tk os) q PUnit.unit (sh h (l.set i (dictO (es ++ ents tk ps))) g d (tk + 3 * ps.length) os) q
  | [], l, es, tk, hi, _, _, _, _ => by
    rw [show ents tk [] = [] from rfl, List.append_nil, set_same hi]
    exact ex_for0
  | x :: r, l, es, tk, hi, hz, ha, hp, hs => by
    have hx := hs x (.head _)
    have hz' : es.length + (r.length + 1) < 1000 := hz
    have e1 : 13 * (x :: r).length = 13 + 13 * r.length := by rw [List.length_cons]; omega
    have e2 : tk + 3 * (x :: r).length = (tk + 3) + 3 * r.length := by rw [List.length_cons]; omega
    have e3 : es ++ ents tk (x :: r) = (es ++ [⟨x.1, .int x.1 tk, .str x.2 (tk + 1)⟩]) ++ ents (tk + 3) r := by rw [List.append_assoc]; rfl
    rw [e1, e2, e3]
    rw [List.map_cons, List.pairwise_cons] at hp
    refine ex_for1 (n := 13) (b' := PUnit.unit) (s₁ := sh h (l.set i (dictO (es ++ [⟨x.1, .int x.1 tk, .str x.2 (tk + 1)⟩]))) g d (tk + 3) os) (q₁ := q) ?_ ?_
    · show Ex p w 13 (mkInt x.1 >>= _) _ _ _ _ _
      refine ex_bind (n := 1) (k := 12) (a := .int x.1 tk) (s₁ := sh h l g d (tk + 1) os) (q₁ := q) (ex_bind (n := 1) (k := 0) ex_fresh ex_pure) ?_
      refine ex_bind (n := 2) (k := 10) (a := .str x.2 (tk + 1)) (s₁ := sh h l g d (tk + 2) os) (q₁ := q) (ex_hold ?_) ?_
      · exact ex_bind (n := 1) (k := 1) (ex_bind (n := 1) (k := 0) ex_fresh ex_pure) (ex_bind (n := 1) (k := 0) ex_at ex_pure)
      · exact ex_bind (n := 10) (k := 0) (ex_hold (ex_set h0 hi (by omega) (fun e he => ha e he x (.head _)) hx.1 hx.2)) ex_pure
    · have := ex_long h0 r (l.set i (dictO (es ++ [⟨x.1, .int x.1 tk, .str x.2 (tk + 1)⟩]))) (es ++ [⟨x.1, .int x.1 tk, .str x.2 (tk + 1)⟩]) (tk + 3) (set_get hi) (by rw [List.length_append, List.length_cons, List.length_nil]; omega)
        (by
          intro e he y hy
          rcases List.mem_append.mp he with he | he
          · exact ha e he y (.tail _ hy)
          · rw [List.mem_singleton.mp he]
            exact hp.1 y.1 (List.mem_map_of_mem hy)) hp.2 (fun y hy => hs y (.tail _ hy))
      rw [set_set] at this
      exact this
theorem ex_pairs : ∀ (ps : List (Int × Str)) (tk : Nat), Ex p w (3 * ps.length) (evalPairs (trees q ps)) (sh h l g d tk os) q ((ents2 tk ps).map fun e => (e.key, e.val)) (sh h l g d (tk + 2 * ps.length) os) q
  | [], tk => ex_pure
  | x :: r, tk => by
    have e1 : 3 * (x :: r).length = 1 + (2 + (3 * r.length + 0)) := by rw [List.length_cons]; omega
    have e2 : tk + 2 * (x :: r).length = (tk + 2) + 2 * r.length := by rw [List.length_cons]; omega
    rw [e1, e2]
    show Ex p w _ (evalPairs ((mkInt x.1, _) :: trees q r)) _ _ _ _ _
    unfold evalPairs
    refine ex_bind (n := 1) (a := .int x.1 tk) (s₁ := sh h l g d (tk + 1) os) (q₁ := q) (ex_bind (n := 1) (k := 0) ex_fresh ex_pure) ?_
    refine ex_bind (n := 2) (a := .str x.2 (tk + 1)) (s₁ := sh h l g d (tk + 2) os) (q₁ := q) (ex_hold ?_) ?_
    · exact ex_bind (n := 1) (k := 1) (ex_bind (n := 1) (k := 0) ex_fresh ex_pure) (ex_bind (n := 1) (k := 0) ex_at ex_pure)
    · exact ex_bind (ex_hold (ex_pairs r (tk + 2))) ex_pure
theorem ents2_hash : ∀ (ps : List (Int × Str)) (tk : Nat), (ents2 tk ps).map (·.hash) = ps.map (·.1)
  | [], _ => rfl
  | x :: r, tk => by rw [ents2, List.map_cons, List.map_cons, ents2_hash r]
theorem ents_hash : ∀ (ps : List (Int × Str)) (tk : Nat), (ents tk ps).map (·.hash) = ps.map (·.1)
  | [], _ => rfl
  | x :: r, tk => by rw [ents, List.map_cons, List.map_cons, ents_hash r]
theorem ents_len : ∀ (ps : List (Int × Str)) (tk : Nat), (ents tk ps).length = ps.length
  | [], _ => rfl
  | x :: r, tk => by rw [ents, List.length_cons, List.length_cons, ents_len r]
theorem ents2_len : ∀ (ps : List (Int × Str)) (tk : Nat), (ents2 tk ps).length = ps.length
  | [], _ => rfl
  | x :: r, tk => by rw [ents2, List.length_cons, List.length_cons, ents2_len r]
def IntKey (e : DictEntry) : Prop := ∃ t, e.key = .int e.hash t
theorem ents_key : ∀ (ps : List (Int × Str)) (tk : Nat), ∀ e ∈ ents tk ps, IntKey e
  | [], _, _, he => nomatch he
  | x :: r, tk, e, he => by
    rcases List.mem_cons.mp he with rfl | he
    · exact ⟨tk, rfl⟩
    · exact ents_key r _ e he
theorem ents2_key : ∀ (ps : List (Int × Str)) (tk : Nat), ∀ e ∈ ents2 tk ps, IntKey e
  | [], _, _, he => nomatch he
  | x :: r, tk, e, he => by
    rcases List.mem_cons.mp he with rfl | he
    · exact ⟨tk, rfl⟩
    · exact ents2_key r _ e he
theorem ex_store (h0 : 11 ≤ h.objs.size) : ∀ (xs : List DictEntry) (l : List Obj) (es : List DictEntry) (tk : Nat), l[i]? = some (dictO es) → es.length + xs.length < 1000 → (∀ e ∈ es, ∀ x ∈ xs, e.hash ≠ x.hash) → (xs.map (·.hash)).Pairwise (· ≠ ·) → (∀ x ∈ xs, IntKey x ∧ 0 ≤ x.hash ∧ x.hash < 2 ^ 60) →
    Ex p w (10 * xs.length) (forIn (xs.map fun e => (e.key, e.val)) PUnit.unit fun x (_ : PUnit) => match x with
      | (k, v) => do
        dictSet (h.objs.size + i) k v
        pure (ForInStep.yield PUnit.unit)) (sh h l g d tk os) q PUnit.unit (sh h (l.set i (dictO (es ++ xs))) g d (tk + xs.length) os) q
  | [], l, es, tk, hi, _, _, _, _ => by
    rw [List.append_nil, set_same hi]
    exact ex_for0
  | x :: r, l, es, tk, hi, hz, ha, hp, hs => by
    obtain ⟨⟨t, hk⟩, k0, k1⟩ := hs x (.head _)
    have hz' : es.length + (r.length + 1) < 1000 := hz
    have e1 : 10 * (x :: r).length = 10 + 10 * r.length := by rw [List.length_cons]; omega
    have e2 : tk + (x :: r).length = (tk + 1) + r.length := by rw [List.length_cons]; omega
    have e3 : es ++ x :: r = (es ++ [x]) ++ r := by rw [List.append_assoc]; rfl
    rw [e1, e2, e3]
    rw [List.map_cons, List.pairwise_cons] at hp
    have ex : x = ⟨x.hash, .int x.hash t, x.val⟩ := by rw [← hk]
    refine ex_for1 (n := 10) (b' := PUnit.unit) (s₁ := sh h (l.set i (dictO (es ++ [x]))) g d (tk + 1) os) (q₁ := q) ?_ ?_
    · refine ex_bind (n := 10) (k := 0) (a := ()) ?_ ex_pure
      have := ex_set (p := p) (w := w) (g := g) (d := d) (tk := tk) (os := os) (q := q) (t := t) (v := x.val) h0 hi (by omega) (fun e he => ha e he x (.head _)) k0 k1
      rw [← ex] at this
      rw [← hk] at this
      exact this
    · have := ex_store h0 r (l.set i (dictO (es ++ [x]))) (es ++ [x]) (tk + 1) (set_get hi) (by rw [List.length_append, List.length_cons, List.length_nil]; omega)
        (by
          intro e he y hy
          rcases List.mem_append.mp he with he | he
          · exact ha e he y (.tail _ hy)
          · rw [List.mem_singleton.mp he]
            exact hp.1 y.hash (List.mem_map_of_mem hy)) hp.2 (fun y hy => hs y (.tail _ hy))
      rw [set_set] at this
      exact this
end
end Mine
end
section
open PySem PySem.W PyProof.Rows
namespace Mine
section
variable {p : Program} {w : World} {α β : Type} {h : Heap} {l : List Obj} {i j : Nat} {es : List DictEntry} {g : Array GenState} {d : Drawn} {os : OsState} {q : Pos} {tk : Nat}
theorem ex_new : Ex p w 1 (alloc { cls := Value.type "dict", data := Data.dict #[] }) (sh h l g d tk os) q (h.objs.size + l.length) (sh h (l ++ [dictO []]) g d tk os) q := by
  have := ex_alloc (p := p) (w := w) (o := { cls := Value.type "dict", data := Data.dict #[] }) (s := sh h l g d tk os) (q := q)
  have e : (sh h l g d tk os).heap.objs.size = h.objs.size + l.length := hp_size h l
  have e' : (sh h l g d tk os).heap.push { cls := Value.type "dict", data := Data.dict #[] } = hp h (l ++ [dictO []]) := hp_push h l _
  rw [e, e'] at this
  exact this
theorem last_get {o : Obj} : (l ++ [o])[l.length]? = some o := by simp
theorem last_set {o o' : Obj} : (l ++ [o]).set l.length o' = l ++ [o'] := by simp
theorem trees_len (ps : List (Int × Str)) : (trees q ps).length = ps.length := by simp [trees]
theorem ex_subLong {ps : List (Int × Str)} (h0 : 11 ≤ h.objs.size) (hl : 15 < ps.length) (hz : ps.length < 1000) (hp : (ps.map (·.1)).Pairwise (· ≠ ·)) (hs : Small ps) :
    Ex p w (2 + 13 * ps.length) (subDict (trees q ps)) (sh h l g d tk os) q (h.objs.size + l.length) (sh h (l ++ [dictO (ents tk ps)]) g d (tk + 3 * ps.length) os) q := by
  unfold subDict
  rw [show 2 + 13 * ps.length = 1 + (1 + 13 * ps.length) by omega]
  refine ex_bind (n := 1) ex_new ?_
  rw [trees_len, if_neg (by omega)]
  refine ex_bind (k := 0) (a := ()) (ex_hold ?_) ex_pure
  refine ex_bind (n := 1) ex_rule ?_
  have := ex_long (p := p) (w := w) (g := g) (d := d) (os := os) (q := q) (i := l.length) h0 ps (l ++ [dictO []]) [] tk last_get (by simpa using hz) (fun e he => nomatch he) hp hs
  rw [last_set] at this
  exact ex_bind (k := 0) this ex_pure
theorem ex_subShort {ps : List (Int × Str)} (h0 : 11 ≤ h.objs.size) (hl : ps.length ≤ 15) (hp : (ps.map (·.1)).Pairwise (· ≠ ·)) (hs : Small ps) :
    Ex p w (1 + 13 * ps.length) (subDict (trees q ps)) (sh h l g d tk os) q (h.objs.size + l.length) (sh h (l ++ [dictO (ents2 tk ps)]) g d (tk + 3 * ps.length) os) q := by
  unfold subDict
  rw [show 1 + 13 * ps.length = 1 + (3 * ps.length + (10 * (ents2 tk ps).length + 0)) by rw [ents2_len]; omega]
  refine ex_bind (n := 1) ex_new ?_
  rw [trees_len, if_pos hl]
  refine ex_bind (k := 0) (a := ()) (ex_hold ?_) ex_pure
  refine ex_bind (ex_pairs ps tk) (ex_hold ?_)
  have := ex_store (p := p) (w := w) (g := g) (d := d) (os := os) (q := q) (i := l.length) h0 (ents2 tk ps) (l ++ [dictO []]) [] (tk + 2 * ps.length) last_get (by rw [ents2_len]; simp; omega) (fun e he => nomatch he) (by rw [ents2_hash]; exact hp)
    (fun x hx => ⟨ents2_key ps tk x hx, by
      have : x.hash ∈ (ents2 tk ps).map (·.hash) := List.mem_map_of_mem hx
      rw [ents2_hash] at this
      obtain ⟨y, hy, e⟩ := List.mem_map.mp this
      rw [← e]
      exact hs y hy⟩)
  rw [last_set, ents2_len, show tk + 2 * ps.length + ps.length = tk + 3 * ps.length by omega] at this
  rw [← ents2_len ps tk] at this
  rw [ents2_len] at this
  exact ex_bind (k := 0) (by rw [ents2_len]; exact this) ex_pure
theorem look_iter : typeLookup (.type "dict") "__iter__" = pure (some (.builtin "dict.__iter__")) := by kernel_rfl
theorem sub_dict : isSubtype (.type "dict") (.type "dict") = pure true := by kernel_rfl
theorem range_from (n : Nat) : List.range n = List.range' 0 n := List.range_eq_range'
theorem ex_mloop (h0 : 11 ≤ h.objs.size) {sub : List DictEntry} (hij : j ≠ i) : ∀ (m a : Nat) (l : List Obj) (es : List DictEntry), a + m = sub.length → l[j]? = some (dictO es) → l[i]? = some (dictO sub) → es.length + m < 1000 →
    (∀ e ∈ es, ∀ x ∈ sub.drop a, e.hash ≠ x.hash) → ((sub.drop a).map (·.hash)).Pairwise (· ≠ ·) → (∀ x ∈ sub, IntKey x) →
    Ex p w (6 * m) (forIn (List.range' a m) PUnit.unit fun k (_ : PUnit) => do
      let es ← dictEntries (h.objs.size + i)
      match es[k]? with
        | some e => do
          holding [e.key, e.val] (dictPut (h.objs.size + j) e.hash e.key e.val)
          let n ← dictEpoch (h.objs.size + i)
          if (n != sub.length) = true then do
              unsupported "dict.changed-during-merge"
              pure (ForInStep.yield PUnit.unit)
            else pure (ForInStep.yield PUnit.unit)
        | x => do
          unsupported "dict.changed-during-merge"
          pure (ForInStep.yield PUnit.unit)) (sh h l g d tk os) q PUnit.unit (sh h (l.set j (dictO (es ++ sub.drop a))) g d tk os) q
  | 0, a, l, es, ha, hj, _, _, _, _, _ => by
    rw [List.drop_eq_nil_of_le (by omega), List.append_nil, set_same hj]
    exact ex_for0
  | m + 1, a, l, es, ha, hj, hi, hz, hne, hp, hk => by
    have hlt : a < sub.length := by omega
    have hd : sub.drop a = sub[a] :: sub.drop (a + 1) := List.drop_eq_getElem_cons hlt
    have hg : sub.toArray[a]? = some sub[a] := by simp [hlt]
    obtain ⟨t, hkey⟩ := hk sub[a] (List.getElem_mem hlt)
    rw [hd, List.map_cons, List.pairwise_cons] at hp
    rw [hd] at hne
    rw [show 6 * (m + 1) = 6 + 6 * m by omega, List.range'_succ]
    have hi' : (l.set j (dictO (es ++ [sub[a]])))[i]? = some (dictO sub) := by rw [List.getElem?_set_ne hij]; exact hi
    refine ex_for1 (n := 6) (b' := PUnit.unit) (s₁ := sh h (l.set j (dictO (es ++ [sub[a]]))) g d tk os) (q₁ := q) ?_ ?_
    · refine ex_bind (n := 1) (k := 5) (ex_entries hi) ?_
      rw [hg]
      refine ex_bind (n := 4) (k := 1) (ex_hold (ex_put hkey h0 hj (by omega) (fun e he => hne e he _ (.head _)))) ?_
      refine ex_bind (n := 1) (k := 0) (ex_epoch hi') ?_
      rw [if_neg (by simp)]
      exact ex_pure
    · have := ex_mloop h0 hij m (a + 1) (l.set j (dictO (es ++ [sub[a]]))) (es ++ [sub[a]]) (by omega) (set_get hj) hi' (by rw [List.length_append, List.length_cons, List.length_nil]; omega)
        (by
          intro e he y hy
          rcases List.mem_append.mp he with he | he
          · exact hne e he y (.tail _ hy)
          · rw [List.mem_singleton.mp he]
            exact hp.1 _ (List.mem_map_of_mem hy)) hp.2 hk
      rw [set_set, List.append_assoc] at this
      rw [hd]
      exact this
theorem ex_merge (h0 : 11 ≤ h.objs.size) {sub : List DictEntry} (hij : j ≠ i) (hj : l[j]? = some (dictO es)) (hi : l[i]? = some (dictO sub)) (he : es ≠ []) (hz : es.length + sub.length < 1000) (hne : ∀ e ∈ es, ∀ x ∈ sub, e.hash ≠ x.hash) (hp : (sub.map (·.hash)).Pairwise (· ≠ ·)) (hk : ∀ x ∈ sub, IntKey x) :
    Ex p w (5 + 6 * sub.length) (mergeMapping (h.objs.size + j) (.ref (h.objs.size + i)) false) (sh h l g d tk os) q () (sh h (l.set j (dictO (es ++ sub))) g d tk os) q := by
  unfold mergeMapping
  have ht : ∀ s', s' = sh h l g d tk os → Ex p w 1 (typeOf (.ref (h.objs.size + i))) s' q (.type "dict") s' q := fun s' e => by
    subst e
    exact ex_bind (n := 1) (k := 0) (ex_load (hp_get hi)) ex_pure
  rw [show 5 + 6 * sub.length = 1 + (1 + (1 + (1 + (1 + 6 * sub.length)))) by omega]
  refine ex_bind (n := 1) (a := true) (s₁ := sh h l g d tk os) (q₁ := q) (ex_bind (n := 1) (k := 0) (ht _ rfl) (by rw [sub_dict]; exact ex_pure)) ?_
  rw [if_pos rfl]
  refine ex_bind (n := 1) (a := some (.builtin "dict.__iter__")) (s₁ := sh h l g d tk os) (q₁ := q) (ex_bind (n := 1) (k := 0) (ht _ rfl) (by rw [look_iter]; exact ex_pure)) ?_
  · rw [← Nat.zero_add (1 + _)]
    refine ex_bind (n := 0) (a := true) ex_pure ?_
    dsimp only
    rw [if_neg (by
      intro e
      have := beq_iff_eq.mp e
      have e1 : (h.objs.size + i : Nat) = 1 := this
      omega)]
    refine ex_bind (n := 1) (ex_entries hj) ?_
    rw [if_neg (by
      cases es with
      | nil => exact absurd rfl he
      | cons => simp)]
    refine ex_bind (n := 1) (ex_entries hi) ?_
    refine ex_bind (n := 1) (ex_epoch hi) ?_
    rw [List.size_toArray, range_from]
    have := ex_mloop (p := p) (w := w) (g := g) (d := d) (os := os) (q := q) (tk := tk) h0 hij sub.length 0 l es (by omega) hj hi hz (by simpa using hne) (by simpa using hp) hk
    rw [List.drop_zero] at this
    exact ex_bind (k := 0) this ex_pure
end
end Mine
end
section
open PySem PySem.W PyProof.Rows
namespace Mine
abbrev Tr := Sem Value × Sem Value
def flushD (run : List Tr) (main : Option Addr) : Sem (Option Addr) :=
  if run.isEmpty = true then pure main
  else match main with
    | none => do
      let d ← subDict run
      pure (some d)
    | some d => do
      let sub ← holding [Value.ref d] (subDict run)
      (holding [Value.ref d, Value.ref sub] (mergeMapping d (Value.ref sub) false)).onRaise fun x => do
        let _ ← holding [Value.ref d, x] (runValue (Code.builtin "proto.let_go" { }))
        pure ()
      pure (some d)
/-- the display's own loop body -/
def bodyD : Option (Sem Value) × Sem Value → Option Addr × List Tr → Sem (ForInStep (Option Addr × List Tr)) := fun x st =>
  match x with
  | (k, v) => match k with
    | some k => if ((st.2 ++ [(k, v)]).length == 17) = true then do
          let main ← flushD (st.2 ++ [(k, v)]) st.1
          pure (ForInStep.yield (main, []))
        else pure (ForInStep.yield (st.1, st.2 ++ [(k, v)]))
    | none => do
      let main ← flushD st.2 st.1
      let jp : Addr → Sem (ForInStep (Option Addr × List Tr)) := fun d => do
        let m ← holding [Value.ref d] v
        (((holding [Value.ref d, m] (mergeMapping d m false)).onRaise fun x => do
          let _ ← holding [Value.ref d, m, x] (runValue (Code.builtin "proto.let_go" { }))
          pure ()).tryCatch fun e => do
            let b ← isInstance e (Value.type "AttributeError")
            let jp : Unit → Sem Unit := fun _ => throw e
            if b = true then do
                rule "dict.display.not-a-mapping"
                let t ← PySem.typeNameOf m
                let r ← raiseErrorMade "TypeError" (toString "'" ++ toString t ++ toString "' object is not a mapping")
                jp r
              else jp ()).onRaise fun x => do
          let _ ← holding [Value.ref d, x] (runValue (Code.builtin "proto.let_go" { }))
          pure ()
        pure (ForInStep.yield (some d, []))
      match main with
        | some d => do
          let d ← pure d
          jp d
        | none => do
          let d ← alloc { cls := Value.type "dict", data := Data.dict #[] }
          jp d
theorem display_is (items : List (Option (Sem Value) × Sem Value)) : dictDisplay items = (do
    let st ← forIn items ((none : Option Addr), ([] : List Tr)) bodyD
    let m ← flushD st.2 st.1
    match m with
      | some d => pure (Value.ref d)
      | none => newDict) := rfl
def items (pos : Pos) (ps : List (Int × Str)) : List (Option (Sem Value) × Sem Value) := (trees pos ps).map fun x => (some x.1, x.2)
section
variable {p : Program} {w : World} {α β : Type} {h : Heap} {l : List Obj} {i j : Nat} {es : List DictEntry} {g : Array GenState} {d : Drawn} {os : OsState} {q : Pos} {tk : Nat}
theorem trees_app (a b : List (Int × Str)) : trees q (a ++ b) = trees q a ++ trees q b := by simp [trees]
theorem items_cons (x : Int × Str) (r : List (Int × Str)) : items q (x :: r) = (some (mkInt x.1), do let v ← mkText x.2; standAt q; pure v) :: items q r := rfl
theorem ex_gather {rest : List (Option (Sem Value) × Sem Value)} {main m : Option Addr} {n k : Nat} {s s₁ s₂ : Shared} {q' q₁ q₂ : Pos} {r : Option Addr × List Tr} : ∀ (suf pre : List (Int × Str)), suf ≠ [] → pre.length + suf.length = 17 →
    Ex p w n (flushD (trees q (pre ++ suf)) main) s q' m s₁ q₁ → Ex p w k (forIn rest (m, []) bodyD) s₁ q₁ r s₂ q₂ →
    Ex p w (n + k) (forIn (items q suf ++ rest) (main, trees q pre) bodyD) s q' r s₂ q₂
  | [], _, h, _, _, _ => absurd rfl h
  | [x], pre, _, hl, h1, h2 => by
    rw [items_cons, List.cons_append]
    refine ex_for1 (b' := (m, [])) ?_ h2
    unfold bodyD
    dsimp only
    have e : trees q pre ++ [(mkInt x.1, (do let v ← mkText x.2; standAt q; pure v : Sem Value))] = trees q (pre ++ [x]) := by rw [trees_app]; rfl
    rw [e, if_pos (by
      rw [beq_iff_eq, trees_len, List.length_append]; exact hl)]
    exact ex_bind (k := 0) h1 ex_pure
  | x :: y :: t, pre, _, hl, h1, h2 => by
    rw [items_cons, List.cons_append]
    rw [← Nat.zero_add (n + k)]
    have e : trees q pre ++ [(mkInt x.1, (do let v ← mkText x.2; standAt q; pure v : Sem Value))] = trees q (pre ++ [x]) := by rw [trees_app]; rfl
    refine ex_for1 (n := 0) (b' := (main, trees q (pre ++ [x]))) ?_ (ex_gather (y :: t) (pre ++ [x]) (by simp) (by simp only [List.length_append, List.length_cons, List.length_nil] at hl ⊢; omega) (by rw [List.append_assoc]; exact h1) h2)
    unfold bodyD
    dsimp only
    rw [e, if_neg (by
      rw [beq_iff_eq, trees_len, List.length_append]
      simp only [List.length_cons, List.length_nil] at hl ⊢
      omega)]
    exact ex_pure
theorem ex_last {main : Option Addr} {s : Shared} {q' : Pos} : ∀ (suf pre : List (Int × Str)), pre.length + suf.length < 17 →
    Ex p w 0 (forIn (items q suf) (main, trees q pre) bodyD) s q' (main, trees q (pre ++ suf)) s q'
  | [], pre, _ => by rw [List.append_nil]; exact ex_for0
  | x :: t, pre, hl => by
    rw [items_cons]
    have e : trees q pre ++ [(mkInt x.1, (do let v ← mkText x.2; standAt q; pure v : Sem Value))] = trees q (pre ++ [x]) := by rw [trees_app]; rfl
    have ih := ex_last (main := main) (s := s) (q' := q') t (pre ++ [x]) (by simp only [List.length_append, List.length_cons, List.length_nil] at hl ⊢; omega)
    rw [List.append_assoc] at ih
    refine ex_for1 (n := 0) (k := 0) (b' := (main, trees q (pre ++ [x]))) ?_ ih
    unfold bodyD
    dsimp only
    rw [e, if_neg (by
      rw [beq_iff_eq, trees_len, List.length_append]
      simp only [List.length_cons, List.length_nil] at hl ⊢
      omega)]
    exact ex_pure
theorem flush_ne {ps : List (Int × Str)} (hne : ps ≠ []) : (trees q ps).isEmpty = false := by
  cases ps with
  | nil => exact absurd rfl hne
  | cons => rfl
/-- what is known of the pairs that are still to come -/
structure Fit (es : List DictEntry) (ps : List (Int × Str)) : Prop where
  apart : ∀ e ∈ es, ∀ x ∈ ps, e.hash ≠ x.1
  keys : (ps.map (·.1)).Pairwise (· ≠ ·)
  small : Small ps
  len : es.length + ps.length < 1000
theorem ents_mem {ps : List (Int × Str)} {tk : Nat} {e : DictEntry} (he : e ∈ ents tk ps) : ∃ x ∈ ps, x.1 = e.hash := by
  have : e.hash ∈ (ents tk ps).map (·.hash) := List.mem_map_of_mem he
  rw [ents_hash] at this
  exact List.mem_map.mp this
theorem ents2_mem {ps : List (Int × Str)} {tk : Nat} {e : DictEntry} (he : e ∈ ents2 tk ps) : ∃ x ∈ ps, x.1 = e.hash := by
  have : e.hash ∈ (ents2 tk ps).map (·.hash) := List.mem_map_of_mem he
  rw [ents2_hash] at this
  exact List.mem_map.mp this
theorem Fit.left {es : List DictEntry} {a b : List (Int × Str)} (F : Fit es (a ++ b)) : Fit es a :=
  ⟨fun e he x hx => F.apart e he x (List.mem_append.mpr (.inl hx)), by have := F.keys; rw [List.map_append] at this; exact (List.pairwise_append.mp this).1, fun x hx => F.small x (List.mem_append.mpr (.inl hx)), by have := F.len; rw [List.length_append] at this; omega⟩
theorem Fit.right {es : List DictEntry} {a b : List (Int × Str)} {tk : Nat} (F : Fit es (a ++ b)) : Fit (es ++ ents tk a) b := by
  have hk := F.keys
  rw [List.map_append] at hk
  obtain ⟨k1, k2, k3⟩ := List.pairwise_append.mp hk
  refine ⟨fun e he x hx => ?_, k2, fun x hx => F.small x (List.mem_append.mpr (.inr hx)), by have := F.len; rw [List.length_append] at this; rw [List.length_append, ents_len]; omega⟩
  rcases List.mem_append.mp he with he | he
  · exact F.apart e he x (List.mem_append.mpr (.inr hx))
  · obtain ⟨y, hy, e'⟩ := ents_mem he
    rw [← e']
    exact k3 _ (List.mem_map_of_mem hy) _ (List.mem_map_of_mem hx)
theorem ex_flush0 {c : List (Int × Str)} (h0 : 11 ≤ h.objs.size) (hc : c.length = 17) (F : Fit [] c) :
    Ex p w 223 (flushD (trees q c) none) (sh h [] g d tk os) q (some (h.objs.size + 0)) (sh h [dictO (ents tk c)] g d (tk + 51) os) q := by
  unfold flushD
  rw [flush_ne (by intro e; subst e; cases hc), if_neg Bool.false_ne_true]
  have := ex_subLong (p := p) (w := w) (l := []) (g := g) (d := d) (os := os) (q := q) (tk := tk) h0 (by omega) (by omega) F.keys F.small
  rw [hc] at this
  exact ex_bind (n := 223) (k := 0) this ex_pure
theorem ex_flush1 {c : List (Int × Str)} {subs : List Obj} (h0 : 11 ≤ h.objs.size) (hc : c.length = 17) (he : es ≠ []) (F : Fit es c) :
    Ex p w 330 (flushD (trees q c) (some (h.objs.size + 0))) (sh h (dictO es :: subs) g d tk os) q (some (h.objs.size + 0)) (sh h (dictO (es ++ ents tk c) :: (subs ++ [dictO (ents tk c)])) g d (tk + 51) os) q := by
  unfold flushD
  rw [flush_ne (by intro e; subst e; cases hc), if_neg Bool.false_ne_true]
  have a := ex_subLong (p := p) (w := w) (l := dictO es :: subs) (g := g) (d := d) (os := os) (q := q) (tk := tk) h0 (by omega) (by omega) F.keys F.small
  have b := ex_merge (p := p) (w := w) (l := (dictO es :: subs) ++ [dictO (ents tk c)]) (g := g) (d := d) (os := os) (q := q) (tk := tk + 51) (i := (dictO es :: subs).length) (j := 0) (es := es) (sub := ents tk c) h0 (by simp) rfl last_get he
    (by rw [ents_len]; exact F.len) (fun e he x hx => by obtain ⟨y, hy, e'⟩ := ents_mem hx; rw [← e']; exact F.apart e he y hy) (by rw [ents_hash]; exact F.keys) (ents_key c tk)
  rw [ents_len, hc] at b
  rw [hc] at a
  exact ex_bind (n := 223) (k := 107) (ex_hold a) (ex_bind (n := 107) (k := 0) (ex_onRaise (ex_hold b)) ex_pure)
theorem ex_flush2 {c : List (Int × Str)} {subs : List Obj} (h0 : 11 ≤ h.objs.size) (hc : c.length ≤ 15) (hne : c ≠ []) (he : es ≠ []) (F : Fit es c) :
    Ex p w (6 + 19 * c.length) (flushD (trees q c) (some (h.objs.size + 0))) (sh h (dictO es :: subs) g d tk os) q (some (h.objs.size + 0)) (sh h (dictO (es ++ ents2 tk c) :: (subs ++ [dictO (ents2 tk c)])) g d (tk + 3 * c.length) os) q := by
  unfold flushD
  rw [flush_ne hne, if_neg Bool.false_ne_true]
  have a := ex_subShort (p := p) (w := w) (l := dictO es :: subs) (g := g) (d := d) (os := os) (q := q) (tk := tk) h0 hc F.keys F.small
  have b := ex_merge (p := p) (w := w) (l := (dictO es :: subs) ++ [dictO (ents2 tk c)]) (g := g) (d := d) (os := os) (q := q) (tk := tk + 3 * c.length) (i := (dictO es :: subs).length) (j := 0) (es := es) (sub := ents2 tk c) h0 (by simp) rfl last_get he
    (by rw [ents2_len]; exact F.len) (fun e he x hx => by obtain ⟨y, hy, e'⟩ := ents2_mem hx; rw [← e']; exact F.apart e he y hy) (by rw [ents2_hash]; exact F.keys) (ents2_key c tk)
  rw [ents2_len] at b
  rw [show 6 + 19 * c.length = (1 + 13 * c.length) + ((5 + 6 * c.length) + 0) by omega]
  exact ex_bind (ex_hold a) (ex_bind (ex_onRaise (ex_hold b)) ex_pure)
def subsAll (tk : Nat) : List (List (Int × Str)) → List Obj
  | [] => []
  | c :: r => dictO (ents tk c) :: subsAll (tk + 51) r
theorem ents_app : ∀ (a b : List (Int × Str)) (tk : Nat), ents tk (a ++ b) = ents tk a ++ ents (tk + 3 * a.length) b
  | [], b, tk => rfl
  | x :: a, b, tk => by
    rw [List.cons_append, ents, ents, ents_app a b, List.cons_append, List.length_cons, show tk + 3 + 3 * a.length = tk + 3 * (a.length + 1) by omega]
theorem items_app (a b : List (Int × Str)) : items q (a ++ b) = items q a ++ items q b := by simp [items, trees_app]
theorem ex_chunks (h0 : 11 ≤ h.objs.size) {last : List (Int × Str)} {k : Nat} {r : Option Addr × List Tr} {s₂ : Shared} {q₂ : Pos} : ∀ (cs : List (List (Int × Str))) (tk : Nat) (es : List DictEntry) (subs : List Obj), (∀ c ∈ cs, c.length = 17) → es ≠ [] → Fit es (cs.flatten ++ last) →
    Ex p w k (forIn (items q last) (some (h.objs.size + 0), []) bodyD) (sh h (dictO (es ++ ents tk cs.flatten) :: (subs ++ subsAll tk cs)) g d (tk + 51 * cs.length) os) q r s₂ q₂ →
    Ex p w (330 * cs.length + k) (forIn (items q (cs.flatten ++ last)) (some (h.objs.size + 0), []) bodyD) (sh h (dictO es :: subs) g d tk os) q r s₂ q₂
  | [], tk, es, subs, _, _, _, H => by
    rw [show ents tk (List.flatten []) = [] from rfl, show subsAll tk [] = [] from rfl, List.append_nil, List.append_nil] at H
    rw [List.length_nil, Nat.mul_zero, Nat.zero_add]
    exact H
  | c :: cs, tk, es, subs, hc, he, F, H => by
    have h17 := hc c (.head _)
    have e1 : (c :: cs).flatten ++ last = c ++ (cs.flatten ++ last) := by rw [List.flatten_cons, List.append_assoc]
    rw [e1] at F ⊢
    rw [items_app, show 330 * (c :: cs).length + k = 330 + (330 * cs.length + k) by rw [List.length_cons]; omega]
    refine ex_gather c [] (by intro e; subst e; cases h17) (by simpa using h17) (ex_flush1 h0 h17 he F.left) ?_
    refine ex_chunks h0 cs (tk + 51) (es ++ ents tk c) (subs ++ [dictO (ents tk c)]) (fun x hx => hc x (.tail _ hx)) (by simp [he]) F.right ?_
    rw [List.flatten_cons, ents_app, h17, List.length_cons] at H
    rw [show subsAll tk (c :: cs) = dictO (ents tk c) :: subsAll (tk + 51) cs from rfl] at H
    rw [List.append_assoc, List.append_assoc, show tk + 51 + 51 * cs.length = tk + 51 * (cs.length + 1) by omega]
    exact H
/-- the whole display: a first chunk of 17, more chunks of 17, a last one of 15 or fewer -/
theorem ex_display (h0 : 11 ≤ h.objs.size) {c last : List (Int × Str)} {cs : List (List (Int × Str))} (h17 : c.length = 17) (hc : ∀ c ∈ cs, c.length = 17) (hl : last.length ≤ 15) (hl0 : last ≠ []) (F : Fit [] (c ++ (cs.flatten ++ last))) :
    Ex p w (223 + 330 * cs.length + (6 + 19 * last.length)) (dictDisplay (items q (c ++ (cs.flatten ++ last)))) (sh h [] g d tk os) q (.ref (h.objs.size + 0))
      (sh h (dictO (ents tk (c ++ cs.flatten) ++ ents2 (tk + 51 * (cs.length + 1)) last) :: (subsAll (tk + 51) cs ++ [dictO (ents2 (tk + 51 * (cs.length + 1)) last)])) g d (tk + 51 * (cs.length + 1) + 3 * last.length) os) q := by
  rw [display_is]
  have hc0 : c ≠ [] := by intro e; subst e; cases h17
  have he : ents tk c ≠ [] := by
    cases c with
    | nil => exact absurd rfl hc0
    | cons => simp [ents]
  have e0 : ents tk (c ++ cs.flatten) = ents tk c ++ ents (tk + 51) cs.flatten := by rw [ents_app, h17]
  have e1 : tk + 51 * (cs.length + 1) = tk + 51 + 51 * cs.length := by omega
  rw [e0, e1]
  have F2 : Fit (ents tk c ++ ents (tk + 51) cs.flatten) last := by
    have := (F.right (tk := tk)).right (tk := tk + 51)
    rw [List.nil_append] at this
    exact this
  have FR : Fit (ents tk c) (cs.flatten ++ last) := by
    have := F.right (tk := tk)
    rw [List.nil_append] at this
    exact this
  refine ex_bind (n := 223 + 330 * cs.length) (k := 6 + 19 * last.length) (a := (some (h.objs.size + 0), trees q last)) (s₁ := sh h (dictO (ents tk c ++ ents (tk + 51) cs.flatten) :: subsAll (tk + 51) cs) g d (tk + 51 + 51 * cs.length) os) (q₁ := q) ?_ ?_
  · rw [items_app]
    refine ex_gather c [] hc0 (by simpa using h17) (ex_flush0 h0 h17 F.left) ?_
    have := ex_chunks (p := p) (w := w) (g := g) (d := d) (os := os) (q := q) (last := last) (k := 0) (r := (some (h.objs.size + 0), trees q last)) h0 cs (tk + 51) (ents tk c) [] hc he FR (ex_last last [] (by simp; omega))
    rw [List.nil_append] at this
    exact this
  · exact ex_bind (k := 0) (ex_flush2 h0 hl hl0 (by simp [he]) F2) ex_pure
end
end Mine
end
section
open PySem PySem.W PyProof.Rows
namespace Mine
abbrev pw : Program := PySem.Challenge.pw_ny0220_01
def st (i : Nat) : Stmt := (pw.main.body[i]?).getD (.Pass ⟨0, 0, 0, 0⟩)
def fdOf (s : Stmt) (gl : Nat) (pm cd : Value) : FuncData := match s with
  | .FunctionDef n a b _ _ _ sc _ _ _ => { name := n, qualname := n, params := a, body := .stmts b, scope := sc, globals := gl, closure := [], defaults := .none, kwdefaults := .none, doc := .none, pyModule := pm, annotations := none, code := cd, closureTuple := .none, builtins := 0 }
  | _ => default
noncomputable def o3 (P : Params) : Obj := ⟨.type "dict", none, .dict [⟨PyData.keyHash P (Str.ofString "__name__"), .str (Str.ofString "__name__") 165, .str (Str.ofString "law_ny0220_01") 2223⟩, ⟨PyData.keyHash P (Str.ofString "__doc__"), .str (Str.ofString "__doc__") 166, .none⟩, ⟨PyData.keyHash P (Str.ofString "__package__"), .str (Str.ofString "__package__") 167, .none⟩, ⟨PyData.keyHash P (Str.ofString "__loader__"), .str (Str.ofString "__loader__") 168, .builtin "__main__.__loader__#opaque"⟩, ⟨PyData.keyHash P (Str.ofString "__spec__"), .str (Str.ofString "__spec__") 169, .none⟩, ⟨PyData.keyHash P (Str.ofString "__annotations__"), .str (Str.ofString "__annotations__") 170, .ref 6⟩, ⟨PyData.keyHash P (Str.ofString "__builtins__"), .str (Str.ofString "__builtins__") 171, .ref 4⟩, ⟨PyData.keyHash P (Str.ofString "__file__"), .str (Str.ofString "__file__") 173, .str (Str.ofString "/claim/cut.py") 172⟩, ⟨PyData.keyHash P (Str.ofString "__cached__"), .str (Str.ofString "__cached__") 174, .none⟩, ⟨PyData.keyHash P (Str.ofString "b1_set"), .str (Str.ofString "b1_set") 248, .ref 22⟩, ⟨PyData.keyHash P (Str.ofString "in_table_b1"), .str (Str.ofString "in_table_b1") 255, .ref 32⟩, ⟨PyData.keyHash P (Str.ofString "b3_exceptions"), .str (Str.ofString "b3_exceptions") 2206, .ref 33⟩, ⟨PyData.keyHash P (Str.ofString "map_table_b3"), .str (Str.ofString "map_table_b3") 2214, .ref 78⟩, ⟨PyData.keyHash P (Str.ofString "parse_http_list"), .str (Str.ofString "parse_http_list") 2222, .ref 83⟩, ⟨PyData.keyHash P (Str.ofString "_law_nothing"), .str (Str.ofString "_law_nothing") 2230, .ref 90⟩, ⟨PyData.keyHash P (Str.ofString "_law_held_rightly"), .str (Str.ofString "_law_held_rightly") 2236, .ref 95⟩, ⟨PyData.keyHash P (Str.ofString "_law_prepared"), .str (Str.ofString "_law_prepared") 2242, .ref 100⟩, ⟨PyData.keyHash P (Str.ofString "_law_moved"), .str (Str.ofString "_law_moved") 2253, .ref 107⟩, ⟨PyData.keyHash P (Str.ofString "_law_items"), .str (Str.ofString "_law_items") 2259, .ref 112⟩, ⟨PyData.keyHash P (Str.ofString "_law_letter"), .str (Str.ofString "_law_letter") 2268, .ref 119⟩, ⟨PyData.keyHash P (Str.ofString "_law_several"), .str (Str.ofString "_law_several") 2276, .ref 126⟩, ⟨PyData.keyHash P (Str.ofString "_law_any"), .str (Str.ofString "_law_any") 2285, .ref 133⟩, ⟨PyData.keyHash P (Str.ofString "_law_inside"), .str (Str.ofString "_law_inside") 2294, .ref 140⟩, ⟨PyData.keyHash P (Str.ofString "_law_piece"), .str (Str.ofString "_law_piece") 2300, .ref 145⟩, ⟨PyData.keyHash P (Str.ofString "_law_tail"), .str (Str.ofString "_law_tail") 2310, .ref 152⟩, ⟨PyData.keyHash P (Str.ofString "_law_header"), .str (Str.ofString "_law_header") 2316, .ref 157⟩, ⟨PyData.keyHash P (Str.ofString "law"), .str (Str.ofString "law") 2322, .ref 162⟩].toArray 27, [].toArray⟩
noncomputable def o11 (_ : Params) : Obj := ⟨.type "tuple", none, .seq [].toArray 0, [].toArray⟩
noncomputable def o12 (_ : Params) : Obj := ⟨.none, none, .fields [.int 3 0, .int 0 0, .ref 31, .int 6 0, .int 0 0, .ref 77, .int 12 0, .int 0 0, .ref 82, .int 40 0, .int 0 0, .ref 89, .int 42 0, .int 0 0, .ref 94, .int 48 0, .int 0 0, .ref 99, .int 50 0, .int 0 0, .ref 106, .int 63 0, .int 0 0, .ref 111, .int 68 0, .int 0 0, .ref 118, .int 72 0, .int 0 0, .ref 125, .int 75 0, .int 0 0, .ref 132, .int 85 0, .int 0 0, .ref 139, .int 97 0, .int 0 0, .ref 144, .int 116 0, .int 0 0, .ref 151, .int 119 0, .int 0 0, .ref 156, .int 128 0, .int 0 0, .ref 161].toArray, [].toArray⟩
noncomputable def o13 (_ : Params) : Obj := ⟨.type "code", none, .fields [.str (Str.ofString "<module>") 182, .str (Str.ofString "<module>") 183, .str (Str.ofString "/claim/cut.py") 184, .int 1 0, .int 0 0, .int 0 0, .int 0 0, .int 0 0, .ref 11, .bool false, .int 181 0, .ref 12, .none, .none, .none, .none, .int 185 0, .int 1 0, .str (Str.ofString "/claim/cut.py") 186].toArray, [].toArray⟩
noncomputable def o14 (_ : Params) : Obj := ⟨.type "frame", none, .plain, [some (.ref 13), some (.ref 3), some (.ref 3), none, some (.str (Str.ofString "__main__") 164), none, some (.ref 0)].toArray⟩
noncomputable def o15 (_ : Params) : Obj := ⟨.type "list", none, .seq [.int 173 189, .int 847 190, .int 6150 191, .int 6155 192, .int 6156 193, .int 6157 194, .int 8203 195, .int 8204 196, .int 8205 197, .int 8288 198, .int 65279 199].toArray 0, [].toArray⟩
noncomputable def o16 (_ : Params) : Obj := ⟨.type "range", none, .fields [.int 65024 200, .int 65040 201, .int 1 202].toArray, [].toArray⟩
noncomputable def o17 (_ : Params) : Obj := ⟨.type "list", none, .seq [.int 65024 205, .int 65025 206, .int 65026 207, .int 65027 208, .int 65028 209, .int 65029 210, .int 65030 211, .int 65031 212, .int 65032 213, .int 65033 214, .int 65034 215, .int 65035 216, .int 65036 217, .int 65037 218, .int 65038 219, .int 65039 220].toArray 18, [].toArray⟩
noncomputable def o18 (_ : Params) : Obj := ⟨.type "range_iterator", none, .fields [.int 65040 0, .int 0 0, .int 1 0].toArray, [].toArray⟩
noncomputable def o19 (_ : Params) : Obj := ⟨.type "tuple", none, .seq [].toArray 0, [].toArray⟩
noncomputable def o20 (_ : Params) : Obj := ⟨.type "StopIteration", none, .fields [.ref 19, .none, .none, .none, .bool false, .none].toArray, [].toArray⟩
noncomputable def o21 (_ : Params) : Obj := ⟨.type "list", none, .seq [.int 173 189, .int 847 190, .int 6150 191, .int 6155 192, .int 6156 193, .int 6157 194, .int 8203 195, .int 8204 196, .int 8205 197, .int 8288 198, .int 65279 199, .int 65024 205, .int 65025 206, .int 65026 207, .int 65027 208, .int 65028 209, .int 65029 210, .int 65030 211, .int 65031 212, .int 65032 213, .int 65033 214, .int 65034 215, .int 65035 216, .int 65036 217, .int 65037 218, .int 65038 219, .int 65039 220].toArray 0, [].toArray⟩
noncomputable def o22 (P : Params) : Obj := ⟨.type "set", none, .set [(65024, .int 65024 205), (65025, .int 65025 206), (65026, .int 65026 207), (65027, .int 65027 208), (65028, .int 65028 209), (65029, .int 65029 210), (6150, .int 6150 191), (65030, .int 65030 211), (65031, .int 65031 212), (65032, .int 65032 213), (65033, .int 65033 214), (6155, .int 6155 192), (6156, .int 6156 193), (6157, .int 6157 194), (8203, .int 8203 195), (8204, .int 8204 196), (8205, .int 8205 197), (65034, .int 65034 215), (65035, .int 65035 216), (65036, .int 65036 217), (65037, .int 65037 218), (65038, .int 65038 219), (65039, .int 65039 220), (173, .int 173 189), (847, .int 847 190), (8288, .int 8288 198), (65279, .int 65279 199)].toArray 29 ⟨127, [0, 1, 2, 3, 4, 5, 6, 7, 8, 9, 10, 11, 12, 13, 14, 15, 16, 17, 18, 19, 20, 21, 22, 45, 79, 96, 127].toArray, [].toArray, 0, !P.followText "set-order", 2, true⟩, [].toArray⟩
noncomputable def o23 (_ : Params) : Obj := ⟨.type "list_iterator", none, .fields [.none, .int 27 0].toArray, [].toArray⟩
noncomputable def o24 (_ : Params) : Obj := ⟨.type "tuple", none, .seq [].toArray 0, [].toArray⟩
noncomputable def o25 (_ : Params) : Obj := ⟨.type "StopIteration", none, .fields [.ref 24, .none, .none, .none, .bool false, .none].toArray, [].toArray⟩
noncomputable def o26 (_ : Params) : Obj := ⟨.type "tuple", none, .seq [].toArray 0, [].toArray⟩
noncomputable def o27 (_ : Params) : Obj := ⟨.none, none, .fields [].toArray, [].toArray⟩
noncomputable def o28 (_ : Params) : Obj := ⟨.type "tuple", none, .seq [.str (Str.ofString "code") 252].toArray 0, [].toArray⟩
noncomputable def o29 (_ : Params) : Obj := ⟨.type "tuple", none, .seq [].toArray 0, [].toArray⟩
noncomputable def o30 (_ : Params) : Obj := ⟨.none, none, .func (fdOf (st 2) 0 (.none) (.none)), [].toArray⟩
noncomputable def o31 (_ : Params) : Obj := ⟨.type "code", none, .fields [.str (Str.ofString "in_table_b1") 249, .str (Str.ofString "in_table_b1") 250, .str (Str.ofString "/claim/cut.py") 251, .int 3 0, .int 1 0, .int 0 0, .int 0 0, .int 3 0, .ref 26, .bool true, .int 181 0, .ref 27, .none, .ref 28, .ref 29, .ref 30, .int 253 0, .int 3 0, .str (Str.ofString "/claim/cut.py") 254].toArray, [].toArray⟩
noncomputable def o32 (_ : Params) : Obj := ⟨.type "function", none, .func (fdOf (st 2) 3 (.str (Str.ofString "cpy313.stringprep") 187) (.ref 31)), [].toArray⟩
noncomputable def o72 (_ : Params) : Obj := ⟨.type "tuple", none, .seq [].toArray 0, [].toArray⟩
noncomputable def o73 (_ : Params) : Obj := ⟨.none, none, .fields [].toArray, [].toArray⟩
noncomputable def o74 (_ : Params) : Obj := ⟨.type "tuple", none, .seq [.str (Str.ofString "code") 2210, .str (Str.ofString "r") 2211].toArray 0, [].toArray⟩
noncomputable def o75 (_ : Params) : Obj := ⟨.type "tuple", none, .seq [].toArray 0, [].toArray⟩
noncomputable def o76 (_ : Params) : Obj := ⟨.none, none, .func (fdOf (st 4) 0 (.none) (.none)), [].toArray⟩
noncomputable def o77 (_ : Params) : Obj := ⟨.type "code", none, .fields [.str (Str.ofString "map_table_b3") 2207, .str (Str.ofString "map_table_b3") 2208, .str (Str.ofString "/claim/cut.py") 2209, .int 6 0, .int 1 0, .int 0 0, .int 0 0, .int 3 0, .ref 72, .bool true, .int 181 0, .ref 73, .none, .ref 74, .ref 75, .ref 76, .int 2212 0, .int 6 0, .str (Str.ofString "/claim/cut.py") 2213].toArray, [].toArray⟩
noncomputable def o78 (_ : Params) : Obj := ⟨.type "function", none, .func (fdOf (st 4) 3 (.str (Str.ofString "cpy313.stringprep") 187) (.ref 77)), [].toArray⟩
noncomputable def o79 (_ : Params) : Obj := ⟨.type "tuple", none, .seq [].toArray 0, [].toArray⟩
noncomputable def o80 (_ : Params) : Obj := ⟨.none, none, .fields [].toArray, [].toArray⟩
noncomputable def o81 (_ : Params) : Obj := ⟨.none, none, .func (fdOf (st 6) 0 (.none) (.none)), [].toArray⟩
noncomputable def o82 (_ : Params) : Obj := ⟨.type "code", none, .fields [.str (Str.ofString "parse_http_list") 2217, .str (Str.ofString "parse_http_list") 2218, .str (Str.ofString "/claim/cut.py") 2219, .int 12 0, .int 1 0, .int 0 0, .int 0 0, .int 3 0, .ref 79, .bool true, .int 181 0, .ref 80, .none, .none, .none, .ref 81, .int 2220 0, .int 12 0, .str (Str.ofString "/claim/cut.py") 2221].toArray, [].toArray⟩
noncomputable def o83 (_ : Params) : Obj := ⟨.type "function", none, .func (fdOf (st 6) 3 (.str (Str.ofString "cpy313.urllib.request") 2215) (.ref 82)), [].toArray⟩
noncomputable def o84 (_ : Params) : Obj := ⟨.type "tuple", none, .seq [].toArray 0, [].toArray⟩
noncomputable def o85 (_ : Params) : Obj := ⟨.none, none, .fields [].toArray, [].toArray⟩
noncomputable def o86 (_ : Params) : Obj := ⟨.type "tuple", none, .seq [].toArray 0, [].toArray⟩
noncomputable def o87 (_ : Params) : Obj := ⟨.type "tuple", none, .seq [].toArray 0, [].toArray⟩
noncomputable def o88 (_ : Params) : Obj := ⟨.none, none, .func (fdOf (st 8) 0 (.none) (.none)), [].toArray⟩
noncomputable def o89 (_ : Params) : Obj := ⟨.type "code", none, .fields [.str (Str.ofString "_law_nothing") 2225, .str (Str.ofString "_law_nothing") 2226, .str (Str.ofString "/claim/cut.py") 2227, .int 40 0, .int 0 0, .int 0 0, .int 0 0, .int 3 0, .ref 84, .bool true, .int 181 0, .ref 85, .none, .ref 86, .ref 87, .ref 88, .int 2228 0, .int 40 0, .str (Str.ofString "/claim/cut.py") 2229].toArray, [].toArray⟩
noncomputable def o90 (_ : Params) : Obj := ⟨.type "function", none, .func (fdOf (st 8) 3 (.str (Str.ofString "law_ny0220_01") 2223) (.ref 89)), [].toArray⟩
noncomputable def o91 (_ : Params) : Obj := ⟨.type "tuple", none, .seq [].toArray 0, [].toArray⟩
noncomputable def o92 (_ : Params) : Obj := ⟨.none, none, .fields [].toArray, [].toArray⟩
noncomputable def o93 (_ : Params) : Obj := ⟨.none, none, .func (fdOf (st 9) 0 (.none) (.none)), [].toArray⟩
noncomputable def o94 (_ : Params) : Obj := ⟨.type "code", none, .fields [.str (Str.ofString "_law_held_rightly") 2231, .str (Str.ofString "_law_held_rightly") 2232, .str (Str.ofString "/claim/cut.py") 2233, .int 42 0, .int 1 0, .int 0 0, .int 0 0, .int 3 0, .ref 91, .bool true, .int 181 0, .ref 92, .none, .none, .none, .ref 93, .int 2234 0, .int 42 0, .str (Str.ofString "/claim/cut.py") 2235].toArray, [].toArray⟩
noncomputable def o95 (_ : Params) : Obj := ⟨.type "function", none, .func (fdOf (st 9) 3 (.str (Str.ofString "law_ny0220_01") 2223) (.ref 94)), [].toArray⟩
noncomputable def o96 (_ : Params) : Obj := ⟨.type "tuple", none, .seq [].toArray 0, [].toArray⟩
noncomputable def o97 (_ : Params) : Obj := ⟨.none, none, .fields [].toArray, [].toArray⟩
noncomputable def o98 (_ : Params) : Obj := ⟨.none, none, .func (fdOf (st 10) 0 (.none) (.none)), [].toArray⟩
noncomputable def o99 (_ : Params) : Obj := ⟨.type "code", none, .fields [.str (Str.ofString "_law_prepared") 2237, .str (Str.ofString "_law_prepared") 2238, .str (Str.ofString "/claim/cut.py") 2239, .int 48 0, .int 1 0, .int 0 0, .int 0 0, .int 3 0, .ref 96, .bool true, .int 181 0, .ref 97, .none, .none, .none, .ref 98, .int 2240 0, .int 48 0, .str (Str.ofString "/claim/cut.py") 2241].toArray, [].toArray⟩
noncomputable def o100 (_ : Params) : Obj := ⟨.type "function", none, .func (fdOf (st 10) 3 (.str (Str.ofString "law_ny0220_01") 2223) (.ref 99)), [].toArray⟩
noncomputable def o101 (_ : Params) : Obj := ⟨.type "tuple", none, .seq [].toArray 0, [].toArray⟩
noncomputable def o102 (_ : Params) : Obj := ⟨.none, none, .fields [].toArray, [].toArray⟩
noncomputable def o103 (_ : Params) : Obj := ⟨.type "tuple", none, .seq [.str (Str.ofString "text") 2246, .str (Str.ofString "done") 2247, .str (Str.ofString "held") 2248, .str (Str.ofString "slashes") 2249, .str (Str.ofString "sign") 2250].toArray 0, [].toArray⟩
noncomputable def o104 (_ : Params) : Obj := ⟨.type "tuple", none, .seq [].toArray 0, [].toArray⟩
noncomputable def o105 (_ : Params) : Obj := ⟨.none, none, .func (fdOf (st 11) 0 (.none) (.none)), [].toArray⟩
noncomputable def o106 (_ : Params) : Obj := ⟨.type "code", none, .fields [.str (Str.ofString "_law_moved") 2243, .str (Str.ofString "_law_moved") 2244, .str (Str.ofString "/claim/cut.py") 2245, .int 50 0, .int 1 0, .int 0 0, .int 0 0, .int 3 0, .ref 101, .bool true, .int 181 0, .ref 102, .none, .ref 103, .ref 104, .ref 105, .int 2251 0, .int 50 0, .str (Str.ofString "/claim/cut.py") 2252].toArray, [].toArray⟩
noncomputable def o107 (_ : Params) : Obj := ⟨.type "function", none, .func (fdOf (st 11) 3 (.str (Str.ofString "law_ny0220_01") 2223) (.ref 106)), [].toArray⟩
noncomputable def o108 (_ : Params) : Obj := ⟨.type "tuple", none, .seq [].toArray 0, [].toArray⟩
noncomputable def o109 (_ : Params) : Obj := ⟨.none, none, .fields [].toArray, [].toArray⟩
noncomputable def o110 (_ : Params) : Obj := ⟨.none, none, .func (fdOf (st 12) 0 (.none) (.none)), [].toArray⟩
noncomputable def o111 (_ : Params) : Obj := ⟨.type "code", none, .fields [.str (Str.ofString "_law_items") 2254, .str (Str.ofString "_law_items") 2255, .str (Str.ofString "/claim/cut.py") 2256, .int 63 0, .int 1 0, .int 0 0, .int 0 0, .int 3 0, .ref 108, .bool true, .int 181 0, .ref 109, .none, .none, .none, .ref 110, .int 2257 0, .int 63 0, .str (Str.ofString "/claim/cut.py") 2258].toArray, [].toArray⟩
noncomputable def o112 (_ : Params) : Obj := ⟨.type "function", none, .func (fdOf (st 12) 3 (.str (Str.ofString "law_ny0220_01") 2223) (.ref 111)), [].toArray⟩
noncomputable def o113 (_ : Params) : Obj := ⟨.type "tuple", none, .seq [].toArray 0, [].toArray⟩
noncomputable def o114 (_ : Params) : Obj := ⟨.none, none, .fields [].toArray, [].toArray⟩
noncomputable def o115 (_ : Params) : Obj := ⟨.type "tuple", none, .seq [.str (Str.ofString "n") 2263, .str (Str.ofString "starts") 2264, .str (Str.ofString "sign") 2265].toArray 0, [].toArray⟩
noncomputable def o116 (_ : Params) : Obj := ⟨.type "tuple", none, .seq [].toArray 0, [].toArray⟩
noncomputable def o117 (_ : Params) : Obj := ⟨.none, none, .func (fdOf (st 13) 0 (.none) (.none)), [].toArray⟩
noncomputable def o118 (_ : Params) : Obj := ⟨.type "code", none, .fields [.str (Str.ofString "_law_letter") 2260, .str (Str.ofString "_law_letter") 2261, .str (Str.ofString "/claim/cut.py") 2262, .int 68 0, .int 1 0, .int 0 0, .int 0 0, .int 3 0, .ref 113, .bool true, .int 181 0, .ref 114, .none, .ref 115, .ref 116, .ref 117, .int 2266 0, .int 68 0, .str (Str.ofString "/claim/cut.py") 2267].toArray, [].toArray⟩
noncomputable def o119 (_ : Params) : Obj := ⟨.type "function", none, .func (fdOf (st 13) 3 (.str (Str.ofString "law_ny0220_01") 2223) (.ref 118)), [].toArray⟩
noncomputable def o120 (_ : Params) : Obj := ⟨.type "tuple", none, .seq [].toArray 0, [].toArray⟩
noncomputable def o121 (_ : Params) : Obj := ⟨.none, none, .fields [].toArray, [].toArray⟩
noncomputable def o122 (_ : Params) : Obj := ⟨.type "tuple", none, .seq [.str (Str.ofString "n") 2272, .str (Str.ofString "sign") 2273].toArray 0, [].toArray⟩
noncomputable def o123 (_ : Params) : Obj := ⟨.type "tuple", none, .seq [].toArray 0, [].toArray⟩
noncomputable def o124 (_ : Params) : Obj := ⟨.none, none, .func (fdOf (st 14) 0 (.none) (.none)), [].toArray⟩
noncomputable def o125 (_ : Params) : Obj := ⟨.type "code", none, .fields [.str (Str.ofString "_law_several") 2269, .str (Str.ofString "_law_several") 2270, .str (Str.ofString "/claim/cut.py") 2271, .int 72 0, .int 1 0, .int 0 0, .int 0 0, .int 3 0, .ref 120, .bool true, .int 181 0, .ref 121, .none, .ref 122, .ref 123, .ref 124, .int 2274 0, .int 72 0, .str (Str.ofString "/claim/cut.py") 2275].toArray, [].toArray⟩
noncomputable def o126 (_ : Params) : Obj := ⟨.type "function", none, .func (fdOf (st 14) 3 (.str (Str.ofString "law_ny0220_01") 2223) (.ref 125)), [].toArray⟩
noncomputable def o127 (_ : Params) : Obj := ⟨.type "tuple", none, .seq [].toArray 0, [].toArray⟩
noncomputable def o128 (_ : Params) : Obj := ⟨.none, none, .fields [].toArray, [].toArray⟩
noncomputable def o129 (_ : Params) : Obj := ⟨.type "tuple", none, .seq [.str (Str.ofString "n") 2280, .str (Str.ofString "place") 2281, .str (Str.ofString "sign") 2282].toArray 0, [].toArray⟩
noncomputable def o130 (_ : Params) : Obj := ⟨.type "tuple", none, .seq [].toArray 0, [].toArray⟩
noncomputable def o131 (_ : Params) : Obj := ⟨.none, none, .func (fdOf (st 15) 0 (.none) (.none)), [].toArray⟩
noncomputable def o132 (_ : Params) : Obj := ⟨.type "code", none, .fields [.str (Str.ofString "_law_any") 2277, .str (Str.ofString "_law_any") 2278, .str (Str.ofString "/claim/cut.py") 2279, .int 75 0, .int 1 0, .int 0 0, .int 0 0, .int 3 0, .ref 127, .bool true, .int 181 0, .ref 128, .none, .ref 129, .ref 130, .ref 131, .int 2283 0, .int 75 0, .str (Str.ofString "/claim/cut.py") 2284].toArray, [].toArray⟩
noncomputable def o133 (_ : Params) : Obj := ⟨.type "function", none, .func (fdOf (st 15) 3 (.str (Str.ofString "law_ny0220_01") 2223) (.ref 132)), [].toArray⟩
noncomputable def o134 (_ : Params) : Obj := ⟨.type "tuple", none, .seq [].toArray 0, [].toArray⟩
noncomputable def o135 (_ : Params) : Obj := ⟨.none, none, .fields [].toArray, [].toArray⟩
noncomputable def o136 (_ : Params) : Obj := ⟨.type "tuple", none, .seq [.str (Str.ofString "kind") 2289, .str (Str.ofString "n") 2290, .str (Str.ofString "three") 2291].toArray 0, [].toArray⟩
noncomputable def o137 (_ : Params) : Obj := ⟨.type "tuple", none, .seq [].toArray 0, [].toArray⟩
noncomputable def o138 (_ : Params) : Obj := ⟨.none, none, .func (fdOf (st 16) 0 (.none) (.none)), [].toArray⟩
noncomputable def o139 (_ : Params) : Obj := ⟨.type "code", none, .fields [.str (Str.ofString "_law_inside") 2286, .str (Str.ofString "_law_inside") 2287, .str (Str.ofString "/claim/cut.py") 2288, .int 85 0, .int 2 0, .int 0 0, .int 0 0, .int 3 0, .ref 134, .bool true, .int 181 0, .ref 135, .none, .ref 136, .ref 137, .ref 138, .int 2292 0, .int 85 0, .str (Str.ofString "/claim/cut.py") 2293].toArray, [].toArray⟩
noncomputable def o140 (_ : Params) : Obj := ⟨.type "function", none, .func (fdOf (st 16) 3 (.str (Str.ofString "law_ny0220_01") 2223) (.ref 139)), [].toArray⟩
noncomputable def o141 (_ : Params) : Obj := ⟨.type "tuple", none, .seq [].toArray 0, [].toArray⟩
noncomputable def o142 (_ : Params) : Obj := ⟨.none, none, .fields [].toArray, [].toArray⟩
noncomputable def o143 (_ : Params) : Obj := ⟨.none, none, .func (fdOf (st 17) 0 (.none) (.none)), [].toArray⟩
noncomputable def o144 (_ : Params) : Obj := ⟨.type "code", none, .fields [.str (Str.ofString "_law_piece") 2295, .str (Str.ofString "_law_piece") 2296, .str (Str.ofString "/claim/cut.py") 2297, .int 97 0, .int 1 0, .int 0 0, .int 0 0, .int 3 0, .ref 141, .bool true, .int 181 0, .ref 142, .none, .none, .none, .ref 143, .int 2298 0, .int 97 0, .str (Str.ofString "/claim/cut.py") 2299].toArray, [].toArray⟩
noncomputable def o145 (_ : Params) : Obj := ⟨.type "function", none, .func (fdOf (st 17) 3 (.str (Str.ofString "law_ny0220_01") 2223) (.ref 144)), [].toArray⟩
noncomputable def o146 (_ : Params) : Obj := ⟨.type "tuple", none, .seq [].toArray 0, [].toArray⟩
noncomputable def o147 (_ : Params) : Obj := ⟨.none, none, .fields [].toArray, [].toArray⟩
noncomputable def o148 (_ : Params) : Obj := ⟨.type "tuple", none, .seq [.str (Str.ofString "n") 2304, .str (Str.ofString "great") 2305, .str (Str.ofString "same") 2306, .str (Str.ofString "small") 2307].toArray 0, [].toArray⟩
noncomputable def o149 (_ : Params) : Obj := ⟨.type "tuple", none, .seq [].toArray 0, [].toArray⟩
noncomputable def o150 (_ : Params) : Obj := ⟨.none, none, .func (fdOf (st 18) 0 (.none) (.none)), [].toArray⟩
noncomputable def o151 (_ : Params) : Obj := ⟨.type "code", none, .fields [.str (Str.ofString "_law_tail") 2301, .str (Str.ofString "_law_tail") 2302, .str (Str.ofString "/claim/cut.py") 2303, .int 116 0, .int 1 0, .int 0 0, .int 0 0, .int 3 0, .ref 146, .bool true, .int 181 0, .ref 147, .none, .ref 148, .ref 149, .ref 150, .int 2308 0, .int 116 0, .str (Str.ofString "/claim/cut.py") 2309].toArray, [].toArray⟩
noncomputable def o152 (_ : Params) : Obj := ⟨.type "function", none, .func (fdOf (st 18) 3 (.str (Str.ofString "law_ny0220_01") 2223) (.ref 151)), [].toArray⟩
noncomputable def o153 (_ : Params) : Obj := ⟨.type "tuple", none, .seq [].toArray 0, [].toArray⟩
noncomputable def o154 (_ : Params) : Obj := ⟨.none, none, .fields [].toArray, [].toArray⟩
noncomputable def o155 (_ : Params) : Obj := ⟨.none, none, .func (fdOf (st 19) 0 (.none) (.none)), [].toArray⟩
noncomputable def o156 (_ : Params) : Obj := ⟨.type "code", none, .fields [.str (Str.ofString "_law_header") 2311, .str (Str.ofString "_law_header") 2312, .str (Str.ofString "/claim/cut.py") 2313, .int 119 0, .int 1 0, .int 0 0, .int 0 0, .int 3 0, .ref 153, .bool true, .int 181 0, .ref 154, .none, .none, .none, .ref 155, .int 2314 0, .int 119 0, .str (Str.ofString "/claim/cut.py") 2315].toArray, [].toArray⟩
noncomputable def o157 (_ : Params) : Obj := ⟨.type "function", none, .func (fdOf (st 19) 3 (.str (Str.ofString "law_ny0220_01") 2223) (.ref 156)), [].toArray⟩
noncomputable def o158 (_ : Params) : Obj := ⟨.type "tuple", none, .seq [].toArray 0, [].toArray⟩
noncomputable def o159 (_ : Params) : Obj := ⟨.none, none, .fields [].toArray, [].toArray⟩
noncomputable def o160 (_ : Params) : Obj := ⟨.none, none, .func (fdOf (st 20) 0 (.none) (.none)), [].toArray⟩
noncomputable def o161 (_ : Params) : Obj := ⟨.type "code", none, .fields [.str (Str.ofString "law") 2317, .str (Str.ofString "law") 2318, .str (Str.ofString "/claim/cut.py") 2319, .int 128 0, .int 1 0, .int 0 0, .int 0 0, .int 3 0, .ref 158, .bool true, .int 181 0, .ref 159, .none, .none, .none, .ref 160, .int 2320 0, .int 128 0, .str (Str.ofString "/claim/cut.py") 2321].toArray, [].toArray⟩
noncomputable def o162 (_ : Params) : Obj := ⟨.type "function", none, .func (fdOf (st 20) 3 (.str (Str.ofString "law_ny0220_01") 2223) (.ref 161)), [].toArray⟩
noncomputable def o3a (P : Params) : Obj := ⟨.type "dict", none, .dict [⟨PyData.keyHash P (Str.ofString "__name__"), .str (Str.ofString "__name__") 165, .str (Str.ofString "__main__") 164⟩, ⟨PyData.keyHash P (Str.ofString "__doc__"), .str (Str.ofString "__doc__") 166, .none⟩, ⟨PyData.keyHash P (Str.ofString "__package__"), .str (Str.ofString "__package__") 167, .none⟩, ⟨PyData.keyHash P (Str.ofString "__loader__"), .str (Str.ofString "__loader__") 168, .builtin "__main__.__loader__#opaque"⟩, ⟨PyData.keyHash P (Str.ofString "__spec__"), .str (Str.ofString "__spec__") 169, .none⟩, ⟨PyData.keyHash P (Str.ofString "__annotations__"), .str (Str.ofString "__annotations__") 170, .ref 6⟩, ⟨PyData.keyHash P (Str.ofString "__builtins__"), .str (Str.ofString "__builtins__") 171, .ref 4⟩, ⟨PyData.keyHash P (Str.ofString "__file__"), .str (Str.ofString "__file__") 173, .str (Str.ofString "/claim/cut.py") 172⟩, ⟨PyData.keyHash P (Str.ofString "__cached__"), .str (Str.ofString "__cached__") 174, .none⟩].toArray 9, [].toArray⟩
noncomputable def o12a (_ : Params) : Obj := ⟨.none, none, .fields [].toArray, [].toArray⟩
noncomputable def o3t (P : Params) : Obj := ⟨.type "dict", none, .dict [⟨PyData.keyHash P (Str.ofString "__name__"), .str (Str.ofString "__name__") 165, .str (Str.ofString "cpy313.stringprep") 187⟩, ⟨PyData.keyHash P (Str.ofString "__doc__"), .str (Str.ofString "__doc__") 166, .none⟩, ⟨PyData.keyHash P (Str.ofString "__package__"), .str (Str.ofString "__package__") 167, .none⟩, ⟨PyData.keyHash P (Str.ofString "__loader__"), .str (Str.ofString "__loader__") 168, .builtin "__main__.__loader__#opaque"⟩, ⟨PyData.keyHash P (Str.ofString "__spec__"), .str (Str.ofString "__spec__") 169, .none⟩, ⟨PyData.keyHash P (Str.ofString "__annotations__"), .str (Str.ofString "__annotations__") 170, .ref 6⟩, ⟨PyData.keyHash P (Str.ofString "__builtins__"), .str (Str.ofString "__builtins__") 171, .ref 4⟩, ⟨PyData.keyHash P (Str.ofString "__file__"), .str (Str.ofString "__file__") 173, .str (Str.ofString "/claim/cut.py") 172⟩, ⟨PyData.keyHash P (Str.ofString "__cached__"), .str (Str.ofString "__cached__") 174, .none⟩, ⟨PyData.keyHash P (Str.ofString "b1_set"), .str (Str.ofString "b1_set") 248, .ref 22⟩, ⟨PyData.keyHash P (Str.ofString "in_table_b1"), .str (Str.ofString "in_table_b1") 255, .ref 32⟩].toArray 11, [].toArray⟩
noncomputable def o12t (_ : Params) : Obj := ⟨.none, none, .fields [.int 3 0, .int 0 0, .ref 31].toArray, [].toArray⟩
noncomputable def o3f (P : Params) : Obj := ⟨.type "dict", none, .dict [⟨PyData.keyHash P (Str.ofString "__name__"), .str (Str.ofString "__name__") 165, .str (Str.ofString "cpy313.stringprep") 187⟩, ⟨PyData.keyHash P (Str.ofString "__doc__"), .str (Str.ofString "__doc__") 166, .none⟩, ⟨PyData.keyHash P (Str.ofString "__package__"), .str (Str.ofString "__package__") 167, .none⟩, ⟨PyData.keyHash P (Str.ofString "__loader__"), .str (Str.ofString "__loader__") 168, .builtin "__main__.__loader__#opaque"⟩, ⟨PyData.keyHash P (Str.ofString "__spec__"), .str (Str.ofString "__spec__") 169, .none⟩, ⟨PyData.keyHash P (Str.ofString "__annotations__"), .str (Str.ofString "__annotations__") 170, .ref 6⟩, ⟨PyData.keyHash P (Str.ofString "__builtins__"), .str (Str.ofString "__builtins__") 171, .ref 4⟩, ⟨PyData.keyHash P (Str.ofString "__file__"), .str (Str.ofString "__file__") 173, .str (Str.ofString "/claim/cut.py") 172⟩, ⟨PyData.keyHash P (Str.ofString "__cached__"), .str (Str.ofString "__cached__") 174, .none⟩, ⟨PyData.keyHash P (Str.ofString "b1_set"), .str (Str.ofString "b1_set") 248, .ref 22⟩, ⟨PyData.keyHash P (Str.ofString "in_table_b1"), .str (Str.ofString "in_table_b1") 255, .ref 32⟩, ⟨PyData.keyHash P (Str.ofString "b3_exceptions"), .str (Str.ofString "b3_exceptions") 2206, .ref 33⟩].toArray 12, [].toArray⟩
noncomputable def o12f (_ : Params) : Obj := ⟨.none, none, .fields [.int 3 0, .int 0 0, .ref 31].toArray, [].toArray⟩
/-- the pairs of the table b3_exceptions, read off its display -/
def keyOf : Option Expr → Int
  | some (.Constant (.int i) _ _) => i
  | _ => 0
def valOf : Expr → Str
  | .Constant (.str x) _ _ => x
  | _ => ⟨#[]⟩
def b3 : List (Int × Str) := match st 3 with
  | .Assign _ (.Dict ks vs _) _ => (ks.map keyOf).zip (vs.map valOf)
  | _ => []
def chop : Nat → List (Int × Str) → List (List (Int × Str))
  | 0, _ => []
  | n + 1, l => l.take 17 :: chop n (l.drop 17)
def b3c : List (Int × Str) := b3.take 17
def b3cs : List (List (Int × Str)) := chop 37 (b3.drop 17)
def b3l : List (Int × Str) := b3.drop 646
def b3es : List DictEntry := ents 256 (b3c ++ b3cs.flatten) ++ ents2 2194 b3l
def dObjs : List Obj := dictO b3es :: (subsAll 307 b3cs ++ [dictO (ents2 2194 b3l)])
def dObj (i : Nat) : Obj := dObjs.getD (i - 33) default
abbrev env0 : Env := { scope := pw.main.scope, locals := mainNs, globals := mainNs, cells := [], code := .ref 13, frame := some 14 }
abbrev cE : Code := .body (behindTheImports pw) env0
abbrev B0 : List Frame := [topFrame ⟨0, 0, 0, 0⟩]
noncomputable def hA (P : Params) : Heap := ⟨⟨[boot_o_0 P, boot_o_1 P, boot_o_2 P, o3a P, boot_o_4 P, boot_o_5 P, boot_o_6 P, boot_o_7 P, boot_o_8 P, boot_o_9 P, boot_o_10 P, o11 P, o12a P, o13 P, o14 P]⟩, {}⟩
noncomputable def treeA (P : Params) : BT := .node (boot_o_0 P) (.node (boot_o_1 P) (.node (o3a P) (.node (boot_o_7 P) (.nil) (.nil)) (.node (o11 P) (.nil) (.nil))) (.node (boot_o_5 P) (.node (boot_o_9 P) (.nil) (.nil)) (.node (o13 P) (.nil) (.nil)))) (.node (boot_o_2 P) (.node (boot_o_4 P) (.node (boot_o_8 P) (.nil) (.nil)) (.node (o12a P) (.nil) (.nil))) (.node (boot_o_6 P) (.node (boot_o_10 P) (.nil) (.nil)) (.node (o14 P) (.nil) (.nil))))
noncomputable def treeT (P : Params) : BT := .node (boot_o_0 P) (.node (boot_o_1 P) (.node (o3t P) (.node (boot_o_7 P) (.node (o15 P) (.node (o31 P) (.nil) (.nil)) (.nil)) (.node (o23 P) (.nil) (.nil))) (.node (o11 P) (.node (o19 P) (.nil) (.nil)) (.node (o27 P) (.nil) (.nil)))) (.node (boot_o_5 P) (.node (boot_o_9 P) (.node (o17 P) (.nil) (.nil)) (.node (o25 P) (.nil) (.nil))) (.node (o13 P) (.node (o21 P) (.nil) (.nil)) (.node (o29 P) (.nil) (.nil))))) (.node (boot_o_2 P) (.node (boot_o_4 P) (.node (boot_o_8 P) (.node (o16 P) (.node (o32 P) (.nil) (.nil)) (.nil)) (.node (o24 P) (.nil) (.nil))) (.node (o12t P) (.node (o20 P) (.nil) (.nil)) (.node (o28 P) (.nil) (.nil)))) (.node (boot_o_6 P) (.node (boot_o_10 P) (.node (o18 P) (.nil) (.nil)) (.node (o26 P) (.nil) (.nil))) (.node (o14 P) (.node (o22 P) (.nil) (.nil)) (.node (o30 P) (.nil) (.nil)))))
noncomputable def treeF0 (P : Params) : BT := .node (boot_o_0 P) (.node (boot_o_1 P) (.node (o3t P) (.node (boot_o_7 P) (.node (o15 P) (.node (o31 P) (.node (dObj 63) (.nil) (.nil)) (.nil)) (.node (dObj 47) (.nil) (.nil))) (.node (o23 P) (.node (dObj 39) (.node (dObj 71) (.nil) (.nil)) (.nil)) (.node (dObj 55) (.nil) (.nil)))) (.node (o11 P) (.node (o19 P) (.node (dObj 35) (.node (dObj 67) (.nil) (.nil)) (.nil)) (.node (dObj 51) (.nil) (.nil))) (.node (o27 P) (.node (dObj 43) (.nil) (.nil)) (.node (dObj 59) (.nil) (.nil))))) (.node (boot_o_5 P) (.node (boot_o_9 P) (.node (o17 P) (.node (dObj 33) (.node (dObj 65) (.nil) (.nil)) (.nil)) (.node (dObj 49) (.nil) (.nil))) (.node (o25 P) (.node (dObj 41) (.nil) (.nil)) (.node (dObj 57) (.nil) (.nil)))) (.node (o13 P) (.node (o21 P) (.node (dObj 37) (.node (dObj 69) (.nil) (.nil)) (.nil)) (.node (dObj 53) (.nil) (.nil))) (.node (o29 P) (.node (dObj 45) (.nil) (.nil)) (.node (dObj 61) (.nil) (.nil)))))) (.node (boot_o_2 P) (.node (boot_o_4 P) (.node (boot_o_8 P) (.node (o16 P) (.node (o32 P) (.node (dObj 64) (.nil) (.nil)) (.nil)) (.node (dObj 48) (.nil) (.nil))) (.node (o24 P) (.node (dObj 40) (.nil) (.nil)) (.node (dObj 56) (.nil) (.nil)))) (.node (o12t P) (.node (o20 P) (.node (dObj 36) (.node (dObj 68) (.nil) (.nil)) (.nil)) (.node (dObj 52) (.nil) (.nil))) (.node (o28 P) (.node (dObj 44) (.nil) (.nil)) (.node (dObj 60) (.nil) (.nil))))) (.node (boot_o_6 P) (.node (boot_o_10 P) (.node (o18 P) (.node (dObj 34) (.node (dObj 66) (.nil) (.nil)) (.nil)) (.node (dObj 50) (.nil) (.nil))) (.node (o26 P) (.node (dObj 42) (.nil) (.nil)) (.node (dObj 58) (.nil) (.nil)))) (.node (o14 P) (.node (o22 P) (.node (dObj 38) (.node (dObj 70) (.nil) (.nil)) (.nil)) (.node (dObj 54) (.nil) (.nil))) (.node (o30 P) (.node (dObj 46) (.nil) (.nil)) (.node (dObj 62) (.nil) (.nil))))))
noncomputable def treeF (P : Params) : BT := .node (boot_o_0 P) (.node (boot_o_1 P) (.node (o3f P) (.node (boot_o_7 P) (.node (o15 P) (.node (o31 P) (.node (dObj 63) (.nil) (.nil)) (.nil)) (.node (dObj 47) (.nil) (.nil))) (.node (o23 P) (.node (dObj 39) (.node (dObj 71) (.nil) (.nil)) (.nil)) (.node (dObj 55) (.nil) (.nil)))) (.node (o11 P) (.node (o19 P) (.node (dObj 35) (.node (dObj 67) (.nil) (.nil)) (.nil)) (.node (dObj 51) (.nil) (.nil))) (.node (o27 P) (.node (dObj 43) (.nil) (.nil)) (.node (dObj 59) (.nil) (.nil))))) (.node (boot_o_5 P) (.node (boot_o_9 P) (.node (o17 P) (.node (dObj 33) (.node (dObj 65) (.nil) (.nil)) (.nil)) (.node (dObj 49) (.nil) (.nil))) (.node (o25 P) (.node (dObj 41) (.nil) (.nil)) (.node (dObj 57) (.nil) (.nil)))) (.node (o13 P) (.node (o21 P) (.node (dObj 37) (.node (dObj 69) (.nil) (.nil)) (.nil)) (.node (dObj 53) (.nil) (.nil))) (.node (o29 P) (.node (dObj 45) (.nil) (.nil)) (.node (dObj 61) (.nil) (.nil)))))) (.node (boot_o_2 P) (.node (boot_o_4 P) (.node (boot_o_8 P) (.node (o16 P) (.node (o32 P) (.node (dObj 64) (.nil) (.nil)) (.nil)) (.node (dObj 48) (.nil) (.nil))) (.node (o24 P) (.node (dObj 40) (.nil) (.nil)) (.node (dObj 56) (.nil) (.nil)))) (.node (o12f P) (.node (o20 P) (.node (dObj 36) (.node (dObj 68) (.nil) (.nil)) (.nil)) (.node (dObj 52) (.nil) (.nil))) (.node (o28 P) (.node (dObj 44) (.nil) (.nil)) (.node (dObj 60) (.nil) (.nil))))) (.node (boot_o_6 P) (.node (boot_o_10 P) (.node (o18 P) (.node (dObj 34) (.node (dObj 66) (.nil) (.nil)) (.nil)) (.node (dObj 50) (.nil) (.nil))) (.node (o26 P) (.node (dObj 42) (.nil) (.nil)) (.node (dObj 58) (.nil) (.nil)))) (.node (o14 P) (.node (o22 P) (.node (dObj 38) (.node (dObj 70) (.nil) (.nil)) (.nil)) (.node (dObj 54) (.nil) (.nil))) (.node (o30 P) (.node (dObj 46) (.nil) (.nil)) (.node (dObj 62) (.nil) (.nil))))))
noncomputable def treeZ (P : Params) : BT := .node (boot_o_0 P) (.node (boot_o_1 P) (.node (o3 P) (.node (boot_o_7 P) (.node (o15 P) (.node (o31 P) (.node (dObj 63) (.node (o127 P) (.nil) (.nil)) (.nil)) (.node (o95 P) (.node (o159 P) (.nil) (.nil)) (.nil))) (.node (dObj 47) (.node (o79 P) (.node (o143 P) (.nil) (.nil)) (.nil)) (.node (o111 P) (.nil) (.nil)))) (.node (o23 P) (.node (dObj 39) (.node (dObj 71) (.node (o135 P) (.nil) (.nil)) (.nil)) (.node (o103 P) (.nil) (.nil))) (.node (dObj 55) (.node (o87 P) (.node (o151 P) (.nil) (.nil)) (.nil)) (.node (o119 P) (.nil) (.nil))))) (.node (o11 P) (.node (o19 P) (.node (dObj 35) (.node (dObj 67) (.node (o131 P) (.nil) (.nil)) (.nil)) (.node (o99 P) (.nil) (.nil))) (.node (dObj 51) (.node (o83 P) (.node (o147 P) (.nil) (.nil)) (.nil)) (.node (o115 P) (.nil) (.nil)))) (.node (o27 P) (.node (dObj 43) (.node (o75 P) (.node (o139 P) (.nil) (.nil)) (.nil)) (.node (o107 P) (.nil) (.nil))) (.node (dObj 59) (.node (o91 P) (.node (o155 P) (.nil) (.nil)) (.nil)) (.node (o123 P) (.nil) (.nil)))))) (.node (boot_o_5 P) (.node (boot_o_9 P) (.node (o17 P) (.node (dObj 33) (.node (dObj 65) (.node (o129 P) (.nil) (.nil)) (.nil)) (.node (o97 P) (.node (o161 P) (.nil) (.nil)) (.nil))) (.node (dObj 49) (.node (o81 P) (.node (o145 P) (.nil) (.nil)) (.nil)) (.node (o113 P) (.nil) (.nil)))) (.node (o25 P) (.node (dObj 41) (.node (o73 P) (.node (o137 P) (.nil) (.nil)) (.nil)) (.node (o105 P) (.nil) (.nil))) (.node (dObj 57) (.node (o89 P) (.node (o153 P) (.nil) (.nil)) (.nil)) (.node (o121 P) (.nil) (.nil))))) (.node (o13 P) (.node (o21 P) (.node (dObj 37) (.node (dObj 69) (.node (o133 P) (.nil) (.nil)) (.nil)) (.node (o101 P) (.nil) (.nil))) (.node (dObj 53) (.node (o85 P) (.node (o149 P) (.nil) (.nil)) (.nil)) (.node (o117 P) (.nil) (.nil)))) (.node (o29 P) (.node (dObj 45) (.node (o77 P) (.node (o141 P) (.nil) (.nil)) (.nil)) (.node (o109 P) (.nil) (.nil))) (.node (dObj 61) (.node (o93 P) (.node (o157 P) (.nil) (.nil)) (.nil)) (.node (o125 P) (.nil) (.nil))))))) (.node (boot_o_2 P) (.node (boot_o_4 P) (.node (boot_o_8 P) (.node (o16 P) (.node (o32 P) (.node (dObj 64) (.node (o128 P) (.nil) (.nil)) (.nil)) (.node (o96 P) (.node (o160 P) (.nil) (.nil)) (.nil))) (.node (dObj 48) (.node (o80 P) (.node (o144 P) (.nil) (.nil)) (.nil)) (.node (o112 P) (.nil) (.nil)))) (.node (o24 P) (.node (dObj 40) (.node (o72 P) (.node (o136 P) (.nil) (.nil)) (.nil)) (.node (o104 P) (.nil) (.nil))) (.node (dObj 56) (.node (o88 P) (.node (o152 P) (.nil) (.nil)) (.nil)) (.node (o120 P) (.nil) (.nil))))) (.node (o12 P) (.node (o20 P) (.node (dObj 36) (.node (dObj 68) (.node (o132 P) (.nil) (.nil)) (.nil)) (.node (o100 P) (.nil) (.nil))) (.node (dObj 52) (.node (o84 P) (.node (o148 P) (.nil) (.nil)) (.nil)) (.node (o116 P) (.nil) (.nil)))) (.node (o28 P) (.node (dObj 44) (.node (o76 P) (.node (o140 P) (.nil) (.nil)) (.nil)) (.node (o108 P) (.nil) (.nil))) (.node (dObj 60) (.node (o92 P) (.node (o156 P) (.nil) (.nil)) (.nil)) (.node (o124 P) (.nil) (.nil)))))) (.node (boot_o_6 P) (.node (boot_o_10 P) (.node (o18 P) (.node (dObj 34) (.node (dObj 66) (.node (o130 P) (.nil) (.nil)) (.nil)) (.node (o98 P) (.node (o162 P) (.nil) (.nil)) (.nil))) (.node (dObj 50) (.node (o82 P) (.node (o146 P) (.nil) (.nil)) (.nil)) (.node (o114 P) (.nil) (.nil)))) (.node (o26 P) (.node (dObj 42) (.node (o74 P) (.node (o138 P) (.nil) (.nil)) (.nil)) (.node (o106 P) (.nil) (.nil))) (.node (dObj 58) (.node (o90 P) (.node (o154 P) (.nil) (.nil)) (.nil)) (.node (o122 P) (.nil) (.nil))))) (.node (o14 P) (.node (o22 P) (.node (dObj 38) (.node (dObj 70) (.node (o134 P) (.nil) (.nil)) (.nil)) (.node (o102 P) (.nil) (.nil))) (.node (dObj 54) (.node (o86 P) (.node (o150 P) (.nil) (.nil)) (.nil)) (.node (o118 P) (.nil) (.nil)))) (.node (o30 P) (.node (dObj 46) (.node (o78 P) (.node (o142 P) (.nil) (.nil)) (.nil)) (.node (o110 P) (.nil) (.nil))) (.node (dObj 62) (.node (o94 P) (.node (o158 P) (.nil) (.nil)) (.nil)) (.node (o126 P) (.nil) (.nil)))))))
noncomputable def hZ (P : Params) : Heap := ⟨⟨[boot_o_0 P, boot_o_1 P, boot_o_2 P, o3 P, boot_o_4 P, boot_o_5 P, boot_o_6 P, boot_o_7 P, boot_o_8 P, boot_o_9 P, boot_o_10 P, o11 P, o12 P, o13 P, o14 P, o15 P, o16 P, o17 P, o18 P, o19 P, o20 P, o21 P, o22 P, o23 P, o24 P, o25 P, o26 P, o27 P, o28 P, o29 P, o30 P, o31 P, o32 P, dObj 33, dObj 34, dObj 35, dObj 36, dObj 37, dObj 38, dObj 39, dObj 40, dObj 41, dObj 42, dObj 43, dObj 44, dObj 45, dObj 46, dObj 47, dObj 48, dObj 49, dObj 50, dObj 51, dObj 52, dObj 53, dObj 54, dObj 55, dObj 56, dObj 57, dObj 58, dObj 59, dObj 60, dObj 61, dObj 62, dObj 63, dObj 64, dObj 65, dObj 66, dObj 67, dObj 68, dObj 69, dObj 70, dObj 71, o72 P, o73 P, o74 P, o75 P, o76 P, o77 P, o78 P, o79 P, o80 P, o81 P, o82 P, o83 P, o84 P, o85 P, o86 P, o87 P, o88 P, o89 P, o90 P, o91 P, o92 P, o93 P, o94 P, o95 P, o96 P, o97 P, o98 P, o99 P, o100 P, o101 P, o102 P, o103 P, o104 P, o105 P, o106 P, o107 P, o108 P, o109 P, o110 P, o111 P, o112 P, o113 P, o114 P, o115 P, o116 P, o117 P, o118 P, o119 P, o120 P, o121 P, o122 P, o123 P, o124 P, o125 P, o126 P, o127 P, o128 P, o129 P, o130 P, o131 P, o132 P, o133 P, o134 P, o135 P, o136 P, o137 P, o138 P, o139 P, o140 P, o141 P, o142 P, o143 P, o144 P, o145 P, o146 P, o147 P, o148 P, o149 P, o150 P, o151 P, o152 P, o153 P, o154 P, o155 P, o156 P, o157 P, o158 P, o159 P, o160 P, o161 P, o162 P]⟩, {}⟩
noncomputable abbrev SA (w : World) (os : OsState) : SharedT := ⟨treeA w.params, 15, {}, #[], {}, 187, os⟩
noncomputable abbrev ST (w : World) (os : OsState) : SharedT := ⟨treeT w.params, 33, {}, #[], {}, 256, os⟩
noncomputable abbrev SF0 (w : World) (os : OsState) : SharedT := ⟨treeF0 w.params, 72, {}, #[], {}, 2206, os⟩
noncomputable abbrev SF (w : World) (os : OsState) : SharedT := ⟨treeF w.params, 72, {}, #[], {}, 2207, os⟩
noncomputable abbrev SZ (w : World) (os : OsState) : SharedT := ⟨treeZ w.params, 163, {}, #[], {}, 2323, os⟩
end Mine
end
section
open PySem PySem.W PyProof.Rows
set_option maxRecDepth 100000
namespace Mine
theorem pre : ∀ (w : World), (fun os => topGo treeTable pw w 11 (some (.ref 6)) 12 ⟨boot_heap w.params, #[], boot_drawn, boot_toks, os⟩ (topStub pw)) = fun os => some (⟨hA w.params, #[], {}, 187, os⟩, ⟨denote treeTable cE, cE, ⟨0, 0, 0, 0⟩, B0⟩) := by
  intro w
  rw [PySem.W.Fast.te15667345088766844465, PySem.W.Fast.te11892475500146522536]
  kernel_rfl
theorem block : ∀ (w : World), (fun os => segRun treeTable pw w 11 (some (.ref 6)) 1 1 ⟨hA w.params, #[], {}, 187, os⟩ (blockOf (behindTheImports pw) env0 cE ⟨0, 0, 0, 0⟩ B0)) = fun os => some (.next, (SA w os).abs, cE, ⟨0, 0, 0, 0⟩) := by
  intro w
  kernel_rfl
end Mine
end
section
open PySem PySem.W PyProof.Rows
set_option maxRecDepth 100000
namespace Mine
def PA (w : World) : Prop := (fun os => segRunT treeTable pw w 11 (some (.ref 6)) 1 1037 (SA w os) ⟨(execs [st 0, st 1, st 2] env0).wrap doneF deadEnd id id, cE, ⟨0, 0, 0, 0⟩, B0⟩) = fun os => some (.next, ST w os, cE, ⟨3, 0, 4, 30⟩)
theorem pieceA00 (w : World) : PA ((w.withFollow "set-order" false).withFollow "special-get-raises" false) := by
  unfold PA
  rw [PySem.W.Fast.te10110043849684766642, PySem.W.Fast.te14364793385576792824, PySem.W.Fast.te12563942051412417395]
  kernel_rfl
theorem pieceA01 (w : World) : PA ((w.withFollow "set-order" false).withFollow "special-get-raises" true) := by
  unfold PA
  rw [PySem.W.Fast.te10110043849684766642, PySem.W.Fast.te14364793385576792824, PySem.W.Fast.te12563942051412417395]
  kernel_rfl
theorem pieceA10 (w : World) : PA ((w.withFollow "set-order" true).withFollow "special-get-raises" false) := by
  unfold PA
  rw [PySem.W.Fast.te10110043849684766642, PySem.W.Fast.te14364793385576792824, PySem.W.Fast.te12563942051412417395]
  kernel_rfl
theorem pieceA11 (w : World) : PA ((w.withFollow "set-order" true).withFollow "special-get-raises" true) := by
  unfold PA
  rw [PySem.W.Fast.te10110043849684766642, PySem.W.Fast.te14364793385576792824, PySem.W.Fast.te12563942051412417395]
  kernel_rfl
theorem pieceA (w : World) : PA w :=
  byRow2 "special-get-raises" (byRow2 "set-order" (P := fun w => PA (w.withFollow "special-get-raises" false)) pieceA00 pieceA10) (byRow2 "set-order" (P := fun w => PA (w.withFollow "special-get-raises" true)) pieceA01 pieceA11) w
theorem pieceC (w : World) : (fun os => segRunT treeTable pw w 11 (some (.ref 6)) 1 447 (SF w os) ⟨(execs [st 4, st 5, st 6, st 7, st 8, st 9, st 10, st 11, st 12, st 13, st 14, st 15, st 16, st 17, st 18, st 19, st 20] env0).wrap doneF deadEnd id id, cE, ⟨5, 0, 5, 13⟩, B0⟩) = fun os => some (.next, SZ w os, cE, ⟨128, 0, 134, 115⟩) := by
  rw [PySem.W.Fast.te10110043849684766642, PySem.W.Fast.te14364793385576792824, PySem.W.Fast.te12563942051412417395]
  kernel_rfl
theorem fin (w : World) : (fun os => topRun treeTable pw w 11 (some (.ref 6)) 2 (SZ w os).abs ⟨doneF .next, cE, ⟨128, 0, 134, 115⟩, B0⟩) = fun os => some ⟨hZ w.params, #[], {}, 2323, os⟩ := by
  kernel_rfl
end Mine
end
section
open PySem PySem.W PyProof.Rows
set_option maxRecDepth 100000
namespace Mine
abbrev p1 : Pos := ⟨5, 0, 5, 8704⟩
abbrev p2 : Pos := ⟨5, 16, 5, 8704⟩
def tg3 : List Expr := match st 3 with
  | .Assign t _ _ => t
  | _ => []
def ks3 : List (Option Expr) := match st 3 with
  | .Assign _ (.Dict ks _ _) _ => ks
  | _ => []
def vs3 : List Expr := match st 3 with
  | .Assign _ (.Dict _ vs _) _ => vs
  | _ => []
theorem st3_is : st 3 = .Assign tg3 (.Dict ks3 vs3 p2) p1 := by kernel_rfl
theorem items3 : ((evalEachOpt ks3 env0).zip ((evalEach vs3 env0).map fun v => do let x ← v; standAt p2; pure x)) = items p2 b3 := by kernel_rfl
theorem sole3 : swapsWithSole tg3 (.Dict ks3 vs3 p2) 5 env0 = pure false := by kernel_rfl
/-- what the statement does with the table -/
def K3 (v : Value) : Sem Flow := do
  let ss ← swappedStores tg3 (.Dict ks3 vs3 p2) env0
  assignStores env0 v ss ((assignEach tg3 env0).map (·.2))
theorem exec_assign (t : List Expr) (v : Expr) (p : Pos) (env : Env) : exec (.Assign t v p) env = (do
    standAt p
    if ← swapsWithSole t v p.line env then do
      evalThenUse v env fun x => assignAll x ((assignEach t env).map (·.2))
      pure .next
    else do
      let x ← eval v env
      assignStores env x (← swappedStores t v env) ((assignEach t env).map (·.2))) := by kernel_rfl
theorem eval_dict (ks : List (Option Expr)) (vs : List Expr) (pos : Pos) (env : Env) : eval (.Dict ks vs pos) env = (do
    standAt pos
    dictDisplay ((evalEachOpt ks env).zip ((evalEach vs env).map fun v => do let x ← v; standAt pos; pure x))) := by kernel_rfl
theorem exec3 : exec (st 3) env0 = (do standAt p1; let v ← (do standAt p2; dictDisplay (items p2 b3)); K3 v) := by
  rw [st3_is, exec_assign, eval_dict, items3, sole3]
  kernel_rfl
end Mine
end
section
open PySem PySem.W PyProof.Rows
set_option maxRecDepth 100000
namespace Mine
theorem hp_nil (h : Heap) : hp h [] = h := by
  cases h
  simp [hp]
theorem listF0 (P : Params) : (treeF0 P).list 72 = (treeT P).list 33 ++ dObjs := by kernel_rfl
theorem heapF0 (P : Params) : hp (absHeap (treeT P) 33 {}) dObjs = absHeap (treeF0 P) 72 {} := by
  unfold absHeap hp
  rw [listF0]
  simp
def rises : List Int → Bool
  | [] => true
  | [_] => true
  | a :: b :: r => decide (a < b) && rises (b :: r)
theorem rises_spec : ∀ (l : List Int), rises l = true → l.Pairwise (· < ·)
  | [], _ => .nil
  | [a], _ => .cons (fun b hb => nomatch hb) .nil
  | a :: b :: r, h => by
    rw [rises, Bool.and_eq_true] at h
    have ih := rises_spec (b :: r) h.2
    have hab := of_decide_eq_true h.1
    refine .cons (fun x hx => ?_) ih
    rcases List.mem_cons.mp hx with rfl | hx
    · exact hab
    · exact Int.lt_trans hab ((List.pairwise_cons.mp ih).1 x hx)
theorem b3_rises : rises (b3.map (·.1)) = true := by decide +kernel
theorem b3_small : (b3.all fun x => decide (0 ≤ x.1) && decide (x.1 < 2 ^ 60)) = true := by decide +kernel
theorem b3_len : b3.length = 650 := by decide +kernel
theorem b3_split : b3 = b3c ++ (b3cs.flatten ++ b3l) := by kernel_rfl
theorem b3c_len : b3c.length = 17 := by decide +kernel
theorem b3cs_lens : (b3cs.all fun c => c.length == 17) = true := by decide +kernel
theorem b3cs_len : b3cs.length = 37 := by decide +kernel
theorem b3l_len : b3l.length = 4 := by decide +kernel
theorem b3_fit : Fit [] (b3c ++ (b3cs.flatten ++ b3l)) := by
  rw [← b3_split]
  refine ⟨fun e he => (nomatch he), (rises_spec _ b3_rises).imp (fun h => Int.ne_of_lt h), fun x hx => ?_, by rw [b3_len]; decide⟩
  have := List.all_eq_true.mp b3_small x hx
  simpa using this
theorem pieceK (w : World) : (fun os => segRunT treeTable pw w 11 (some (.ref 6)) 1 8 (SF0 w os) ⟨(K3 (.ref 33)).wrap doneF deadEnd id id, cE, p2, B0⟩) = fun os => some (.next, SF w os, cE, ⟨5, 0, 5, 13⟩) := by
  kernel_rfl
theorem sizeT (P : Params) : (absHeap (treeT P) 33 {}).objs.size = 33 := absHeap_size _ _ _
theorem ex3 (w : World) (os : OsState) : Ex pw w (223 + 330 * 37 + (6 + 19 * 4)) (dictDisplay (items p2 b3)) (ST w os).abs p2 (.ref 33) (SF0 w os).abs p2 := by
  have h := ex_display (p := pw) (w := w) (h := absHeap (treeT w.params) 33 {}) (g := #[]) (d := {}) (os := os) (q := p2) (tk := 256) (by rw [sizeT]; decide) b3c_len (fun c hc => by simpa using List.all_eq_true.mp b3cs_lens c hc) (by rw [b3l_len]; decide) (by intro e; have := b3l_len; rw [e] at this; cases this) b3_fit
  rw [← b3_split, b3cs_len, b3l_len] at h
  unfold sh at h
  rw [hp_nil, sizeT] at h
  have e : hp (absHeap (treeT w.params) 33 {}) (dictO (ents 256 (b3c ++ b3cs.flatten) ++ ents2 (256 + 51 * (37 + 1)) b3l) :: (subsAll (256 + 51) b3cs ++ [dictO (ents2 (256 + 51 * (37 + 1)) b3l)])) = absHeap (treeF0 w.params) 72 {} := heapF0 w.params
  rw [e] at h
  exact h
theorem seg_of_ex {p : Program} {w : World} {α : Type} {n N : Nat} {m : Sem α} {s s' : Shared} {q q' : Pos} {a : α} {K : α → Sem Fin} {H : Value → Sem Fin} {gd : Bool → Bool} {lv : List Value → List Value} {c : Code} {st : List Frame} {r : Flow × Shared × Code × Pos}
    (h : Ex p w n m s q a s' q') (hst : st ≠ []) (k : segRun treeTable p w 11 (some (.ref 6)) 1 N s' ⟨K a, c, q', st⟩ = some r) : segRun treeTable p w 11 (some (.ref 6)) 1 (n + N) s ⟨m.wrap K H gd lv, c, q, st⟩ = some r := by
  refine seg_go (s' := s') (t' := ⟨K a, c, q', st⟩) ?_ k
  have := h K H gd lv c st 0 hst
  rw [Nat.add_zero] at this
  rw [show segGo treeTable p w 11 (some (.ref 6)) 1 n s ⟨m.wrap K H gd lv, c, q, st⟩ = _ from this]
  rfl
theorem piece3 (w : World) (os : OsState) : segRun treeTable pw w 11 (some (.ref 6)) 1 12525 (ST w os).abs (pieceOf (st 3) env0 cE ⟨3, 0, 4, 30⟩ B0) = some (.next, (SF w os).abs, cE, ⟨5, 0, 5, 13⟩) := by
  show segRun _ _ _ _ _ _ _ _ ⟨(exec (st 3) env0).wrap doneF deadEnd id id, cE, ⟨3, 0, 4, 30⟩, B0⟩ = _
  rw [exec3, Sem.bind_eq_wrap', Sem.wrap_wrap]
  rw [show (12525 : Nat) = 1 + (12516 + 8) from rfl]
  refine seg_of_ex ex_at (by simp) ?_
  rw [Sem.bind_eq_wrap', Sem.wrap_wrap]
  refine seg_of_ex (n := 12516) (ex_bind (n := 1) (k := 12515) ex_at (ex3 w os)) (by simp) ?_
  exact segRun_of (congrFun (pieceK w) os)
theorem run (w : World) (os : OsState) : topRun treeTable pw w 11 (some (.ref 6)) (12 + (1 + (1037 + (12525 + (447 + 2))))) ⟨boot_heap w.params, #[], boot_drawn, boot_toks, os⟩ (topStub pw) = some ⟨hZ w.params, #[], {}, 2323, os⟩ := by
  refine go_top (congrFun (pre w) os) ?_
  refine piece_block (congrFun (block w) os) ?_
  have e : behindTheImports pw = [st 0, st 1, st 2] ++ (st 3 :: ([st 4, st 5, st 6, st 7, st 8, st 9, st 10, st 11, st 12, st 13, st 14, st 15, st 16, st 17, st 18, st 19, st 20] ++ [])) := by kernel_rfl
  rw [show restOf (behindTheImports pw) env0 cE ⟨0, 0, 0, 0⟩ [topFrame ⟨0, 0, 0, 0⟩] = restOf ([st 0, st 1, st 2] ++ (st 3 :: ([st 4, st 5, st 6, st 7, st 8, st 9, st 10, st 11, st 12, st 13, st 14, st 15, st 16, st 17, st 18, st 19, st 20] ++ []))) env0 cE ⟨0, 0, 0, 0⟩ [topFrame ⟨0, 0, 0, 0⟩] from congrArg (fun b => restOf b env0 cE ⟨0, 0, 0, 0⟩ [topFrame ⟨0, 0, 0, 0⟩]) e]
  refine piece_app (segRun_of (congrFun (show (fun os => segRunT treeTable pw w 11 (some (.ref 6)) 1 1037 (SA w os) ⟨(execs [st 0, st 1, st 2] env0).wrap doneF deadEnd id id, cE, ⟨0, 0, 0, 0⟩, B0⟩) = fun os => some (.next, ST w os, cE, ⟨3, 0, 4, 30⟩) from pieceA w) os)) ?_
  refine piece_cons (piece3 w os) ?_
  refine piece_app (segRun_of (congrFun (pieceC w) os)) ?_
  exact piece_nil (congrFun (fin w) os)
end Mine
end
section
open PySem PySem.W PyProof.Rows
set_option maxRecDepth 100000
namespace Mine
def keep0 : List Nat := [1, 2, 3, 4, 6, 8, 9, 10, 11, 12, 13, 14, 15, 16, 17, 18, 19, 20]
def qv : Program := view pw keep0
abbrev loose0 : List Str := [Str.ofString "b1_set", Str.ofString "b3_exceptions"]
noncomputable def KF (P : Params) : Frag := [(3, o3 P), (32, o32 P), (31, o31 P), (78, o78 P), (77, o77 P), (83, o83 P), (82, o82 P), (90, o90 P), (89, o89 P), (95, o95 P), (94, o94 P), (100, o100 P), (99, o99 P), (107, o107 P), (106, o106 P), (112, o112 P), (111, o111 P), (119, o119 P), (118, o118 P), (126, o126 P), (125, o125 P), (133, o133 P), (132, o132 P), (140, o140 P), (139, o139 P), (145, o145 P), (144, o144 P), (152, o152 P), (151, o151 P), (157, o157 P), (156, o156 P), (162, o162 P), (161, o161 P), (22, o22 P), (33, dObj 33), (2, boot_o_2 P)]
abbrev asK : List Addr := [3, 32, 31, 78, 77, 83, 82, 90, 89, 95, 94, 100, 99, 107, 106, 112, 111, 119, 118, 126, 125, 133, 132, 140, 139, 145, 144, 152, 151, 157, 156, 162, 161, 22, 33, 2]
noncomputable abbrev hook : Hook := kHook KF asK (fun _ => by kernel_rfl)
abbrev Xt0 (s : Shared) : Bool := xlAt qv [] s && recOk [] s
theorem opens (N : Nat) (hN : Nat.ble 600 N = true) : ∀ w : World, (fencedOpening treeTable pw w N).map (fun s => (s.heap, s.gens, s.drawn, s.toks)) = some (boot_heap w.params, Array.mk [], boot_drawn, boot_toks) :=
  boot_open (by kernel_rfl) hN (fun s => by kernel_rfl)
theorem size0 : ∀ w : World, ((boot_heap w.params).isNs mainGlobals && (Array.mk [] : Array GenState).size == 0, (boot_heap w.params).objs.size, (boot_heap w.params).nsMap mainGlobals "__annotations__") = (true, 11, some (.ref 6)) := by
  intro w
  rw [PySem.W.Fast.te8920871248978507458]
  kernel_rfl
theorem look1 (w : World) (os : OsState) : (staticsOk (importedModules pw.main.body) (boot_heap w.params) (hZ w.params) && namesBound pw (hZ w.params) && gensDone ⟨hZ w.params, #[], {}, 2323, os⟩ && laidKept (boot_heap w.params) (hZ w.params)) = true := by
  kernel_rfl
theorem look3 (w : World) (os : OsState) : hook.obs ⟨hZ w.params, #[], {}, 2323, os⟩ = hook.val w := by
  kernel_rfl
theorem no_key (k : Int) : ∀ ps : List (Int × Str), (∀ x ∈ ps, x.1 ≠ k) → hasIntKey k (ps.map fun x => (PyData.int x.1, PyData.str x.2)) = false
  | [], _ => rfl
  | x :: r, h => by
    show ((x.1 == k) || hasIntKey k (r.map fun x => (PyData.int x.1, PyData.str x.2))) = false
    rw [no_key k r fun y hy => h y (.tail _ hy), beq_eq_false_iff_ne.mpr (h x (.head _))]; rfl
theorem keys_apart : ∀ ps : List (Int × Str), (ps.map (·.1)).Pairwise (· < ·) → keysApartInt (ps.map fun x => (PyData.int x.1, PyData.str x.2)) = true
  | [], _ => rfl
  | x :: r, h => by
    rw [List.map_cons, List.pairwise_cons] at h
    show (!hasIntKey x.1 (r.map fun x => (PyData.int x.1, PyData.str x.2)) && keysApartInt (r.map fun x => (PyData.int x.1, PyData.str x.2))) = true
    rw [keys_apart r h.2, no_key x.1 r fun y hy e => absurd (h.1 y.1 (List.mem_map.mpr ⟨y, hy, rfl⟩)) (by rw [e]; exact Int.lt_irrefl _)]; rfl
abbrev b3d : List (PyData × PyData) := b3.map fun x => (PyData.int x.1, PyData.str x.2)
theorem tab_names : valNames qv = [Str.ofString "b1_set", Str.ofString "b3_exceptions"] := by kernel_rfl
theorem tab_of1 : (tupIntsOf qv (Str.ofString "b1_set"), tupStrsOf qv (Str.ofString "b1_set"), tabIntOf qv (Str.ofString "b1_set")) = (none, none, none) := by kernel_rfl
theorem tab_of2 : (tupIntsOf qv (Str.ofString "b3_exceptions"), tupStrsOf qv (Str.ofString "b3_exceptions")) = (none, none) := by kernel_rfl
theorem tab_of3 : tabIntOf qv (Str.ofString "b3_exceptions") = some b3d := by kernel_rfl
theorem ents_ok : entriesAreInt b3es b3d = true := by kernel_rfl
theorem look_b3 (P : Params) : (hZ P).nsMap mainGlobals (Str.ofString "b3_exceptions") = some (.ref 33) := by
  rw [PySem.W.Fast.te8920871248978507458]
  kernel_rfl
theorem get_b3o (P : Params) : (hZ P).get? 33 = some (dictO b3es) := by kernel_rfl
theorem tab_int_ok {h : Heap} {x : Str} {a : Addr} {es : List DictEntry} {D : List (PyData × PyData)} (h1 : h.nsMap mainGlobals x = some (.ref a)) (h2 : h.get? a = some (dictO es)) (h3 : entriesAreInt es D = true) (h4 : keysApartInt D = true) (h5 : (a != sysModules) = true) : h.tabIntOk x D = true := by
  unfold Heap.tabIntOk
  rw [h1]
  dsimp only
  rw [h2]
  show (("dict" == "dict") && ((dictO es).slots.size == 0) && entriesAreInt es.toArray.toList D && keysApartInt D && (a != sysModules)) = true
  rw [List.toList_toArray, h3, h4, h5]; rfl
theorem look_tab (P : Params) : tablesOk qv (hZ P) = true := by
  have h1 := tab_of1
  have h2 := tab_of2
  simp only [Prod.mk.injEq] at h1 h2
  obtain ⟨a1, a2, a3⟩ := h1
  obtain ⟨c1, c2⟩ := h2
  unfold tablesOk
  rw [tab_names, List.all_cons, List.all_cons, List.all_nil, a1, a2, a3, c1, c2, tab_of3]
  dsimp only
  rw [tab_int_ok (look_b3 P) (get_b3o P) ents_ok (keys_apart _ (rises_spec _ b3_rises)) (by decide)]; rfl
theorem look2 (w : World) (os : OsState) : openSeen qv loose0 (importedModules pw.main.body) Xt0 true ⟨hZ w.params, #[], {}, 2323, os⟩ = openGood qv loose0 := by
  have ht := look_tab w.params
  rw [PySem.W.Fast.te10994771534591457954] at ht
  rw [PySem.W.Fast.te4187177175401517315]
  unfold PySem.W.Fast.tw4187177175401517315 openGood
  refine Prod.ext ?_ (Prod.ext ?_ (Prod.ext ?_ (Prod.ext ?_ (Prod.ext ?_ (Prod.ext ?_ (Prod.ext ?_ (Prod.ext ?_ ?_)))))))
  all_goals dsimp only
  iterate 2 kernel_rfl
  · refine Bool.and_eq_true_iff.mpr ⟨Bool.and_eq_true_iff.mpr ⟨Bool.and_eq_true_iff.mpr ⟨?_, ht⟩, ?_⟩, ?_⟩
    all_goals kernel_rfl
  all_goals kernel_rfl
end Mine
end
section
open PySem PySem.W PyProof.Rows
set_option maxRecDepth 100000
namespace Mine
theorem left : LeftO pw qv loose0 Xt0 hook.obs hook.val 28200 :=
  LeftO.of_pieces (H₀ := boot_heap) (H₁ := hZ) (gs₀ := Array.mk []) (gs₁ := #[]) (d₀ := boot_drawn) (d₁ := {}) (k₀ := boot_toks) (k₁ := 2323) (m₀ := 11) (ann := some (.ref 6)) (M := 12 + (1 + (1037 + (12525 + (447 + 2)))))
    (opens 28200 rfl) size0 run rfl (fun w => funext fun os => Prod.ext (look1 w os) (Prod.ext (look2 w os) (look3 w os)))
abbrev rL : OpenLaw := PySem.Challenge.rw_ny0220_01
def dLaw : DefRec := match st 20 with
  | .FunctionDef n a b _ _ _ sc _ _ pos => ⟨n, a, b, sc, pos⟩
  | _ => ⟨⟨#[]⟩, default, [], default, default⟩
theorem said : rL.wellSaid = true := by kernel_rfl
set_option maxHeartbeats 4000000 in
theorem hd (hc : WalkO qv loose0 (XL qv []) hook.says rL.row.toRowW dLaw [] fun f vs => PySem.call f vs) : rL.Holds := by
  w_on
  refine holds_law said fun said' => ?_
  refine PySem.W.holds_open (q := qv) (loose := loose0) (Xt := Xt0) (XP := XL qv []) (Yf := hook.obs) (Ya := hook.val) (YP := hook.says) (d := dLaw) (kwd := []) (N := 28200) left hook.of hook.keeps (fun s e => xl_of s (Bool.and_eq_true_iff.mp e).1) XL.keeps (by kernel_rfl) (by kernel_rfl) (by kernel_rfl) (fun s e => recFacts_of (Bool.and_eq_true_iff.mp e).2) (by kernel_rfl) said' (by decide +kernel) ⟨rfl, rfl, rfl, rfl, rfl, by decide +kernel⟩ ?hw hc
  w_witness2
end Mine
end
section
open PySem PySem.W PyProof.Rows PySem.Calls
set_option maxRecDepth 100000
namespace Mine
def bodyOf (i : Nat) : List Stmt := match st i with
  | .FunctionDef _ _ b _ _ _ _ _ _ _ => b
  | _ => []
def paramsOf (i : Nat) : Arguments := match st i with
  | .FunctionDef _ a _ _ _ _ _ _ _ _ => a
  | _ => default
def scopeOf (i : Nat) : Scope := match st i with
  | .FunctionDef _ _ _ _ _ _ sc _ _ _ => sc
  | _ => default
def nameOf (i : Nat) : Str := match st i with
  | .FunctionDef n _ _ _ _ _ _ _ _ _ => n
  | _ => ⟨#[]⟩
/-- what stands of the text at a heap -/
structure Gd (w : World) (s₀ : Shared) (mg mb : Str → Option Value) (h : Heap) : Prop where
  G : Ground qv loose0 [] (XL qv []) w s₀ mg mb h
  K : (KF w.params).In h
theorem Gd.keeps {w : World} {s₀ : Shared} {mg mb : Str → Option Value} {h h' : Heap} (g : Gd w s₀ mg mb h) (k : ∀ b o, h.get? b = some o → h'.get? b = some o) : Gd w s₀ mg mb h' :=
  ⟨g.G.keeps XL.keeps k, g.K.keeps k⟩
theorem Gd.open {w : World} {s₀ : Shared} {mg mb : Str → Option Value} {h : Heap} {P : Prop} (g : Gd w s₀ mg mb h)
    (k : (KF w.params).In h → Flt.MathXP qv mg h → LooseAre [] mg h → Glob 0 mg mb ((recsOf qv).map itemOf) (scalarsOf [] ++ constsW qv) [] (namesW qv loose0) h →
      Top qv (looseW qv loose0) (ExcName.means s₀.heap) mg mb h → Tables qv w mg h → TopE qv (looseW qv loose0) mg h → TopW qv mg h → ∀ bm bo, BMod h mainGlobals mg bm bo → P) : P := by
  have V := (Ground.X g.G).2
  have GL := glob_more (Ground.glob g.G (by decide +kernel) (by decide +kernel)) V
  refine Ground.open g.G ?_
  intro T B D TE TW
  obtain ⟨_, _, M⟩ := bmod_of_top T
  exact k g.K (Ground.X g.G).1 V GL T B TE TW _ _ M
structure Room (A : Around) (n : Nat) : Prop where
  handled : A.handled = none
  depth : A.depth + n < recursionLimit
  units : A.units + 10 * n < cLine
theorem Room.deeper {A : Around} {n : Nat} {env : Env} (r : Room A (n + 1)) : Room (A.deeper env) n := by
  have h1 := r.depth
  have h2 := r.units
  exact ⟨r.handled, by show A.depth + 1 + n < _; omega, by show A.units + 3 + 10 * n < _; omega⟩
theorem Room.le {A : Around} {n m : Nat} (r : Room A n) (h : m ≤ n) : Room A m := by
  have h1 := r.depth
  have h2 := r.units
  exact ⟨r.handled, by omega, by omega⟩
/-- a call of the def at statement i, entered -/
theorem call_def {w : World} {s₀ : Shared} {mg mb : Str → Option Value} {A : Around} {s : Shared} {R : Result → Shared → Prop} {i f c : Nat} {o : Obj} {pm : Value} {args : List Value} {binds : List (Str × Value)} {n : Nat}
    (g : Gd w s₀ mg mb s.heap) (r : Room A (n + 1)) (hf : (KF w.params).lookup f = some o) (hd : o.data = .func (docDef (nameOf i) (paramsOf i) (bodyOf i) (scopeOf i) pm (.ref c) .none))
    (hc : codeIn (KF w.params) (.ref c) (nameOf i) = true) (hb : bindArgs (docDef (nameOf i) (paramsOf i) (bodyOf i) (scopeOf i) pm (.ref c) .none) ⟨args, []⟩ = pure binds)
    (hl : (binds.all fun x => decide ((scopeOf i).names.lookup x.1 = some .local)) = true)
    (hs : ((scopeOf i).isCoroutine, (scopeOf i).isGenerator, (scopeOf i).kind) = (false, false, .function)) (hcell : ((scopeOf i).names.all fun x => decide (x.2 ≠ .cell)) = true)
    (h : ∀ h₁, Fr s.heap s.heap.objs.size h₁ (fun x => binds.reverse.lookup x) → Room (A.deeper (envOf (nameOf i) (scopeOf i) s.heap.objs.size f (.ref c))) n →
      wpAny (model pw w) (A.deeper (envOf (nameOf i) (scopeOf i) s.heap.objs.size f (.ref c))) (execs (bodyOf i) (envOf (nameOf i) (scopeOf i) s.heap.objs.size f (.ref c)))
        (fun fl s' => R (.ok (.ret (match fl with | .ret v => v | _ => .none))) s') (fun _ _ => False) { s with heap := h₁, toks := s.toks + binds.length }) :
    codeAny (model pw w) A (.call (.ref f) ⟨args, []⟩) R s := by
  obtain ⟨h1, h2, h3⟩ : _ ∧ _ ∧ _ := by simpa only [Prod.mk.injEq] using hs
  refine call_plain (name := nameOf i) (params := paramsOf i) (body := bodyOf i) (scope := scopeOf i) (pm := pm) (cd := .ref c) (doc := .none) (o := o) (binds := binds) (by have := r.depth; omega) (g.K _ _ hf) hd g.G.T.nolimit (codeRec_of g.K hc) hb (locs hl)
    (fun h₁ F => wpAny_mono (h h₁ F r.deeper) (fun _ _ x => x) fun _ _ x => x.elim) h1 h2 h3 (fun x hx => of_decide_eq_true (List.all_eq_true.mp hcell x hx))
/-- the set of table B.1 -/
def b1L : List Int := [173, 847, 6150, 6155, 6156, 6157, 8203, 8204, 8205, 8288, 65279, 65024, 65025, 65026, 65027, 65028, 65029, 65030, 65031, 65032, 65033, 65034, 65035, 65036, 65037, 65038, 65039]
def inB1 (c : Int) : Bool := b1L.contains c
noncomputable def es22 : List (Int × Value) := match (o22 ⟨fun _ => 0, fun _ => 0, id, fun _ => 0, fun _ _ => 0, fun _ => false, fun _ => 0, .refcount, .text, fun _ => 0, fun _ => none, fun _ => false, fun _ _ _ => true, fun _ _ _ => true, true, fun _ => false, fun _ => none, fun _ => none, fun _ _ _ => 0, fun _ _ => none, fun _ => none, fun _ => (0, false, ⟨#[]⟩), fun _ => none, id, fun _ => false⟩).data with
  | .set es _ _ => es.toList
  | _ => []
def okE (e : Int × Value) : Bool := match e.2 with
  | .int k _ => e.1 == hashInt k && b1L.contains k
  | _ => false
theorem es22_ok : es22.all okE = true := by decide +kernel
theorem es22_has : (b1L.all fun k => es22.any fun e => Value.isInt k e.2) = true := by decide +kernel
theorem set22 {w : World} {h : Heap} (K : (KF w.params).In h) : h.SetOf (intKind pw w) 22 inB1 27 := by
  have e := K 22 (o22 w.params) (by kernel_rfl)
  refine ⟨_, es22.toArray, _, _, e, ⟨rfl, rfl, rfl⟩, rfl, ?_, ?_, by decide +kernel, by kernel_rfl, by decide +kernel⟩
  · intro e he
    have := List.all_eq_true.mp es22_ok e (by simpa using he)
    obtain ⟨a, v⟩ := e
    cases v <;> simp only [okE, Bool.false_eq_true] at this
    rename_i k t
    rw [Bool.and_eq_true, beq_iff_eq] at this
    exact ⟨⟨k, by simp [intKind, Value.isInt], this.1⟩, rfl⟩
  · intro k
    constructor
    · intro hk
      have h1 := List.all_eq_true.mp es22_has k (by simpa [inB1] using hk)
      obtain ⟨e, he, h2⟩ := List.any_eq_true.mp h1
      exact ⟨e, by simpa using he, h2⟩
    · rintro ⟨e, he, h2⟩
      have := List.all_eq_true.mp es22_ok e (by simpa using he)
      obtain ⟨t, h3⟩ := Value.isInt_shape h2
      obtain ⟨a, v⟩ := e
      have h3' : v = .int k t := h3
      subst h3'
      simp only [okE, Bool.and_eq_true] at this
      exact this.2
theorem gn_b1_set (P : Params) : nsIn (KF P) mainGlobals (Str.ofString "b1_set") = some (some (.ref 22)) := by kernel_rfl
theorem gn_in_table_b1 (P : Params) : nsIn (KF P) mainGlobals (Str.ofString "in_table_b1") = some (some (.ref 32)) := by kernel_rfl
theorem gn_b3_exceptions (P : Params) : nsIn (KF P) mainGlobals (Str.ofString "b3_exceptions") = some (some (.ref 33)) := by kernel_rfl
theorem gn_map_table_b3 (P : Params) : nsIn (KF P) mainGlobals (Str.ofString "map_table_b3") = some (some (.ref 78)) := by kernel_rfl
theorem gn_parse_http_list (P : Params) : nsIn (KF P) mainGlobals (Str.ofString "parse_http_list") = some (some (.ref 83)) := by kernel_rfl
theorem gn_law_nothing (P : Params) : nsIn (KF P) mainGlobals (Str.ofString "_law_nothing") = some (some (.ref 90)) := by kernel_rfl
theorem gn_law_held_rightly (P : Params) : nsIn (KF P) mainGlobals (Str.ofString "_law_held_rightly") = some (some (.ref 95)) := by kernel_rfl
theorem gn_law_prepared (P : Params) : nsIn (KF P) mainGlobals (Str.ofString "_law_prepared") = some (some (.ref 100)) := by kernel_rfl
theorem gn_law_moved (P : Params) : nsIn (KF P) mainGlobals (Str.ofString "_law_moved") = some (some (.ref 107)) := by kernel_rfl
theorem gn_law_items (P : Params) : nsIn (KF P) mainGlobals (Str.ofString "_law_items") = some (some (.ref 112)) := by kernel_rfl
theorem gn_law_letter (P : Params) : nsIn (KF P) mainGlobals (Str.ofString "_law_letter") = some (some (.ref 119)) := by kernel_rfl
theorem gn_law_several (P : Params) : nsIn (KF P) mainGlobals (Str.ofString "_law_several") = some (some (.ref 126)) := by kernel_rfl
theorem gn_law_any (P : Params) : nsIn (KF P) mainGlobals (Str.ofString "_law_any") = some (some (.ref 133)) := by kernel_rfl
theorem gn_law_inside (P : Params) : nsIn (KF P) mainGlobals (Str.ofString "_law_inside") = some (some (.ref 140)) := by kernel_rfl
theorem gn_law_piece (P : Params) : nsIn (KF P) mainGlobals (Str.ofString "_law_piece") = some (some (.ref 145)) := by kernel_rfl
theorem gn_law_tail (P : Params) : nsIn (KF P) mainGlobals (Str.ofString "_law_tail") = some (some (.ref 152)) := by kernel_rfl
theorem gn_law_header (P : Params) : nsIn (KF P) mainGlobals (Str.ofString "_law_header") = some (some (.ref 157)) := by kernel_rfl
theorem bn_ord (P : Params) : nsIn (KF P) mainGlobals (Str.ofString "ord") = some none := by kernel_rfl
theorem bv_ord : bootBuiltins (Str.ofString "ord") = some (.builtin "ord") := by kernel_rfl
theorem bn_chr (P : Params) : nsIn (KF P) mainGlobals (Str.ofString "chr") = some none := by kernel_rfl
theorem bv_chr : bootBuiltins (Str.ofString "chr") = some (.builtin "chr") := by kernel_rfl
theorem bn_len (P : Params) : nsIn (KF P) mainGlobals (Str.ofString "len") = some none := by kernel_rfl
theorem bv_len : bootBuiltins (Str.ofString "len") = some (.builtin "len") := by kernel_rfl
theorem bn_range (P : Params) : nsIn (KF P) mainGlobals (Str.ofString "range") = some none := by kernel_rfl
theorem bv_range : bootBuiltins (Str.ofString "range") = some (.type "range") := by kernel_rfl
theorem bn_list (P : Params) : nsIn (KF P) mainGlobals (Str.ofString "list") = some none := by kernel_rfl
theorem bv_list : bootBuiltins (Str.ofString "list") = some (.type "list") := by kernel_rfl
theorem bn_isinstance (P : Params) : nsIn (KF P) mainGlobals (Str.ofString "isinstance") = some none := by kernel_rfl
theorem bv_isinstance : bootBuiltins (Str.ofString "isinstance") = some (.builtin "isinstance") := by kernel_rfl
theorem bn_bool (P : Params) : nsIn (KF P) mainGlobals (Str.ofString "bool") = some none := by kernel_rfl
theorem bv_bool : bootBuiltins (Str.ofString "bool") = some (.type "bool") := by kernel_rfl
local macro_rules | `(tactic| walk_at "eval Name") => `(tactic| (refine name_K (K := KF _) (by assumption) (by assumption) (topRead_of (by assumption)) (by with_reducible first | exact gn_b1_set _ | exact gn_in_table_b1 _ | exact gn_b3_exceptions _ | exact gn_map_table_b3 _ | exact gn_parse_http_list _ | exact gn_law_nothing _ | exact gn_law_held_rightly _ | exact gn_law_prepared _ | exact gn_law_moved _ | exact gn_law_items _ | exact gn_law_letter _ | exact gn_law_several _ | exact gn_law_any _ | exact gn_law_inside _ | exact gn_law_piece _ | exact gn_law_tail _ | exact gn_law_header _) ?_ (by kernel_rfl) (by kernel_rfl) (by decide)))
local macro_rules | `(tactic| walk_at "eval Name") => `(tactic| ((with_reducible show wpAny _ _ (eval (.Name (Str.ofString "ord") _) _) _ _ _); refine name_B (K := KF _) (by assumption) (by assumption) (topRead_of (by assumption)) (bn_ord _) bv_ord (by decide) ?_ (by kernel_rfl) (by kernel_rfl) (by decide)))
local macro_rules | `(tactic| walk_at "callWith") => `(tactic| ((with_reducible show wpAny _ _ (callWith _ (Value.builtin _) [] (backTo _ (starEach (_ :: _) _)) []) _ _ _); k_dflt (refine PyProof.Rows.callWith_builtin1 ?_)))
/-- in_table_b1 -/
theorem in_b1set {w : World} {A : Around} {E : Value → Shared → Prop} {s : Shared} {h₀ : Heap} {L : Addr} {m : Str → Option Value} {c : Int} {t : Tok} {Q : Value → Shared → Prop} (K : (KF w.params).In h₀) (F : Fr h₀ L s.heap m)
    (h : Q (.bool (inB1 c)) { s with toks := s.toks + 1 }) : wpAny (model pw w) A (compareOp .In (.int c t) (.ref 22)) Q E s :=
  wpAny_inSet_of (knd := intKind pw w) (k := c) (by simp [intKind, Value.isInt]) rfl (set22 (K.keeps F.keep)) h
local macro_rules | `(tactic| walk_at "compareOp In") => `(tactic| refine in_b1set (by assumption) (by assumption) ?_)
set_option maxHeartbeats 8000000 in
theorem b1_spec {w : World} {s₀ : Shared} {mg mb : Str → Option Value} {A : Around} {s : Shared} {n : Nat} {R : Result → Shared → Prop} (g : Gd w s₀ mg mb s.heap) (r : Room A (n + 1)) (c : Nat) (t : Tok)
    (hR : ∀ h' tk, s.heap.StaysIn h' → R (.ok (.ret (.bool (inB1 c)))) { s with heap := h', toks := tk }) :
    codeAny (model pw w) A (.call (.ref 32) ⟨[.str ⟨#[c]⟩ t], []⟩) R s := by
  w_on
  refine g.open ?_
  intro KX X V GL T B TE TW _ _ M
  refine call_def (i := 2) (c := 31) (o := o32 w.params) (pm := .str (Str.ofString "cpy313.stringprep") 187) (binds := [(Str.ofString "code", .str ⟨#[c]⟩ t)]) g r (by kernel_rfl) (by kernel_rfl) (by kernel_rfl) (by kernel_rfl) (by kernel_rfl) (by kernel_rfl) (by decide +kernel) ?_
  intro h₁ F rA
  have N0 : News s.heap s.heap.objs.size h₁ [] := News.nil
  show wpAny _ _ (execs (_ :: _) _) _ _ _
  k_fold
  k_steps
  exact hR _ _ F.keep
end Mine
end
section
open PySem PySem.W PyProof.Rows PySem.Calls PyProof.V
set_option maxRecDepth 100000
namespace Mine
inductive Rel : List DictEntry → List (Int × Str) → Prop
  | nil : Rel [] []
  | cons {x : Int × Str} {t u : Tok} {es : List DictEntry} {ps : List (Int × Str)} : Rel es ps → Rel (⟨x.1, .int x.1 t, .str x.2 u⟩ :: es) (x :: ps)
theorem Rel.append {a b : List DictEntry} {p q : List (Int × Str)} (h : Rel a p) (k : Rel b q) : Rel (a ++ b) (p ++ q) := by
  induction h with
  | nil => exact k
  | cons _ ih => exact .cons ih
theorem rel_ents : ∀ (ps : List (Int × Str)) (tk : Nat), Rel (ents tk ps) ps
  | [], _ => .nil
  | _ :: r, tk => .cons (rel_ents r (tk + 3))
theorem rel_ents2 : ∀ (ps : List (Int × Str)) (tk : Nat), Rel (ents2 tk ps) ps
  | [], _ => .nil
  | _ :: r, tk => .cons (rel_ents2 r (tk + 2))
theorem rel_b3 : Rel b3es b3 := by
  rw [b3_split, ← List.append_assoc]
  exact (rel_ents _ _).append (rel_ents2 _ _)
theorem hash_small {k : Int} (h0 : 0 ≤ k) (h1 : k < 2 ^ 60) : hashInt k = k := by
  have e1 : ((k.natAbs : Int) % ((2 ^ 61 - 1 : Nat) : Int)) = k := by omega
  have e2 : ¬ k < 0 := by omega
  have e3 : ((k == -1) = false) := beq_eq_false_iff_ne.mpr (by omega)
  have e : rawHash k = k := by
    show (if ((if k < 0 then -((k.natAbs : Int) % ((2 ^ 61 - 1 : Nat) : Int)) else ((k.natAbs : Int) % ((2 ^ 61 - 1 : Nat) : Int))) == -1) = true then -2 else (if k < 0 then -((k.natAbs : Int) % ((2 ^ 61 - 1 : Nat) : Int)) else ((k.natAbs : Int) % ((2 ^ 61 - 1 : Nat) : Int)))) = k
    rw [e1, if_neg e2, e3]; rfl
  unfold hashInt
  rw [e, e3]; rfl
theorem Rel.keys {w : World} {es : List DictEntry} {ps : List (Int × Str)} (h : Rel es ps) (hs : Small ps) : ∀ e ∈ es, ∃ k, (intKind pw w).is k e.key = true ∧ e.hash = (intKind pw w).hash k := by
  induction h with
  | nil => exact fun e he => nomatch he
  | @cons x t u es ps _ ih =>
    intro e he
    rcases List.mem_cons.mp he with rfl | he
    · exact ⟨x.1, by simp [intKind, Value.isInt], (hash_small (hs x (.head _)).1 (hs x (.head _)).2).symm⟩
    · exact ih (fun y hy => hs y (.tail _ hy)) e he
def kvsOf3 (es : List DictEntry) : List (Int × Value) := es.map fun e => (e.hash, e.val)
theorem Rel.pairs {w : World} {es : List DictEntry} {ps : List (Int × Str)} (h : Rel es ps) : Pairs (intKind pw w) es (kvsOf3 es) := by
  induction h with
  | nil => exact .nil
  | cons _ ih => exact .cons (by simp [intKind, Value.isInt]) rfl ih
def datOf3 (ps : List (Int × Str)) : List (PyData × PyData) := ps.map fun x => (PyData.int x.1, PyData.str x.2)
theorem Rel.flat {es : List DictEntry} {ps : List (Int × Str)} (h : Rel es ps) : FlatPairs PyData.int (kvsOf3 es) (datOf3 ps) := by
  induction h with
  | nil => exact .nil
  | cons _ ih => exact .cons (Flat.str _ _) ih
theorem Rel.fsts {es : List DictEntry} {ps : List (Int × Str)} (h : Rel es ps) : (kvsOf3 es).map (·.1) = ps.map (·.1) := by
  induction h with
  | nil => rfl
  | cons _ ih => simp only [kvsOf3, List.map_cons] at ih ⊢; rw [ih]
theorem b3_small' : Small b3 := fun x hx => by simpa using List.all_eq_true.mp b3_small x hx
theorem tab33 {w : World} {h : Heap} (K : (KF w.params).In h) : IntTab pw w h 33 (datOf3 b3) := by
  have e := K 33 (dictO b3es) (by kernel_rfl)
  refine TabAt.ofObj rfl e ⟨b3es.toArray, b3es.length, ⟨rfl, rfl, rfl⟩, rfl, ?_, rel_b3.pairs, ?_⟩ rel_b3.flat
  · intro e he
    exact rel_b3.keys b3_small' e (by simpa using he)
  · rw [rel_b3.fsts]
    exact (rises_spec _ b3_rises).imp (fun h => Int.ne_of_lt h)
def find3 (c : Int) : Option (Int × Str) := b3.find? fun x => decide (x.1 = c)
theorem lookup3 (c : Int) : ∀ ps : List (Int × Str), Spec.lookup (.int c) (datOf3 ps) = (ps.find? fun x => decide (x.1 = c)).map fun x => PyData.str x.2
  | [] => rfl
  | x :: r => by
    show (if Spec.same (PyData.int x.1) (PyData.int c) then _ else Spec.lookup (.int c) (datOf3 r)) = _
    rw [lookup3 c r, List.find?_cons]
    have : Spec.same (PyData.int x.1) (PyData.int c) = decide (x.1 = c) := PyProof.V.same_int _ _
    rw [this]
    by_cases q : x.1 = c
    · simp [q]
    · simp [q]
theorem get_b3 {w : World} {A : Around} {E : Value → Shared → Prop} {s : Shared} {h₀ : Heap} {L : Addr} {m : Str → Option Value} {c : Int} {t : Tok} {Q : Value → Shared → Prop} (K : (KF w.params).In h₀) (F : Fr h₀ L s.heap m)
    (h1 : ∀ x u, find3 c = some x → Q (.str x.2 u) { s with toks := s.toks + 1 }) (h2 : find3 c = none → Q .none { s with toks := s.toks + 1 }) :
    wpAny (model pw w) A (call (.builtin "dict.get") [.ref 33, .int c t]) Q E s := by
  refine call_get1_intTab (tab33 (K.keeps F.keep)) fun v hv => ?_
  rw [lookup3] at hv
  cases q : find3 c with
  | none =>
    have q' : (b3.find? fun x => decide (x.1 = c)) = none := q
    rw [q'] at hv
    have := Flat.none_inv hv
    rw [this]; exact h2 q
  | some x =>
    have q' : (b3.find? fun x => decide (x.1 = c)) = some x := q
    rw [q'] at hv
    obtain ⟨u, rfl⟩ := Flat.str_inv hv
    exact h1 x u q
local macro_rules | `(tactic| walk_at "eval Name") => `(tactic| (refine name_K (K := KF _) (by assumption) (by assumption) (topRead_of (by assumption)) (by with_reducible first | exact gn_b1_set _ | exact gn_in_table_b1 _ | exact gn_b3_exceptions _ | exact gn_map_table_b3 _ | exact gn_parse_http_list _ | exact gn_law_nothing _ | exact gn_law_held_rightly _ | exact gn_law_prepared _ | exact gn_law_moved _ | exact gn_law_items _ | exact gn_law_letter _ | exact gn_law_several _ | exact gn_law_any _ | exact gn_law_inside _ | exact gn_law_piece _ | exact gn_law_tail _ | exact gn_law_header _) ?_ (by kernel_rfl) (by kernel_rfl) (by decide)))
local macro_rules | `(tactic| walk_at "eval Name") => `(tactic| ((with_reducible show wpAny _ _ (eval (.Name (Str.ofString "ord") _) _) _ _ _); refine name_B (K := KF _) (by assumption) (by assumption) (topRead_of (by assumption)) (bn_ord _) bv_ord (by decide) ?_ (by kernel_rfl) (by kernel_rfl) (by decide)))
local macro_rules | `(tactic| walk_at "callWith") => `(tactic| ((with_reducible show wpAny _ _ (callWith _ (Value.builtin _) [] (backTo _ (starEach (_ :: _) _)) []) _ _ _); k_dflt (refine PyProof.Rows.callWith_builtin1 ?_)))
theorem meth_b3 {w : World} {A : Around} {E : Value → Shared → Prop} {s : Shared} {h₀ : Heap} {L : Addr} {m : Str → Option Value} {pl : Sem Bool} {Q : Value × List Value → Shared → Prop} (K : (KF w.params).In h₀) (F : Fr h₀ L s.heap m)
    (h : Q (.builtin "dict.get", [.ref 33]) s) : wpAny (model pw w) A (getMethod (.ref 33) (Str.ofString "get") pl) Q E s := getMethod_intTab_get (tab33 (K.keeps F.keep)) h
local macro_rules | `(tactic| walk_at "getMethod ref") => `(tactic| refine meth_b3 (by assumption) (by assumption) ?_)
local macro_rules | `(tactic| walk_at "call builtin:dict.get") => `(tactic| refine get_b3 (by assumption) (by assumption) (fun _ _ _ => ?_) (fun _ => ?_))
local macro_rules | `(tactic| walk_at "call builtin:str.lower") => `(tactic| refine SCL.lower (Nat.le_of_ble_eq_true rfl) (fun _ => ?_))
/-- what map_table_b3 makes of a sign -/
def foldS (c : Nat) : Str := match find3 c with
  | some x => x.2
  | none => Txt.lower ⟨#[c]⟩
theorem foldS_some {c : Nat} {x : Int × Str} (h : find3 c = some x) : foldS c = x.2 := by unfold foldS; rw [h]
theorem foldS_none {c : Nat} (h : find3 c = none) : foldS c = Txt.lower ⟨#[c]⟩ := by unfold foldS; rw [h]
set_option maxHeartbeats 8000000 in
theorem map_spec {w : World} {s₀ : Shared} {mg mb : Str → Option Value} {A : Around} {s : Shared} {n : Nat} {R : Result → Shared → Prop} (g : Gd w s₀ mg mb s.heap) (r : Room A (n + 1)) (c : Nat) (t : Tok)
    (hR : ∀ u h' tk, s.heap.StaysIn h' → R (.ok (.ret (.str (foldS c) u))) { s with heap := h', toks := tk }) :
    codeAny (model pw w) A (.call (.ref 78) ⟨[.str ⟨#[c]⟩ t], []⟩) R s := by
  w_on
  refine g.open ?_
  intro KX X V GL T B TE TW _ _ M
  refine call_def (i := 4) (c := 77) (o := o78 w.params) (pm := .str (Str.ofString "cpy313.stringprep") 187) (binds := [(Str.ofString "code", .str ⟨#[c]⟩ t)]) g r (by kernel_rfl) (by kernel_rfl) (by kernel_rfl) (by kernel_rfl) (by kernel_rfl) (by kernel_rfl) (by decide +kernel) ?_
  intro h₁ F rA
  have N0 : News s.heap s.heap.objs.size h₁ [] := News.nil
  show wpAny _ _ (execs (_ :: _) _) _ _ _
  k_fold
  k_steps
  · show R (.ok (.ret (.str _ _))) _
    rw [← foldS_some (by assumption)]
    exact hR _ _ _ (Fr.keep (by assumption))
  · show R (.ok (.ret (.str _ _))) _
    rw [← foldS_none (by assumption)]
    exact hR _ _ _ (Fr.keep (by assumption))
end Mine
end
section
open PySem PySem.W PyProof.Rows PySem.Calls PyProof.V
set_option maxRecDepth 100000
namespace Mine
local macro_rules | `(tactic| walk_at "eval Name") => `(tactic| (refine name_K (K := KF _) (by assumption) (by assumption) (topRead_of (by assumption)) (by with_reducible first | exact gn_b1_set _ | exact gn_in_table_b1 _ | exact gn_b3_exceptions _ | exact gn_map_table_b3 _ | exact gn_parse_http_list _ | exact gn_law_nothing _ | exact gn_law_held_rightly _ | exact gn_law_prepared _ | exact gn_law_moved _ | exact gn_law_items _ | exact gn_law_letter _ | exact gn_law_several _ | exact gn_law_any _ | exact gn_law_inside _ | exact gn_law_piece _ | exact gn_law_tail _ | exact gn_law_header _) ?_ (by kernel_rfl) (by kernel_rfl) (by decide)))
local macro_rules | `(tactic| walk_at "eval Name") => `(tactic| ((with_reducible show wpAny _ _ (eval (.Name (Str.ofString "chr") _) _) _ _ _); refine name_B (K := KF _) (by assumption) (by assumption) (topRead_of (by assumption)) (bn_chr _) bv_chr (by decide) ?_ (by kernel_rfl) (by kernel_rfl) (by decide)))
local macro_rules | `(tactic| walk_at "eval Name") => `(tactic| ((with_reducible show wpAny _ _ (eval (.Name (Str.ofString "list") _) _) _ _ _); refine name_B (K := KF _) (by assumption) (by assumption) (topRead_of (by assumption)) (bn_list _) bv_list (by decide) ?_ (by kernel_rfl) (by kernel_rfl) (by decide)))
local macro_rules | `(tactic| walk_at "eval Name") => `(tactic| ((with_reducible show wpAny _ _ (eval (.Name (Str.ofString "range") _) _) _ _ _); refine name_B (K := KF _) (by assumption) (by assumption) (topRead_of (by assumption)) (bn_range _) bv_range (by decide) ?_ (by kernel_rfl) (by kernel_rfl) (by decide)))
local macro_rules | `(tactic| walk_at "callWith") => `(tactic| ((with_reducible show wpAny _ _ (callWith _ (Value.builtin _) [] (backTo _ (starEach (_ :: _) _)) []) _ _ _); k_dflt (refine PyProof.Rows.callWith_builtin1 ?_)))
theorem cons_tk {M : Model} {A : Around} {E : Value → Shared → Prop} {s : Shared} {env : Env} {st : Stmt} {rest : List Stmt} {Q : Flow → Shared → Prop}
    (h : ∀ tk, wpAny M A (exec st env) (fun f s' => match f with | .next => wpAny M A (execs rest env) Q E s' | f => Q f s') E { s with toks := tk }) : wpAny M A (execs (st :: rest) env) Q E s := wpAny_execs_cons (h s.toks)
local macro_rules | `(tactic| walk_at "execs cons") => `(tactic| (refine cons_tk ?_; intro tk; dsimp only))
local macro_rules | `(tactic| walk_at "eval Constant int") => `(tactic| (refine wpAny_Constant_int ?_; dsimp only))
local macro_rules | `(tactic| walk_at "eval Constant str") => `(tactic| (refine wpAny_Constant_str ?_; dsimp only))
/-- a tuple of three texts -/
def tup3 (x y z : Str) (t u v : Tok) : Obj := { cls := .type "tuple", data := .seq #[.str x t, .str y u, .str z v] }
def starts : List Int := [65, 97, 119808, 119860, 119912, 120016, 120172, 120224, 120276, 120328, 120380, 120432]
theorem getD_range {l : List Int} {a b : Int} (h : ∀ x ∈ l, a ≤ x ∧ x ≤ b) (ha : a ≤ 0) (hb : 0 ≤ b) (i : Nat) : a ≤ l.getD i 0 ∧ l.getD i 0 ≤ b := by
  rw [List.getD_eq_getElem?_getD]
  cases e : l[i]? with
  | none => exact ⟨ha, hb⟩
  | some x => exact h x (List.mem_of_getElem? e)
theorem fmod_range (n : Int) {k : Int} (hk : 0 < k) : 0 ≤ n.fmod k ∧ n.fmod k < k := ⟨Int.fmod_nonneg_of_pos _ hk, Int.fmod_lt_of_pos _ hk⟩
theorem great_range (n : Int) : 0 ≤ starts.getD ((n.fdiv 26).fmod 12).toNat 0 + n.fmod 26 ∧ starts.getD ((n.fdiv 26).fmod 12).toNat 0 + n.fmod 26 ≤ 1114111 := by
  have h1 := getD_range (l := starts) (a := 0) (b := 120432) (by decide) (by decide) (by decide) ((n.fdiv 26).fmod 12).toNat
  have h2 := fmod_range n (k := 26) (by decide)
  omega
theorem small_range (n : Int) : 0 ≤ 97 + n.fmod 26 ∧ 97 + n.fmod 26 ≤ 1114111 := by
  have h2 := fmod_range n (k := 26) (by decide)
  omega
def greatOf (n : Int) : Nat := (starts.getD ((n.fdiv 26).fmod 12).toNat 0 + n.fmod 26).toNat
def smallOf (n : Int) : Nat := (97 + n.fmod 26).toNat
local macro_rules | `(tactic| walk_at "call builtin:chr") => `(tactic| first | refine chr_of_range (great_range _).1 (great_range _).2 ?_ | refine chr_of_range (small_range _).1 (small_range _).2 ?_)
set_option maxHeartbeats 8000000 in
theorem letter_spec {w : World} {s₀ : Shared} {mg mb : Str → Option Value} {A : Around} {s : Shared} {n : Nat} {R : Result → Shared → Prop} (g : Gd w s₀ mg mb s.heap) (r : Room A (n + 1)) (k : Int) (t : Tok)
    (hR : ∀ a u v x h' tk, s.heap.StaysIn h' → s.heap.get? a = none → h'.get? a = some (tup3 ⟨#[greatOf k]⟩ ⟨#[greatOf k]⟩ ⟨#[smallOf k]⟩ u v x) → R (.ok (.ret (.ref a))) { s with heap := h', toks := tk }) :
    codeAny (model pw w) A (.call (.ref 119) ⟨[.int k t], []⟩) R s := by
  w_on
  refine g.open ?_
  intro KX X V GL T B TE TW _ _ M
  refine call_def (i := 13) (c := 118) (o := o119 w.params) (pm := .str (Str.ofString "law_ny0220_01") 2223) (binds := [(Str.ofString "n", .int k t)]) g r (by kernel_rfl) (by kernel_rfl) (by kernel_rfl) (by kernel_rfl) (by kernel_rfl) (by kernel_rfl) (by decide +kernel) ?_
  intro h₁ F rA
  have N0 : News s.heap s.heap.objs.size h₁ [] := News.nil
  show wpAny _ _ (execs (_ :: _) _) _ _ _
  k_fold
  k_steps
  exact hR _ _ _ _ _ _ (Fr.keep (by assumption)) (News.fresh (by assumption) (.head _)) (News.get (by assumption) (.head _))
/-- several -/
def sevText (k : Int) : Str := Txt.item (Str.ofString "ͺßﬃ㏇ŉ") (k.fmod 5)
def sevMeant (k : Int) : Str := [Str.ofString " ι", Str.ofString "ss", Str.ofString "ffi", Str.ofString "co.", Str.ofString "ʼn"].getD (k.fmod 5).toNat Str.empty
set_option maxHeartbeats 8000000 in
theorem several_spec {w : World} {s₀ : Shared} {mg mb : Str → Option Value} {A : Around} {s : Shared} {n : Nat} {R : Result → Shared → Prop} (g : Gd w s₀ mg mb s.heap) (r : Room A (n + 1)) (k : Int) (t : Tok)
    (hR : ∀ a u v x h' tk, s.heap.StaysIn h' → s.heap.get? a = none → h'.get? a = some (tup3 (sevText k) (sevText k) (sevMeant k) u v x) → R (.ok (.ret (.ref a))) { s with heap := h', toks := tk }) :
    codeAny (model pw w) A (.call (.ref 126) ⟨[.int k t], []⟩) R s := by
  w_on
  refine g.open ?_
  intro KX X V GL T B TE TW _ _ M
  refine call_def (i := 14) (c := 125) (o := o126 w.params) (pm := .str (Str.ofString "law_ny0220_01") 2223) (binds := [(Str.ofString "n", .int k t)]) g r (by kernel_rfl) (by kernel_rfl) (by kernel_rfl) (by kernel_rfl) (by kernel_rfl) (by kernel_rfl) (by decide +kernel) ?_
  intro h₁ F rA
  have N0 : News s.heap s.heap.objs.size h₁ [] := News.nil
  have hk5 := fmod_range k (k := 5) (by decide)
  k_with "table" => skip
  show wpAny _ _ (execs (_ :: _) _) _ _ _
  k_fold
  k_steps
  exact hR _ _ _ _ _ _ (Fr.keep (by assumption)) (News.fresh (by assumption) (.head _)) (News.get (by assumption) (.head _))
set_option maxHeartbeats 8000000 in
theorem nothing_spec {w : World} {s₀ : Shared} {mg mb : Str → Option Value} {A : Around} {s : Shared} {n : Nat} {R : Result → Shared → Prop} (g : Gd w s₀ mg mb s.heap) (r : Room A (n + 1))
    (hR : ∀ a (vs : List Value) e h' tk, s.heap.StaysIn h' → s.heap.get? a = none → h'.get? a = some (W.listOf vs.toArray e) → IntsAre vs b1L → R (.ok (.ret (.ref a))) { s with heap := h', toks := tk }) :
    codeAny (model pw w) A (.call (.ref 90) ⟨[], []⟩) R s := by
  w_on
  refine g.open ?_
  intro KX X V GL T B TE TW _ _ M
  refine call_def (i := 8) (c := 89) (o := o90 w.params) (pm := .str (Str.ofString "law_ny0220_01") 2223) (binds := []) g r (by kernel_rfl) (by kernel_rfl) (by kernel_rfl) (by kernel_rfl) (by kernel_rfl) (by kernel_rfl) (by decide +kernel) ?_
  intro h₁ F rA
  have N0 : News s.heap s.heap.objs.size h₁ [] := News.nil
  show wpAny _ _ (execs (_ :: _) _) _ _ _
  k_fold
  k_steps
  dsimp only
  refine list_rangeD (a := 65024) (b := 65040) (c := 1) (n := 16) rA.handled (by assumption) (by assumption) (by assumption) (by decide) (by decide) (by decide) ?_
  intro h2 tk2 ys F2 N2 _ hnew hL2 _ hc2
  have hI := IntsAre.ofCarried hc2
  refine add_arrays_ints (ns := [173, 847, 6150, 6155, 6156, 6157, 8203, 8204, 8205, 8288, 65279]) (ms := rangeInts 65024 1 16) F2 N2 (News.isList N2 (.head _)) hL2 (by repeat constructor) (by simpa using hI) ?_ (by decide)
  intro h3 F3 N3 hI3
  exact hR _ _ _ _ _ F3.keep (News.fresh N3 (.head _)) (News.get N3 (.head _)) hI3
end Mine
end
section
open PySem PySem.W PyProof.Rows PySem.Calls PyProof.V
set_option maxRecDepth 100000
namespace Mine
/-- the keys of the table begin at 181 -/
theorem b3_from : (b3.all fun x => decide (181 ≤ x.1)) = true := by decide +kernel
theorem find3_small {c : Int} (h : c < 181) : find3 c = none := by
  refine List.find?_eq_none.mpr fun x hx e => ?_
  have h1 := of_decide_eq_true (List.all_eq_true.mp b3_from x hx)
  have h2 := of_decide_eq_true e
  omega
theorem find_of_mem {c : Int} {t : Str} : ∀ ps : List (Int × Str), (ps.map (·.1)).Pairwise (· < ·) → (c, t) ∈ ps → (ps.find? fun x => decide (x.1 = c)) = some (c, t)
  | [], _, h => nomatch h
  | x :: r, hp, h => by
    rw [List.map_cons, List.pairwise_cons] at hp
    rw [List.find?_cons]
    rcases List.mem_cons.mp h with rfl | h
    · rw [decide_eq_true rfl]
    · have := hp.1 c (List.mem_map.mpr ⟨(c, t), h, rfl⟩)
      rw [decide_eq_false (by omega)]
      exact find_of_mem r hp.2 h
theorem find3_of_mem {c : Int} {t : Str} (h : (c, t) ∈ b3) : find3 c = some (c, t) := find_of_mem b3 (rises_spec _ b3_rises) h
/-- all pairs of the one list stand in the other, in its order -/
def sublOf : List (Int × Str) → List (Int × Str) → Bool
  | [], _ => true
  | _ :: _, [] => false
  | x :: r, y :: l => if x.1 == y.1 && x.2 == y.2 then sublOf r l else sublOf (x :: r) l
theorem subl_mem : ∀ (l r : List (Int × Str)), sublOf r l = true → ∀ x ∈ r, x ∈ l
  | _, [], _ => fun x hx => nomatch hx
  | [], x :: r, h => by
    have h : false = true := h
    cases h
  | y :: l, x :: r, h => by
    have h : (if (x.1 == y.1 && x.2 == y.2) = true then sublOf r l else sublOf (x :: r) l) = true := h
    split at h
    · rename_i e
      rw [Bool.and_eq_true, beq_iff_eq, beq_iff_eq] at e
      have exy : x = y := Prod.ext e.1 e.2
      intro z hz
      rcases List.mem_cons.mp hz with rfl | hz
      · rw [exy]; exact .head _
      · exact .tail _ (subl_mem l r h z hz)
    · intro z hz
      exact .tail _ (subl_mem l (x :: r) h z hz)
def big : List (Int × Str) := (starts.drop 2).flatMap fun a => (List.range 26).map fun b : Nat => (a + (b : Int), ⟨#[97 + b]⟩)
theorem big_in : sublOf big b3 = true := by decide +kernel
theorem big_fold {a : Nat} (h2 : 2 ≤ a) (h12 : a < 12) {b : Nat} (hb : b < 26) : find3 (starts.getD a 0 + (b : Int)) = some (starts.getD a 0 + (b : Int), ⟨#[97 + b]⟩) := by
  refine find3_of_mem (subl_mem _ _ big_in _ (List.mem_flatMap.mpr ⟨starts.getD a 0, ?_, List.mem_map.mpr ⟨b, List.mem_range.mpr hb, rfl⟩⟩))
  have : ∀ a : Nat, a < 12 → 2 ≤ a → starts.getD a 0 ∈ starts.drop 2 := by decide
  exact this a h12 h2
theorem b1_bounds : (b1L.all fun x => decide (173 ≤ x) && decide (x ≤ 65279)) = true := by decide +kernel
theorem not_b1 {c : Int} (h : c < 173 ∨ 65279 < c) : inB1 c = false := by
  unfold inB1
  rw [List.contains_eq_any_beq, List.any_eq_false]
  intro x hx e
  have := List.all_eq_true.mp b1_bounds x hx
  rw [Bool.and_eq_true, decide_eq_true_eq, decide_eq_true_eq] at this
  have e : c = x := by simpa using e
  omega
theorem lower_ascii : ∀ c, c < 128 → (c < 65 ∨ 90 < c) → Txt.lower ⟨#[c]⟩ = ⟨#[c]⟩ := by decide +kernel
theorem lower_great : ∀ b, b < 26 → Txt.lower ⟨#[65 + b]⟩ = ⟨#[97 + b]⟩ := by decide +kernel
theorem fold_ascii : ∀ c, c < 128 → (c < 65 ∨ 90 < c) → foldS c = ⟨#[c]⟩ := fun c h1 h2 => (foldS_none (find3_small (by omega))).trans (lower_ascii c h1 h2)
end Mine
end
section
open PySem PySem.W PyProof.Rows PySem.Calls PyProof.V
set_option maxRecDepth 100000
namespace Mine
local macro_rules | `(tactic| walk_at "eval Name") => `(tactic| ((first | with_reducible show wpAny _ _ (eval (.Name (Str.ofString "b1_set") _) _) _ _ _ | with_reducible show wpAny _ _ (eval (.Name (Str.ofString "in_table_b1") _) _) _ _ _ | with_reducible show wpAny _ _ (eval (.Name (Str.ofString "b3_exceptions") _) _) _ _ _ | with_reducible show wpAny _ _ (eval (.Name (Str.ofString "map_table_b3") _) _) _ _ _ | with_reducible show wpAny _ _ (eval (.Name (Str.ofString "parse_http_list") _) _) _ _ _ | with_reducible show wpAny _ _ (eval (.Name (Str.ofString "_law_nothing") _) _) _ _ _ | with_reducible show wpAny _ _ (eval (.Name (Str.ofString "_law_held_rightly") _) _) _ _ _ | with_reducible show wpAny _ _ (eval (.Name (Str.ofString "_law_prepared") _) _) _ _ _ | with_reducible show wpAny _ _ (eval (.Name (Str.ofString "_law_moved") _) _) _ _ _ | with_reducible show wpAny _ _ (eval (.Name (Str.ofString "_law_items") _) _) _ _ _ | with_reducible show wpAny _ _ (eval (.Name (Str.ofString "_law_letter") _) _) _ _ _ | with_reducible show wpAny _ _ (eval (.Name (Str.ofString "_law_several") _) _) _ _ _ | with_reducible show wpAny _ _ (eval (.Name (Str.ofString "_law_any") _) _) _ _ _ | with_reducible show wpAny _ _ (eval (.Name (Str.ofString "_law_inside") _) _) _ _ _ | with_reducible show wpAny _ _ (eval (.Name (Str.ofString "_law_piece") _) _) _ _ _ | with_reducible show wpAny _ _ (eval (.Name (Str.ofString "_law_tail") _) _) _ _ _ | with_reducible show wpAny _ _ (eval (.Name (Str.ofString "_law_header") _) _) _ _ _); first
  | refine name_K (K := KF _) (by assumption) (by assumption) (topRead_of (by assumption)) (by with_reducible first | exact gn_b1_set _ | exact gn_in_table_b1 _ | exact gn_b3_exceptions _ | exact gn_map_table_b3 _ | exact gn_parse_http_list _ | exact gn_law_nothing _ | exact gn_law_held_rightly _ | exact gn_law_prepared _ | exact gn_law_moved _ | exact gn_law_items _ | exact gn_law_letter _ | exact gn_law_several _ | exact gn_law_any _ | exact gn_law_inside _ | exact gn_law_piece _ | exact gn_law_tail _ | exact gn_law_header _) ?_ (by kernel_rfl) (by kernel_rfl) (by decide)
  | k_dflt (refine nameX_K (K := KF _) (by assumption) (by assumption) (topRead_of (by assumption)) (by with_reducible first | exact gn_b1_set _ | exact gn_in_table_b1 _ | exact gn_b3_exceptions _ | exact gn_map_table_b3 _ | exact gn_parse_http_list _ | exact gn_law_nothing _ | exact gn_law_held_rightly _ | exact gn_law_prepared _ | exact gn_law_moved _ | exact gn_law_items _ | exact gn_law_letter _ | exact gn_law_several _ | exact gn_law_any _ | exact gn_law_inside _ | exact gn_law_piece _ | exact gn_law_tail _ | exact gn_law_header _) ?_ (by kernel_rfl) (by kernel_rfl) (by decide))
  | k_dflt (refine LCgL.ld_global (K := KF _) (by assumption) (by assumption) (by assumption) (by with_reducible first | exact gn_b1_set _ | exact gn_in_table_b1 _ | exact gn_b3_exceptions _ | exact gn_map_table_b3 _ | exact gn_parse_http_list _ | exact gn_law_nothing _ | exact gn_law_held_rightly _ | exact gn_law_prepared _ | exact gn_law_moved _ | exact gn_law_items _ | exact gn_law_letter _ | exact gn_law_several _ | exact gn_law_any _ | exact gn_law_inside _ | exact gn_law_piece _ | exact gn_law_tail _ | exact gn_law_header _) ?_ (by kernel_rfl) (by kernel_rfl) (by kernel_rfl) (by decide))))
local macro_rules | `(tactic| walk_at "execs cons") => `(tactic| (refine cons_tk ?_; intro tk; dsimp only))
local macro_rules | `(tactic| walk_at "eval Constant int") => `(tactic| (refine wpAny_Constant_int ?_; dsimp only))
local macro_rules | `(tactic| walk_at "eval Constant str") => `(tactic| (refine wpAny_Constant_str ?_; dsimp only))
local macro_rules | `(tactic| walk_at "eval Name") => `(tactic| ((first | with_reducible show wpAny _ _ (eval (.Name (Str.ofString "ord") _) _) _ _ _ | with_reducible show wpAny _ _ (eval (.Name (Str.ofString "chr") _) _) _ _ _ | with_reducible show wpAny _ _ (eval (.Name (Str.ofString "len") _) _) _ _ _ | with_reducible show wpAny _ _ (eval (.Name (Str.ofString "range") _) _) _ _ _ | with_reducible show wpAny _ _ (eval (.Name (Str.ofString "list") _) _) _ _ _ | with_reducible show wpAny _ _ (eval (.Name (Str.ofString "isinstance") _) _) _ _ _ | with_reducible show wpAny _ _ (eval (.Name (Str.ofString "bool") _) _) _ _ _); first
  | refine name_B (K := KF _) (by assumption) (by assumption) (topRead_of (by assumption)) (by with_reducible first | exact bn_ord _ | exact bn_chr _ | exact bn_len _ | exact bn_range _ | exact bn_list _ | exact bn_isinstance _ | exact bn_bool _) (by with_reducible first | exact bv_ord | exact bv_chr | exact bv_len | exact bv_range | exact bv_list | exact bv_isinstance | exact bv_bool) (by decide) ?_ (by kernel_rfl) (by kernel_rfl) (by decide)
  | k_dflt (refine nameX_B (K := KF _) (by assumption) (by assumption) (topRead_of (by assumption)) (by with_reducible first | exact bn_ord _ | exact bn_chr _ | exact bn_len _ | exact bn_range _ | exact bn_list _ | exact bn_isinstance _ | exact bn_bool _) (by with_reducible first | exact bv_ord | exact bv_chr | exact bv_len | exact bv_range | exact bv_list | exact bv_isinstance | exact bv_bool) (by decide) ?_ (by kernel_rfl) (by kernel_rfl) (by decide))
  | k_dflt (refine LCgL.ld_built (K := KF _) (by assumption) (by assumption) (by assumption) (by with_reducible first | exact bn_ord _ | exact bn_chr _ | exact bn_len _ | exact bn_range _ | exact bn_list _ | exact bn_isinstance _ | exact bn_bool _) (by with_reducible first | exact bv_ord | exact bv_chr | exact bv_len | exact bv_range | exact bv_list | exact bv_isinstance | exact bv_bool) (by decide) ?_ (by kernel_rfl) (by kernel_rfl) (by kernel_rfl) (by kernel_rfl) (by decide))))
local macro_rules | `(tactic| walk_at "callWith") => `(tactic| ((with_reducible show wpAny _ _ (callWith _ (Value.builtin _) [] (backTo _ (starEach (_ :: _) _)) []) _ _ _); k_dflt (refine PyProof.Rows.callWith_builtin1 ?_)))
local macro_rules | `(tactic| walk_at "callWith ref") => `(tactic| first
  | ((with_reducible show wpAny _ _ (callWith _ _ _ (backTo _ (starEach [] _)) _) _ _ _); k_dflt (refine callWith_K0 (K := KF _) (Frag.In.keeps (by assumption) (Fr.keep (by assumption))) (by kernel_rfl) ?_))
  | ((with_reducible show wpAny _ _ (callWith _ _ _ (backTo _ (starEach (_ :: _) _)) _) _ _ _); k_dflt (refine callWith_K (K := KF _) (by assumption) (by kernel_rfl) ?_)))
local macro_rules | `(tactic| walk_at "And") => `(tactic| (refine ⟨Frag.In.keeps (by assumption) (Fr.keep (by assumption)), ?_⟩; dsimp only [List.nil_append]))
section
theorem fr_stays {h₀ h h' : Heap} {L : Addr} {m : Str → Option Value} (F : Fr h₀ L h m) (k : h.StaysIn h') : Fr h₀ L h' m := by
  obtain ⟨oL, a1, a2, hL, a3⟩ := F.ns
  exact ⟨⟨oL, a1, a2, k _ _ hL, a3⟩, fun b o e => k b o (F.keep b o e), F.above⟩
theorem news_stays {h₀ h h' : Heap} {L : Addr} {news : List (Addr × Obj)} (N : News h₀ L h news) (k : h.StaysIn h') : News h₀ L h' news := fun p hp => ⟨k _ _ (N p hp).1, (N p hp).2⟩
theorem news_new {h₀ h h' : Heap} {L : Addr} {m : Str → Option Value} {news : List (Addr × Obj)} {a : Addr} {o : Obj} (F : Fr h₀ L h m) (N : News h₀ L h news) (k : h.StaysIn h') (hn : h.get? a = none) (ho : h'.get? a = some o) : News h₀ L h' ((a, o) :: news) := by
  intro p hp
  rcases List.mem_cons.mp hp with rfl | hp
  · refine ⟨ho, ?_, ?_⟩
    · intro e
      obtain ⟨oL, _, _, hL, _⟩ := F.ns
      have e' : a = L := e
      rw [e', hL] at hn; cases hn
    · cases q : h₀.get? a with
      | none => rfl
      | some o' => rw [F.keep _ _ q] at hn; cases hn
  · exact news_stays N k p hp
section
variable {w : World} {s₀ : Shared} {mg mb : Str → Option Value} {A : Around} {E : Value → Shared → Prop} {s : Shared} {n : Nat} {h₀ : Heap} {L : Addr} {m : Str → Option Value} {news : List (Addr × Obj)} {Q : Value → Shared → Prop}
theorem b1_call {c : Nat} {t : Tok} (g : Gd w s₀ mg mb h₀) (F : Fr h₀ L s.heap m) (N : News h₀ L s.heap news) (r : Room A (n + 1))
    (h : ∀ h' tk, Fr h₀ L h' m → News h₀ L h' news → Q (.bool (inB1 c)) { s with heap := h', toks := tk }) : wpAny (model pw w) A (call (.ref 32) [.str ⟨#[c]⟩ t]) Q E s :=
  wpAny_call (b1_spec (g.keeps F.keep) r c t fun h' tk k => h h' tk (fr_stays F k) (news_stays N k))
theorem map_call {c : Nat} {t : Tok} (g : Gd w s₀ mg mb h₀) (F : Fr h₀ L s.heap m) (N : News h₀ L s.heap news) (r : Room A (n + 1))
    (h : ∀ u h' tk, Fr h₀ L h' m → News h₀ L h' news → Q (.str (foldS c) u) { s with heap := h', toks := tk }) : wpAny (model pw w) A (call (.ref 78) [.str ⟨#[c]⟩ t]) Q E s :=
  wpAny_call (map_spec (g.keeps F.keep) r c t fun u h' tk k => h u h' tk (fr_stays F k) (news_stays N k))
theorem nothing_call (g : Gd w s₀ mg mb h₀) (F : Fr h₀ L s.heap m) (N : News h₀ L s.heap news) (r : Room A (n + 1))
    (h : ∀ a (vs : List Value) e h' tk, Fr h₀ L h' m → News h₀ L h' ((a, W.listOf vs.toArray e) :: news) → IntsAre vs b1L → Q (.ref a) { s with heap := h', toks := tk }) : wpAny (model pw w) A (call (.ref 90) []) Q E s :=
  wpAny_call (nothing_spec (g.keeps F.keep) r fun a vs e h' tk k hn ho hI => h a vs e h' tk (fr_stays F k) (news_new F N k hn ho) hI)
theorem letter_call {k : Int} {t : Tok} (g : Gd w s₀ mg mb h₀) (F : Fr h₀ L s.heap m) (N : News h₀ L s.heap news) (r : Room A (n + 1))
    (h : ∀ a u v x h' tk, Fr h₀ L h' m → News h₀ L h' ((a, tup3 ⟨#[greatOf k]⟩ ⟨#[greatOf k]⟩ ⟨#[smallOf k]⟩ u v x) :: news) → Q (.ref a) { s with heap := h', toks := tk }) : wpAny (model pw w) A (call (.ref 119) [.int k t]) Q E s :=
  wpAny_call (letter_spec (g.keeps F.keep) r k t fun a u v x h' tk kk hn ho => h a u v x h' tk (fr_stays F kk) (news_new F N kk hn ho))
theorem several_call {k : Int} {t : Tok} (g : Gd w s₀ mg mb h₀) (F : Fr h₀ L s.heap m) (N : News h₀ L s.heap news) (r : Room A (n + 1))
    (h : ∀ a u v x h' tk, Fr h₀ L h' m → News h₀ L h' ((a, tup3 (sevText k) (sevText k) (sevMeant k) u v x) :: news) → Q (.ref a) { s with heap := h', toks := tk }) : wpAny (model pw w) A (call (.ref 126) [.int k t]) Q E s :=
  wpAny_call (several_spec (g.keeps F.keep) r k t fun a u v x h' tk kk hn ho => h a u v x h' tk (fr_stays F kk) (news_new F N kk hn ho))
end
local macro_rules | `(tactic| walk_at "call ref") => `(tactic| first
  | (refine nothing_call (by assumption) (by assumption) (by assumption) (by assumption) ?_; intro a' vs' e' h' tk' F' N' hI'; dsimp only)
  | (refine map_call (by assumption) (by assumption) (by assumption) (by assumption) ?_; intro u' h' tk' F' N'; dsimp only)
  | (refine b1_call (by assumption) (by assumption) (by assumption) (by assumption) ?_; intro h' tk' F' N'; dsimp only))
local macro_rules | `(tactic| walk_at "compareOp In") => `(tactic| refine in_list_ints (News.isList (by assumption) (.head _)) (by assumption) ?_)
theorem place_range (k : Int) : 0 ≤ k.fmod 1112064 ∧ k.fmod 1112064 < 1112064 := fmod_range k (by decide)
local macro_rules | `(tactic| walk_at "call builtin:chr") => `(tactic| refine chr_of_range (by omega) (by omega) ?_)
/-- what is left of a sign when it is prepared -/
def prepS (c : Nat) : Str := if inB1 c then ⟨#[]⟩ else foldS c
def special (c : Nat) : Bool := c == 34 || c == 44 || c == 92 || c == 57344 || c == 57345
/-- a sign that is none of the law's marks, and what is meant by it -/
def AnyOk (X y : Str) : Prop := ∃ x, X = ⟨#[x]⟩ ∧ special x = false ∧ y = prepS x
theorem inB1_any (c : Int) : inB1 c = b1L.any fun x => x == c := by
  unfold inB1
  rw [List.contains_eq_any_beq]
  congr 1
  funext x
  rw [Bool.eq_iff_iff, beq_iff_eq, beq_iff_eq]
  exact eq_comm
theorem spec_none {x : Str} (hx : x = ⟨#[34, 44, 92, 57344, 57345]⟩) {c : Nat} (h : (Builtin.Str.occurrences x ⟨#[c]⟩ 0 x.length 1).isEmpty = true) : special c = false := by
  have e := StrLaws.found_one x c
  rw [h] at e
  have : ¬ c ∈ x.cps.toList := of_decide_eq_false e.symm
  rw [hx] at this
  unfold special
  simp at this
  simp [this]
theorem str_bar : Str.ofString "|" = ⟨#[124]⟩ := by decide +kernel
theorem str_nil : Str.ofString "" = ⟨#[]⟩ := by decide +kernel
theorem anyok_in {x : Str} {c : Nat} (h : (Builtin.Str.occurrences x ⟨#[c]⟩ 0 x.length 1).isEmpty = true) (hb : (b1L.any fun x => x == (c : Int)) = true) (hx : x = ⟨#[34, 44, 92, 57344, 57345]⟩) : AnyOk ⟨#[c]⟩ (Str.ofString "") :=
  ⟨c, rfl, spec_none hx h, by unfold prepS; rw [inB1_any, hb, str_nil]; rfl⟩
theorem anyok_fold {x : Str} {c : Nat} (h : (Builtin.Str.occurrences x ⟨#[c]⟩ 0 x.length 1).isEmpty = true) (hb : (b1L.any fun x => x == (c : Int)) = false) (hx : x = ⟨#[34, 44, 92, 57344, 57345]⟩) : AnyOk ⟨#[c]⟩ (foldS c) :=
  ⟨c, rfl, spec_none hx h, by unfold prepS; rw [inB1_any, hb]; rfl⟩
theorem anyok_ascii {x : Str} {c : Nat} (h : (Builtin.Str.occurrences x ⟨#[c]⟩ 0 x.length 1).isEmpty = true) (hb : (b1L.any fun x => x == (c : Int)) = false) (h1 : c < 128) (h2 : c < 65 ∨ 90 < c) (hx : x = ⟨#[34, 44, 92, 57344, 57345]⟩) : AnyOk ⟨#[c]⟩ ⟨#[c]⟩ :=
  ⟨c, rfl, spec_none hx h, by unfold prepS; rw [inB1_any, hb, fold_ascii c h1 h2]; rfl⟩
theorem anyok_bar {y : Str} (hy : y = ⟨#[124]⟩) : AnyOk (Str.ofString "|") y := ⟨124, str_bar, rfl, by rw [hy]; decide +kernel⟩
theorem fold_bar : foldS (UInt8.ofNat '|'.val.toNat).toNat = ⟨#[124]⟩ := fold_ascii 124 (by decide) (by decide)
set_option maxHeartbeats 8000000 in
theorem any_spec {w : World} {s₀ : Shared} {mg mb : Str → Option Value} {A : Around} {s : Shared} {n : Nat} {R : Result → Shared → Prop} (g : Gd w s₀ mg mb s.heap) (r : Room A (n + 2)) (k : Int) (t : Tok)
    (hR : ∀ a X y u v z h' tk, s.heap.StaysIn h' → s.heap.get? a = none → h'.get? a = some (tup3 X X y u v z) → AnyOk X y → R (.ok (.ret (.ref a))) { s with heap := h', toks := tk }) :
    codeAny (model pw w) A (.call (.ref 133) ⟨[.int k t], []⟩) R s := by
  w_on
  refine g.open ?_
  intro KX X V GL T B TE TW _ _ M
  refine call_def (i := 15) (c := 132) (o := o133 w.params) (pm := .str (Str.ofString "law_ny0220_01") 2223) (binds := [(Str.ofString "n", .int k t)]) g r (by kernel_rfl) (by kernel_rfl) (by kernel_rfl) (by kernel_rfl) (by kernel_rfl) (by kernel_rfl) (by decide +kernel) ?_
  intro h₁ F rA
  have N0 : News s.heap s.heap.objs.size h₁ [] := News.nil
  have hp := place_range k
  show wpAny _ _ (execs (_ :: _) _) _ _ _
  k_fold
  k_steps
  all_goals
    refine hR _ _ _ _ _ _ _ _ (Fr.keep (by assumption)) (News.fresh (by assumption) (.head _)) (News.get (by assumption) (.head _)) ?_
    first
    | exact anyok_bar str_bar
    | exact anyok_bar fold_bar
    | exact anyok_in (by assumption) (by assumption) (by decide +kernel)
    | exact anyok_fold (by assumption) (by assumption) (by decide +kernel)
    | exact anyok_ascii (by assumption) (by assumption) (by omega) (by omega) (by decide +kernel)
end
section
theorem letter_free {c : Nat} (h : (64 < c ∧ c < 91) ∨ (96 < c ∧ c < 123) ∨ 119808 ≤ c) : special c = false ∧ inB1 (c : Int) = false := by
  refine ⟨?_, not_b1 (by omega)⟩
  unfold special
  simp only [Bool.or_eq_false_iff, beq_eq_false_iff_ne]
  omega
theorem letters_ok (a : Nat) (ha : a < 12) (b : Nat) (hb : b < 26) : special (starts.getD a 0 + (b : Int)).toNat = false ∧ prepS (starts.getD a 0 + (b : Int)).toNat = ⟨#[97 + b]⟩ := by
  have h0 : ∀ a : Nat, a < 12 → ((a = 0 ∧ starts.getD a 0 = 65) ∨ (a = 1 ∧ starts.getD a 0 = 97) ∨ (2 ≤ a ∧ 119808 ≤ starts.getD a 0)) := by decide
  unfold prepS
  rcases h0 a ha with ⟨_, e⟩ | ⟨_, e⟩ | ⟨h2, e⟩
  · rw [e]
    have e1 : ((65 : Int) + (b : Int)).toNat = 65 + b := by omega
    have h := letter_free (c := 65 + b) (by omega)
    rw [e1, h.2]
    exact ⟨h.1, (foldS_none (find3_small (by omega))).trans (lower_great b hb)⟩
  · rw [e]
    have e1 : ((97 : Int) + (b : Int)).toNat = 97 + b := by omega
    have h := letter_free (c := 97 + b) (by omega)
    rw [e1, h.2]
    exact ⟨h.1, fold_ascii (97 + b) (by omega) (by omega)⟩
  · have hf := big_fold h2 ha hb
    have hn : (((starts.getD a 0 + (b : Int)).toNat : Nat) : Int) = starts.getD a 0 + (b : Int) := by omega
    have h := letter_free (c := (starts.getD a 0 + (b : Int)).toNat) (by omega)
    rw [h.2]
    rw [← hn] at hf
    exact ⟨h.1, foldS_some hf⟩
theorem letter_ok (k : Int) : AnyOk ⟨#[greatOf k]⟩ ⟨#[smallOf k]⟩ := by
  have h1 := fmod_range (k.fdiv 26) (k := 12) (by decide)
  have h2 := fmod_range k (k := 26) (by decide)
  have h := letters_ok ((k.fdiv 26).fmod 12).toNat (by omega) (k.fmod 26).toNat (by omega)
  have e : ((k.fmod 26).toNat : Int) = k.fmod 26 := by omega
  rw [e] at h
  refine ⟨greatOf k, rfl, h.1, ?_⟩
  unfold greatOf
  rw [h.2]
  have : smallOf k = 97 + (k.fmod 26).toNat := by unfold smallOf; omega
  rw [this]
theorem sev_ok : ∀ i : Nat, i < 5 → (Txt.item (Str.ofString "ͺßﬃ㏇ŉ") (i : Int) = ⟨#[[890, 223, 64259, 13255, 329].getD i 0]⟩ ∧ special ([890, 223, 64259, 13255, 329].getD i 0) = false ∧
    [Str.ofString " ι", Str.ofString "ss", Str.ofString "ffi", Str.ofString "co.", Str.ofString "ʼn"].getD i Str.empty = prepS ([890, 223, 64259, 13255, 329].getD i 0)) := by decide +kernel
theorem several_ok (k : Int) : AnyOk (sevText k) (sevMeant k) := by
  have h1 := fmod_range k (k := 5) (by decide)
  have h := sev_ok (k.fmod 5).toNat (by omega)
  have e : ((k.fmod 5).toNat : Int) = k.fmod 5 := by omega
  rw [e] at h
  exact ⟨_, h.1, h.2.1, h.2.2⟩
/-- a header's tokens -/
inductive Tk where
  | sign (c : Nat)
  | comma
  | esc
  | quote
inductive St where
  | out
  | inq
  | esc
def Tk.sent : Tk → Nat
  | .sign c => c
  | .comma => 44
  | .esc => 92
  | .quote => 34
def Tk.told : Tk → Nat
  | .sign c => c
  | .comma => 57344
  | .esc => 57345
  | .quote => 34
def Tk.meant : Tk → List Nat
  | .sign c => (prepS c).cps.toList
  | .comma => [57344]
  | .esc => []
  | .quote => [34]
/-- the reader's state behind a token -/
def St.next : St → Tk → Option St
  | .out, .sign c => if c == 34 || c == 44 || c == 57344 || c == 57345 then none else some .out
  | .out, .comma => some .out
  | .out, .quote => some .inq
  | .out, .esc => none
  | .inq, .sign c => if c == 34 || c == 92 || c == 57344 || c == 57345 then none else some .inq
  | .inq, .quote => some .out
  | .inq, .esc => some .esc
  | .inq, .comma => none
  | .esc, .sign c => if c == 57344 || c == 57345 then none else if inB1 c then some .esc else some .inq
  | .esc, _ => none
def St.run : St → List Tk → Option St
  | s, [] => some s
  | s, t :: r => (s.next t).bind fun s' => s'.run r
def sentS (ts : List Tk) : Str := ⟨(ts.map Tk.sent).toArray⟩
def toldS (ts : List Tk) : Str := ⟨(ts.map Tk.told).toArray⟩
def meantS (ts : List Tk) : Str := ⟨(ts.flatMap Tk.meant).toArray⟩
/-- three texts that stand for tokens, from a state to a state -/
def Fits (n : Nat) (a b : St) (X Y Z : Str) : Prop := ∃ ts, X = sentS ts ∧ Y = toldS ts ∧ Z = meantS ts ∧ a.run ts = some b ∧ ts.length ≤ n
theorem AnyOk.len {X y : Str} (h : AnyOk X y) : X.length = 1 := by obtain ⟨x, rfl, _⟩ := h; rfl
theorem meant_one (x : Nat) : meantS [.sign x] = prepS x := by
  unfold meantS
  simp [Tk.meant]
theorem fits_sign {X y : Str} (h : AnyOk X y) : Fits 2 .inq .inq X X y ∧ Fits 2 .out .out X X y := by
  obtain ⟨x, rfl, hs, rfl⟩ := h
  have hs' : x ≠ 34 ∧ x ≠ 44 ∧ x ≠ 92 ∧ x ≠ 57344 ∧ x ≠ 57345 := by simpa [special, and_assoc] using hs
  constructor
  · exact ⟨[.sign x], rfl, rfl, (meant_one x).symm, by simp [St.run, St.next, hs'], by simp⟩
  · exact ⟨[.sign x], rfl, rfl, (meant_one x).symm, by simp [St.run, St.next, hs'], by simp⟩
theorem prep_nil_of_b1 {x : Nat} (h : inB1 x = true) : prepS x = ⟨#[]⟩ := by unfold prepS; rw [h]; rfl
theorem str_bs : Str.ofString "\\" = ⟨#[92]⟩ := by decide +kernel
theorem str_e1 : Str.ofString "\ue001" = ⟨#[57345]⟩ := by decide +kernel
theorem fits_c1 : Fits 2 .inq .inq (Str.ofString ",") (Str.ofString ",") (Str.ofString ",") := ⟨[.sign 44], by decide +kernel, by decide +kernel, by decide +kernel, rfl, by decide⟩
theorem fits_c2 : Fits 2 .inq .inq (Str.ofString "\\,") (Str.ofString "\ue001,") (Str.ofString ",") := ⟨[.esc, .sign 44], by decide +kernel, by decide +kernel, by decide +kernel, rfl, by decide⟩
theorem fits_c3 : Fits 2 .inq .inq (Str.ofString "\\\"") (Str.ofString "\ue001\"") (Str.ofString "\"") := ⟨[.esc, .sign 34], by decide +kernel, by decide +kernel, by decide +kernel, rfl, by decide⟩
theorem fits_c4 : Fits 2 .inq .inq (Str.ofString "\\\\") (Str.ofString "\ue001\\") (Str.ofString "\\") := ⟨[.esc, .sign 92], by decide +kernel, by decide +kernel, by decide +kernel, rfl, by decide⟩
theorem fits_esc {X y : Str} (h : AnyOk X y) (hy : (y != Str.ofString "") = true) : Fits 2 .inq .inq (Str.ofString "\\" ++ X) (Str.ofString "\ue001" ++ X) y := by
  replace hy := bne_iff_ne.mp hy
  obtain ⟨x, rfl, hs, rfl⟩ := h
  have hs' : x ≠ 34 ∧ x ≠ 44 ∧ x ≠ 92 ∧ x ≠ 57344 ∧ x ≠ 57345 := by simpa [special, and_assoc] using hs
  have hb : inB1 x = false := by
    cases q : inB1 (x : Int) with
    | false => rfl
    | true => rw [prep_nil_of_b1 q, str_nil] at hy; exact absurd rfl hy
  refine ⟨[.esc, .sign x], ?_, ?_, ?_, by simp [St.run, St.next, hs', hb], by simp⟩
  · rw [str_bs]; rfl
  · rw [str_e1]; rfl
  · unfold meantS; simp [Tk.meant]
section
variable {w : World} {s₀ : Shared} {mg mb : Str → Option Value} {A : Around} {E : Value → Shared → Prop} {s : Shared} {n : Nat} {h₀ : Heap} {L : Addr} {m : Str → Option Value} {news : List (Addr × Obj)} {Q : Value → Shared → Prop}
theorem letter_call' {k : Int} {t : Tok} (g : Gd w s₀ mg mb h₀) (F : Fr h₀ L s.heap m) (N : News h₀ L s.heap news) (r : Room A (n + 1))
    (h : ∀ a X y u v x h' tk, Fr h₀ L h' m → News h₀ L h' ((a, tup3 X X y u v x) :: news) → AnyOk X y → X.length = 1 → Q (.ref a) { s with heap := h', toks := tk }) : wpAny (model pw w) A (call (.ref 119) [.int k t]) Q E s :=
  letter_call g F N r fun a u v x h' tk F' N' => h a _ _ u v x h' tk F' N' (letter_ok k) rfl
theorem several_call' {k : Int} {t : Tok} (g : Gd w s₀ mg mb h₀) (F : Fr h₀ L s.heap m) (N : News h₀ L s.heap news) (r : Room A (n + 1))
    (h : ∀ a X y u v x h' tk, Fr h₀ L h' m → News h₀ L h' ((a, tup3 X X y u v x) :: news) → AnyOk X y → X.length = 1 → Q (.ref a) { s with heap := h', toks := tk }) : wpAny (model pw w) A (call (.ref 126) [.int k t]) Q E s :=
  several_call g F N r fun a u v x h' tk F' N' => h a _ _ u v x h' tk F' N' (several_ok k) (several_ok k).len
theorem any_call {k : Int} {t : Tok} (g : Gd w s₀ mg mb h₀) (F : Fr h₀ L s.heap m) (N : News h₀ L s.heap news) (r : Room A (n + 2))
    (h : ∀ a X y u v x h' tk, Fr h₀ L h' m → News h₀ L h' ((a, tup3 X X y u v x) :: news) → AnyOk X y → X.length = 1 → Q (.ref a) { s with heap := h', toks := tk }) : wpAny (model pw w) A (call (.ref 133) [.int k t]) Q E s :=
  wpAny_call (any_spec (g.keeps F.keep) r k t fun a X y u v x h' tk kk hn ho hA => h a X y u v x h' tk (fr_stays F kk) (news_new F N kk hn ho) hA hA.len)
end
local macro_rules | `(tactic| walk_at "call ref") => `(tactic| (first
  | refine letter_call' (by assumption) (by assumption) (by assumption) (by assumption) ?_
  | refine several_call' (by assumption) (by assumption) (by assumption) (by assumption) ?_
  | refine any_call (by assumption) (by assumption) (by assumption) (by assumption) ?_); intro a' X' y' u' v' x' h' tk' F' N' hA' hl'; dsimp only [tup3] at N' ⊢)
set_option maxHeartbeats 8000000 in
theorem inside_spec {w : World} {s₀ : Shared} {mg mb : Str → Option Value} {A : Around} {s : Shared} {n : Nat} {R : Result → Shared → Prop} (g : Gd w s₀ mg mb s.heap) (r : Room A (n + 3)) (kd k : Int) (t t' : Tok) (h0 : 0 ≤ kd) (h9 : kd < 10)
    (hR : ∀ a X Y Z u v z h' tk, s.heap.StaysIn h' → s.heap.get? a = none → h'.get? a = some (tup3 X Y Z u v z) → Fits 2 .inq .inq X Y Z → R (.ok (.ret (.ref a))) { s with heap := h', toks := tk }) :
    codeAny (model pw w) A (.call (.ref 140) ⟨[.int kd t, .int k t'], []⟩) R s := by
  w_on
  refine g.open ?_
  intro KX X V GL T B TE TW _ _ M
  refine call_def (i := 16) (c := 139) (o := o140 w.params) (pm := .str (Str.ofString "law_ny0220_01") 2223) (binds := [(Str.ofString "kind", .int kd t), (Str.ofString "n", .int k t')]) g r (by kernel_rfl) (by kernel_rfl) (by kernel_rfl) (by kernel_rfl) (by kernel_rfl) (by kernel_rfl) (by decide +kernel) ?_
  intro h₁ F rA
  have N0 : News s.heap s.heap.objs.size h₁ [] := News.nil
  have rB := rA.le (Nat.le_succ _)
  show wpAny _ _ (execs (_ :: _) _) _ _ _
  k_fold
  k_steps
  all_goals
    refine hR _ _ _ _ _ _ _ _ _ (Fr.keep (by assumption)) (News.fresh (by assumption) (by k_mem)) (News.get (by assumption) (by k_mem)) ?_
    first
    | exact fits_c1
    | exact fits_c2
    | exact fits_c3
    | exact fits_c4
    | exact fits_esc (by assumption) (by assumption)
    | exact (fits_sign (by assumption)).1
end
section
theorem run_append : ∀ (t u : List Tk) (a : St), a.run (t ++ u) = (a.run t).bind fun b => b.run u
  | [], _, _ => rfl
  | x :: t, u, a => by
    show (a.next x).bind _ = ((a.next x).bind _).bind _
    cases a.next x with
    | none => rfl
    | some b => exact run_append t u b
theorem str_q : Str.ofString "\"" = ⟨#[34]⟩ := by decide +kernel
theorem str_cm : Str.ofString "," = ⟨#[44]⟩ := by decide +kernel
theorem str_e0 : Str.ofString "\ue000" = ⟨#[57344]⟩ := by decide +kernel
theorem Fits.append {n n' : Nat} {a b c : St} {X Y Z X' Y' Z' : Str} (h : Fits n a b X Y Z) (k : Fits n' b c X' Y' Z') : Fits (n + n') a c (X ++ X') (Y ++ Y') (Z ++ Z') := by
  obtain ⟨t, rfl, rfl, rfl, e, l⟩ := h
  obtain ⟨u, rfl, rfl, rfl, f, l'⟩ := k
  refine ⟨t ++ u, ?_, ?_, ?_, ?_, by rw [List.length_append]; omega⟩
  · exact (congrArg Str.mk (by simp [sentS])).trans rfl
  · exact (congrArg Str.mk (by simp [toldS])).trans rfl
  · exact (congrArg Str.mk (by simp [meantS])).trans rfl
  · rw [run_append, e]; exact f
theorem Fits.le {n n' : Nat} {a b : St} {X Y Z : Str} (h : Fits n a b X Y Z) (k : n ≤ n') : Fits n' a b X Y Z := by
  obtain ⟨t, e1, e2, e3, e, l⟩ := h
  exact ⟨t, e1, e2, e3, e, by omega⟩
theorem fits_nil {a : St} : Fits 0 a a (Str.ofString "") (Str.ofString "") (Str.ofString "") := ⟨[], by decide +kernel, by decide +kernel, by decide +kernel, rfl, by decide⟩
theorem fits_open : Fits 1 .out .inq (Str.ofString "\"") (Str.ofString "\"") (Str.ofString "\"") := ⟨[.quote], by decide +kernel, by decide +kernel, by decide +kernel, rfl, by decide⟩
theorem fits_shut : Fits 1 .inq .out (Str.ofString "\"") (Str.ofString "\"") (Str.ofString "\"") := ⟨[.quote], by decide +kernel, by decide +kernel, by decide +kernel, rfl, by decide⟩
theorem fits_comma : Fits 1 .out .out (Str.ofString ",") (Str.ofString "\ue000") (Str.ofString "\ue000") := ⟨[.comma], by decide +kernel, by decide +kernel, by decide +kernel, rfl, by decide⟩
theorem fits_esc1 : Fits 1 .inq .esc (Str.ofString "\\") (Str.ofString "\ue001") (Str.ofString "") := ⟨[.esc], by decide +kernel, by decide +kernel, by decide +kernel, rfl, by decide⟩
theorem str_app_nil (x : Str) : x ++ Str.ofString "" = x := by
  obtain ⟨a⟩ := x
  rw [str_nil]
  exact congrArg Str.mk (by simp)
theorem fits_t2 {X y : Str} (h : AnyOk X y) : Fits 4 .out .esc (Str.ofString "\"" ++ X ++ Str.ofString "\\") (Str.ofString "\"" ++ X ++ Str.ofString "\ue001") (Str.ofString "\"" ++ y) := by
  have := (fits_open.append (fits_sign h).1).append fits_esc1
  rwa [str_app_nil] at this
/-- how long a prepared sign may be -/
theorem b3_short : (b3.all fun x => decide (x.2.length ≤ 4)) = true := by decide +kernel
theorem fold_len (c : Nat) : (foldS c).length ≤ 4 := by
  unfold foldS
  cases q : find3 c with
  | none =>
    have := len_lower ⟨#[c]⟩
    have e : (⟨#[c]⟩ : Str).length = 1 := rfl
    dsimp only
    omega
  | some x => exact of_decide_eq_true (List.all_eq_true.mp b3_short x (List.mem_of_find?_eq_some q))
theorem prep_len (c : Nat) : (prepS c).length ≤ 4 := by
  unfold prepS
  split
  · exact Nat.zero_le _
  · exact fold_len c
theorem meant_len (ts : List Tk) : (ts.flatMap Tk.meant).length ≤ 4 * ts.length := by
  induction ts with
  | nil => simp
  | cons t r ih =>
    have : t.meant.length ≤ 4 := by
      cases t with
      | sign c => simpa [Tk.meant, Str.length] using prep_len c
      | _ => decide
    rw [List.flatMap_cons, List.length_append, List.length_cons]
    omega
theorem Fits.lens {n : Nat} {a b : St} {X Y Z : Str} (h : Fits n a b X Y Z) : X.length ≤ n ∧ Y.length ≤ n ∧ Z.length ≤ 4 * n ∧ X.length = Y.length := by
  obtain ⟨t, rfl, rfl, rfl, e, l⟩ := h
  have e1 : (sentS t).length = t.length := by simp [sentS, Str.length]
  have e2 : (toldS t).length = t.length := by simp [toldS, Str.length]
  have e3 : (meantS t).length = (t.flatMap Tk.meant).length := by simp [meantS, Str.length]
  have := meant_len t
  omega
section
variable {w : World} {s₀ : Shared} {mg mb : Str → Option Value} {A : Around} {E : Value → Shared → Prop} {s : Shared} {n : Nat} {h₀ : Heap} {L : Addr} {m : Str → Option Value} {news : List (Addr × Obj)} {Q : Value → Shared → Prop}
theorem letter_call2 {k : Int} {t : Tok} (g : Gd w s₀ mg mb h₀) (F : Fr h₀ L s.heap m) (N : News h₀ L s.heap news) (r : Room A (n + 1))
    (h : ∀ a X y u v x h' tk, Fr h₀ L h' m → News h₀ L h' ((a, tup3 X X y u v x) :: news) → AnyOk X y → X.length = 1 → y.length = 1 → Q (.ref a) { s with heap := h', toks := tk }) : wpAny (model pw w) A (call (.ref 119) [.int k t]) Q E s :=
  letter_call g F N r fun a u v x h' tk F' N' => h a _ _ u v x h' tk F' N' (letter_ok k) rfl rfl
end
local macro_rules | `(tactic| walk_at "call ref") => `(tactic| (refine letter_call2 (by assumption) (by assumption) (by assumption) (by assumption) ?_; intro a' X' y' u' v' x' h' tk' F' N' hA' hl' hl2'; dsimp only [tup3] at N' ⊢))
local macro_rules | `(tactic| walk_at "assign Tuple") => `(tactic| (refine unpackN_ (by assumption) (by assumption) (News.isTup (by assumption) (by k_mem)) (Room.handled (by assumption)) (by exact rfl) (by exact rfl) ?_; intro h' F' N'))
set_option maxHeartbeats 8000000 in
theorem tail_spec {w : World} {s₀ : Shared} {mg mb : Str → Option Value} {A : Around} {s : Shared} {n : Nat} {R : Result → Shared → Prop} (g : Gd w s₀ mg mb s.heap) (r : Room A (n + 2)) (k : Int) (t : Tok)
    (hR : ∀ a X Y Z u v z h' tk, s.heap.StaysIn h' → s.heap.get? a = none → h'.get? a = some (tup3 X Y Z u v z) → (∃ b, Fits 6 .out b X Y Z) → R (.ok (.ret (.ref a))) { s with heap := h', toks := tk }) :
    codeAny (model pw w) A (.call (.ref 152) ⟨[.int k t], []⟩) R s := by
  w_on
  refine g.open ?_
  intro KX X V GL T B TE TW _ _ M
  refine call_def (i := 18) (c := 151) (o := o152 w.params) (pm := .str (Str.ofString "law_ny0220_01") 2223) (binds := [(Str.ofString "n", .int k t)]) g r (by kernel_rfl) (by kernel_rfl) (by kernel_rfl) (by kernel_rfl) (by kernel_rfl) (by kernel_rfl) (by decide +kernel) ?_
  intro h₁ F rA
  have N0 : News s.heap s.heap.objs.size h₁ [] := News.nil
  have hk5 := fmod_range k (k := 5) (by decide)
  show wpAny _ _ (execs (_ :: _) _) _ _ _
  k_fold
  k_steps
  all_goals
    refine hR _ _ _ _ _ _ _ _ _ (Fr.keep (by assumption)) (News.fresh (by assumption) (by k_mem)) (News.get (by assumption) (by k_mem)) ?_
    first
    | exact ⟨_, (fits_nil (a := .out)).le (by decide)⟩
    | exact ⟨_, fits_open.le (by decide)⟩
    | exact ⟨_, fits_comma.le (by decide)⟩
    | exact ⟨_, (fits_t2 (by assumption)).le (by decide)⟩
    | exact ⟨_, ((fits_open.append (fits_sign (by assumption)).1).append fits_c1).le (by decide)⟩
end
section
open PySem PySem.W PyProof.Rows PySem.Calls PyProof.V PySem.Builtin PySem.Builtin.Str
theorem str_ext {x y : Str} (h : x.cps.toList = y.cps.toList) : x = y := by
  obtain ⟨a⟩ := x; obtain ⟨b⟩ := y
  exact congrArg Str.mk (Array.toList_inj.mp h)
theorem cps_app (x y : Str) : (x ++ y).cps.toList = x.cps.toList ++ y.cps.toList := by simp [Str.cps_append]
theorem str_assoc (x y z : Str) : x ++ y ++ z = x ++ (y ++ z) := str_ext (by simp [cps_app])
theorem str_nil_app (x : Str) : (⟨#[]⟩ : Str) ++ x = x := str_ext (by simp [cps_app])
theorem str_app_nil0 (x : Str) : x ++ (⟨#[]⟩ : Str) = x := str_ext (by simp [cps_app])
/-- splitting at a sign, as a fold -/
def spStep (c : Nat) (p : List Str × Str) (k : Nat) : List Str × Str := if k == c then (p.1 ++ [p.2], ⟨#[]⟩) else (p.1, p.2 ++ ⟨#[k]⟩)
theorem sp_free (c : Nat) : ∀ (l : List Nat) (p : List Str × Str), c ∉ l → l.foldl (spStep c) p = (p.1, p.2 ++ ⟨l.toArray⟩)
  | [], p, _ => by rw [List.foldl_nil]; exact Prod.ext rfl (str_app_nil0 _).symm
  | k :: r, p, h => by
    have hk : (k == c) = false := beq_eq_false_iff_ne.mpr fun e => h (e ▸ .head _)
    rw [List.foldl_cons, sp_free c r _ fun m => h (.tail _ m)]
    unfold spStep
    rw [hk]
    exact Prod.ext rfl (str_ext (by simp [cps_app]))
theorem sp_join (c : Nat) : ∀ (parts : List Str) (a : Str) (p : List Str × Str), (∀ y ∈ a :: parts, c ∉ y.cps.toList) →
    let q := (Str.join ⟨#[c]⟩ (a :: parts)).cps.toList.foldl (spStep c) p
    q.1 ++ [q.2] = p.1 ++ (p.2 ++ a) :: parts
  | [], a, p, h => by
    show (((a.cps.toList).foldl (spStep c) p).1 ++ [((a.cps.toList).foldl (spStep c) p).2] = _)
    rw [sp_free c _ p (h a (.head _))]
  | b :: r, a, p, h => by
    dsimp only
    have e : (Str.join ⟨#[c]⟩ (a :: b :: r)).cps.toList = a.cps.toList ++ (c :: (Str.join ⟨#[c]⟩ (b :: r)).cps.toList) := by
      show (a ++ ⟨#[c]⟩ ++ Str.join ⟨#[c]⟩ (b :: r)).cps.toList = _
      simp [cps_app]
    rw [e, List.foldl_append, sp_free c _ p (h a (.head _)), List.foldl_cons]
    have e2 : spStep c (p.1, p.2 ++ ⟨a.cps.toList.toArray⟩) c = (p.1 ++ [p.2 ++ a], ⟨#[]⟩) := by unfold spStep; rw [beq_self_eq_true, if_pos rfl]
    rw [e2]
    have := sp_join c r b (p.1 ++ [p.2 ++ a], ⟨#[]⟩) fun y hy => h y (.tail _ hy)
    dsimp only at this
    rw [this, str_nil_app]
    simp
def spRun (c : Nat) (x : Str) : List Str × Str := x.cps.toList.foldl (spStep c) ([], ⟨#[]⟩)
theorem split_fold (x : Str) (c : Nat) : Txt.split x ⟨#[c]⟩ = (spRun c x).1 ++ [(spRun c x).2] := by
  have hf := StrLaws.split_free x c
  have hj := StrLaws.join_split x ⟨#[c]⟩
  have hp := (fact_split x ⟨#[c]⟩).1
  generalize Txt.split x ⟨#[c]⟩ = parts at hf hj hp
  match parts, hp with
  | a :: r, _ =>
    have := sp_join c r a ([], ⟨#[]⟩) hf
    dsimp only at this
    rw [hj] at this
    unfold spRun
    rw [this, str_nil_app]
    rfl
/-- stripping, as lists -/
def stripL (l : List Nat) : List Nat := ((l.dropWhile Unicode.isSpace).reverse.dropWhile Unicode.isSpace).reverse
theorem drop_tw (p : Nat → Bool) : ∀ l : List Nat, l.drop (l.takeWhile p).length = l.dropWhile p
  | [] => rfl
  | k :: r => by
    cases h : p k
    · simp [h]
    · simp [h, drop_tw p r]
theorem strip_list (x : Str) : (Txt.strip x).cps.toList = stripL x.cps.toList := by
  unfold Txt.strip
  rw [PyProof.Rows.stripBy_eq]
  unfold stripLo stripHi strSub stripL
  rw [if_pos rfl, if_pos rfl]
  generalize hl : x.cps.toList = l
  have hlen : x.length = l.length := by rw [← hl]; simp [Str.length]
  rw [hlen]
  have e : (x.cps.extract (l.takeWhile Unicode.isSpace).length (l.length - ((l.drop (l.takeWhile Unicode.isSpace).length).reverse.takeWhile Unicode.isSpace).length)).toList = (l.drop (l.takeWhile Unicode.isSpace).length).take (l.length - ((l.drop (l.takeWhile Unicode.isSpace).length).reverse.takeWhile Unicode.isSpace).length - (l.takeWhile Unicode.isSpace).length) := by
    rw [Array.toList_extract, hl, List.extract_eq_take_drop]
  show (x.cps.extract _ _).toList = _
  rw [e, drop_tw]
  have h2 : l.length = (l.takeWhile Unicode.isSpace).length + (l.dropWhile Unicode.isSpace).length := by
    rw [← List.length_append, List.takeWhile_append_dropWhile]
  generalize l.dropWhile Unicode.isSpace = y at h2 ⊢
  have e3 : l.length - (y.reverse.takeWhile Unicode.isSpace).length - (l.takeWhile Unicode.isSpace).length = y.length - (y.reverse.takeWhile Unicode.isSpace).length := by omega
  rw [e3, ← drop_tw, List.reverse_drop, List.reverse_reverse]
  simp
theorem strip_pad (a y b : List Nat) (ha : ∀ c ∈ a, Unicode.isSpace c = true) (hb : ∀ c ∈ b, Unicode.isSpace c = true) : stripL (a ++ y ++ b) = stripL y := by
  have hall : ∀ z : List Nat, (∀ c ∈ z, Unicode.isSpace c = true) → z.dropWhile Unicode.isSpace = [] := by
    intro z hz
    induction z with
    | nil => rfl
    | cons k r ih => rw [List.dropWhile_cons, if_pos (hz k (.head _))]; exact ih fun c hc => hz c (.tail _ hc)
  unfold stripL
  rw [List.append_assoc, List.dropWhile_append, hall a ha]
  simp only [List.isEmpty_nil, if_true]
  rw [List.dropWhile_append]
  by_cases h : (y.dropWhile Unicode.isSpace).isEmpty = true
  · rw [if_pos h, hall b hb, List.isEmpty_iff.mp h]
  · rw [if_neg h, List.reverse_append, List.dropWhile_append, hall b.reverse (fun c hc => hb c (List.mem_reverse.mp hc))]
    simp
theorem strip_parts (l : List Nat) : ∃ a b, l = a ++ stripL l ++ b ∧ (∀ c ∈ a, Unicode.isSpace c = true) ∧ ∀ c ∈ b, Unicode.isSpace c = true := by
  have tw : ∀ (z : List Nat) c, c ∈ z.takeWhile Unicode.isSpace → Unicode.isSpace c = true := by
    intro z
    induction z with
    | nil => intro c hc; cases hc
    | cons k r ih =>
      intro c hc
      rw [List.takeWhile_cons] at hc
      split at hc
      · rcases List.mem_cons.mp hc with rfl | hc
        · assumption
        · exact ih c hc
      · cases hc
  refine ⟨l.takeWhile Unicode.isSpace, ((l.dropWhile Unicode.isSpace).reverse.takeWhile Unicode.isSpace).reverse, ?_, tw _, fun c hc => tw _ _ (List.mem_reverse.mp hc)⟩
  unfold stripL
  rw [List.append_assoc, ← List.reverse_append, List.takeWhile_append_dropWhile, List.reverse_reverse, List.takeWhile_append_dropWhile]
end
section
theorem lower_one (c : Nat) : (Txt.lower ⟨#[c]⟩).cps.toList = Unicode.lowerOf c := by
  have h : Unicode.lowerAt #[c] 0 = Unicode.lowerOf c := by
    have e : Unicode.endsWord #[c] 0 = false := rfl
    show (if c == 0x3A3 && Unicode.endsWord #[c] 0 then [0x3C2] else Unicode.lowerOf c) = _
    rw [e, Bool.and_false, if_neg Bool.false_ne_true]
  have h2 : (Txt.lower ⟨#[c]⟩).cps = (Unicode.lowerAt #[c] 0).toArray := by
    show (#[(Unicode.lowerAt #[c] 0).toArray]).flatten = _
    simp
  rw [h2, h]
theorem shifted_mem : ∀ (t : List (Nat × Nat × Nat)) (c v : Nat), Unicode.shifted t c = some v → ∃ p ∈ t, p.2.2 ≤ v ∧ v ≤ p.2.2 + (p.2.1 - p.1)
  | [], c, v, h => by cases h
  | (a, b, k) :: r, c, v, h => by
    unfold Unicode.shifted at h
    split at h
    · cases h
    · split at h
      · cases h
        exact ⟨_, .head _, by show k ≤ k + (c - a); omega, by show k + (c - a) ≤ k + (b - a); omega⟩
      · obtain ⟨p, hp, q⟩ := shifted_mem r c v h
        exact ⟨p, .tail _ hp, q⟩
theorem lookup_mem {cs : List Nat} : ∀ (t : List (Nat × List Nat)) (c : Nat), t.lookup c = some cs → ∃ p ∈ t, p.2 = cs
  | [], c, h => by cases h
  | (a, l) :: r, c, h => by
    rw [List.lookup_cons] at h
    split at h
    · cases h; exact ⟨_, .head _, rfl⟩
    · obtain ⟨p, hp, q⟩ := lookup_mem r c h
      exact ⟨p, .tail _ hp, q⟩
/-- the law's marks -/
def marks : List Nat := [34, 44, 92, 57344]
theorem one_ok : (UnicodeData.oneLower.all fun p => marks.all fun m => decide (m < p.2.2 ∨ p.2.2 + (p.2.1 - p.1) < m)) = true := by decide +kernel
theorem sev_ok2 : (UnicodeData.severalLower.all fun p => marks.all fun m => !p.2.contains m && !p.2.isEmpty) = true := by decide +kernel
theorem b3_ok : (b3.all fun p => marks.all fun m => !p.2.cps.toList.contains m && !p.2.cps.toList.isEmpty) = true := by decide +kernel
theorem lower_marks {c m : Nat} (hm : m ∈ marks) (h : c ≠ m) : m ∉ Unicode.lowerOf c ∧ Unicode.lowerOf c ≠ [] := by
  unfold Unicode.lowerOf Unicode.image
  split
  · rename_i cs e
    obtain ⟨p, hp, rfl⟩ := lookup_mem _ _ e
    have := List.all_eq_true.mp (List.all_eq_true.mp sev_ok2 p hp) m hm
    simpa using this
  · refine ⟨?_, List.cons_ne_nil _ _⟩
    intro k
    have k := List.mem_singleton.mp k
    cases q : Unicode.shifted UnicodeData.oneLower c with
    | none => rw [q] at k; exact h k.symm
    | some v =>
      rw [q] at k
      obtain ⟨p, hp, h1, h2⟩ := shifted_mem _ _ _ q
      have := of_decide_eq_true (List.all_eq_true.mp (List.all_eq_true.mp one_ok p hp) m hm)
      have k : m = v := k
      omega
theorem fold_marks {c m : Nat} (hm : m ∈ marks) (h : c ≠ m) : m ∉ (foldS c).cps.toList ∧ (foldS c).cps.toList ≠ [] := by
  cases q : find3 c with
  | some x =>
    rw [foldS_some q]
    have := List.all_eq_true.mp (List.all_eq_true.mp b3_ok x (List.mem_of_find?_eq_some q)) m hm
    simpa using this
  | none =>
    rw [foldS_none q, lower_one]
    exact lower_marks hm h
theorem prep_marks {c m : Nat} (hm : m ∈ marks) (h : c ≠ m) : m ∉ (prepS c).cps.toList := by
  unfold prepS
  split
  · simp
  · exact (fold_marks hm h).1
theorem prep_some {c : Nat} (h : inB1 c = false) : (prepS c).cps.toList ≠ [] := by
  unfold prepS
  rw [h, if_neg Bool.false_ne_true]
  by_cases k : c = 34
  · exact (fold_marks (m := 44) (by decide) (by omega)).2
  · exact (fold_marks (m := 34) (by decide) k).2
theorem prep_mark : ∀ m ∈ marks, (prepS m).cps.toList = [m] := by decide +kernel
theorem within_mem : ∀ (t : List (Nat × Nat)) (c : Nat), Unicode.within t c = true → ∃ p ∈ t, p.1 ≤ c ∧ c ≤ p.2
  | [], c, h => by cases h
  | (a, b) :: r, c, h => by
    unfold Unicode.within at h
    split at h
    · cases h
    · rw [Bool.or_eq_true] at h
      rcases h with h | h
      · exact ⟨_, .head _, by show a ≤ c; omega, of_decide_eq_true h⟩
      · obtain ⟨p, hp, q⟩ := within_mem r c h
        exact ⟨p, .tail _ hp, q⟩
theorem space_ok : ∀ p ∈ UnicodeData.space, ∀ i : Nat, i < p.2 - p.1 + 1 → (prepS (p.1 + i)).cps.toList = [p.1 + i] := by decide +kernel
theorem prep_space {c : Nat} (h : Unicode.isSpace c = true) : (prepS c).cps.toList = [c] := by
  obtain ⟨p, hp, h1, h2⟩ := within_mem _ _ h
  have := space_ok p hp (c - p.1) (by omega)
  have e : p.1 + (c - p.1) = c := by omega
  rwa [e] at this
end
section
/-- an element of a comprehension with the objects that it brought -/
def ElAt (h₀ : Heap) (off : Addr → Prop) (F : Value → Value → List (Addr × Obj) → Prop) (h : Heap) (v y : Value) : Prop :=
  ∃ obs, F v y obs ∧ ∀ p ∈ obs, h₀.get? p.1 = none ∧ ¬ off p.1 ∧ h.get? p.1 = some p.2
theorem ElAt.keep {h₀ h h' : Heap} {off : Addr → Prop} {F : Value → Value → List (Addr × Obj) → Prop} {v y : Value} (x : ElAt h₀ off F h v y) (k : ∀ b o, ¬ off b → h.get? b = some o → h'.get? b = some o) : ElAt h₀ off F h' v y := by
  obtain ⟨obs, hF, ho⟩ := x
  exact ⟨obs, hF, fun p hp => ⟨(ho p hp).1, (ho p hp).2.1, k _ _ (ho p hp).2.1 (ho p hp).2.2⟩⟩
section
variable {prog : Program} {w : World} {A : Around} {R : Result → Shared → Prop} {s : Shared}
theorem compLoop_gen {elt target iter : Expr} {scope : Scope} {pos : Pos} {I D : Addr} {fp wr : List Addr} {n : Nat} {P : Nat → Value → Prop} {St : Nat → Heap → Prop} {cenv : Env} {own : List Addr} {B : Option Value → Heap → Prop}
    (W : Walks prog w A I fp wr n P St) (F : Value → Value → List (Addr × Obj) → Prop)
    (hBf : ∀ v h h', B v h → (∀ b ∈ own, ∀ o, h.get? b = some o → h'.get? b = some o) → B v h') (hBl : ∀ v h, B v h → ∀ b ∈ own, ∃ o, h.get? b = some o)
    (hlive : ∀ i h, St i h → ∀ b ∈ wr, ∃ o, h.get? b = some o)
    (has : ∀ v u (s' : Shared) (Q : Unit → Shared → Prop) (E : Value → Shared → Prop), B u s'.heap → (∀ h' tk, B (some v) h' → (∀ b o, b ∉ own → s'.heap.get? b = some o → h'.get? b = some o) → Q () { s' with heap := h', toks := tk }) → wpAny (model prog w) A (assign target cenv v) Q E s')
    (hDo : D ∉ own) (hDf : D ∉ fp) (hof : ∀ b ∈ own, b ∉ fp) (hst : St 0 s.heap) (hacc : s.heap.PlainList D #[]) (hB : B none s.heap)
    (helt : ∀ i v s₂, P i v → B (some v) s₂.heap → (∀ b o, b ∉ own → b ∉ wr → b ≠ D → s.heap.get? b = some o → s₂.heap.get? b = some o) →
      wpAny (model prog w) A (eval elt cenv) (fun y s₃ => (∃ obs, F v y obs ∧ ∀ p ∈ obs, s₂.heap.get? p.1 = none ∧ s₃.heap.get? p.1 = some p.2) ∧ Keeps s₂ s₃) (notedBy (model prog w) A cenv fun e s' => R (.error e) s') s₂)
    (hR : ∀ h' tk ys (vs : List Value), (∃ u, B u h') → h'.PlainList D ys → vs.length = n → (∀ j v, vs[j]? = some v → P j v) → Paired (ElAt s.heap (fun a => a ∈ own ∨ a ∈ wr ∨ a = D) F h') vs ys.toList →
      (∀ b o, b ∉ own → b ∉ wr → b ≠ D → s.heap.get? b = some o → h'.get? b = some o) → R (.ok .next) { s with heap := h', toks := tk })
    (hsz : n ≤ sizeLine) (ht : ∀ v, letOwnedTupleGo target (.ref I) v = pure () := by intro _; rfl) :
    codeAny (model prog w) A (.compLoop (.ListComp elt [⟨target, iter, [], 0⟩] scope pos) 0 (.ref I) (.ref D) cenv) R s := by
  have hDw : D ∉ wr := fun h => hDf (W.sub _ h)
  have how : ∀ b ∈ own, b ∉ wr := fun b hb h => hof b hb (W.sub _ h)
  refine codeAny_compLoop_list
    (fun k s' => ∃ h' tk ys, ∃ vs : List Value, s' = { s with heap := h', toks := tk } ∧ St vs.length h' ∧ h'.PlainList D ys ∧ (∃ u, B u h') ∧ (∀ j v, vs[j]? = some v → P j v) ∧
      Paired (ElAt s.heap (fun a => a ∈ own ∨ a ∈ wr ∨ a = D) F h') vs ys.toList ∧ vs.length ≤ n ∧ k = n + 1 - vs.length ∧
      (∀ b o, b ∉ own → b ∉ wr → b ≠ D → s.heap.get? b = some o → h'.get? b = some o)) ?_ (n + 1)
    ⟨s.heap, s.toks, #[], [], rfl, hst, hacc, ⟨_, hB⟩, by simp, by simpa using Paired.nil, Nat.zero_le _, rfl, fun _ _ _ _ _ e => e⟩ ht
  rintro k s' ⟨H, tk, ys, vs, rfl, hst', hacc', ⟨u, hB'⟩, hP, hF, hi, rfl, hk⟩
  by_cases hlt : vs.length < n
  · refine W.item vs.length _ _ _ hlt hst' fun v h₁ tk₁ hPv hst₁ hk₁ => ?_
    have hB₁ : B u h₁ := hBf _ _ _ hB' fun b hb o e => hk₁ b o (how b hb) e
    refine has v u _ _ _ hB₁ fun h₂ tk₂ hB₂ hk₂ => ?_
    dsimp only at hk₂ ⊢
    have up₂ : ∀ b o, b ∉ own → b ∉ wr → H.get? b = some o → h₂.get? b = some o := fun b o hbo hbw e => hk₂ b o hbo (hk₁ b o hbw e)
    have hst₂ : St (vs.length + 1) h₂ := W.frame _ _ _ hst₁ fun b hb o e => hk₂ b o (fun h => hof b h hb) e
    refine wpAny_mono (helt vs.length v { s with heap := h₂, toks := tk₂ } hPv hB₂ fun b o hbo hbw hbD e => up₂ b o hbo hbw (hk b o hbo hbw hbD e)) (fun y s₃ h₃ => ?_) fun _ _ e => e
    obtain ⟨⟨obs, hFy, hobs⟩, h₃, tk₃, rfl, hk₃⟩ := h₃
    dsimp only at hk₃ hobs
    have hacc₃ : h₃.PlainList D ys := hacc'.at fun o e => hk₃ _ o (up₂ D o hDo hDw e)
    have hys : ys.size ≤ sizeLine := by
      have e1 := hF.length
      have e4 : ys.toList.length = ys.size := by simp
      omega
    refine wpAny_list_append_plain (hsz := hys) hacc₃ fun h₅ hl₅ hs₅ => ?_
    have up₅ : ∀ b o, b ≠ D → h₂.get? b = some o → h₅.get? b = some o := fun b o hbD e => hs₅.extBut b o hbD (hk₃ b o e)
    have nb : ∀ p ∈ obs, ∀ b, (∃ o, h₂.get? b = some o) → p.1 ≠ b := fun p hp b ⟨o, e⟩ q => by
      have := (hobs p hp).1
      rw [q, e] at this; cases this
    have hlen : (vs ++ [v]).length = vs.length + 1 := by rw [List.length_append, List.length_singleton]
    refine ⟨n + 1 - (vs.length + 1), by omega, h₅, tk₃, ys.push y, vs ++ [v], rfl, ?_, hl₅, ⟨some v, ?_⟩, ?_, ?_, by rw [hlen]; exact hlt, by rw [hlen], fun b o hbo hbw hbD e => up₅ b o hbD (up₂ b o hbo hbw (hk b o hbo hbw hbD e))⟩
    · rw [hlen]
      exact W.frame _ _ h₅ hst₂ fun b hb o e => up₅ b o (fun h => hDf (h ▸ hb)) e
    · exact hBf _ _ _ hB₂ fun b hb o e => up₅ b o (fun h => hDo (h ▸ hb)) e
    · intro j u' hj
      rcases Nat.lt_trichotomy j vs.length with h | h | h
      · exact hP j u' (by rwa [List.getElem?_append_left h] at hj)
      · subst h; simp at hj; subst hj; exact hPv
      · have hnone : (vs ++ [v])[j]? = none := List.getElem?_eq_none (by rw [hlen]; omega)
        rw [hnone] at hj; cases hj
    · have h1 : Paired (ElAt s.heap (fun a => a ∈ own ∨ a ∈ wr ∨ a = D) F h₅) vs ys.toList := hF.mono fun _ _ hy => hy.keep fun b o hb e => by
        have hb' : b ∉ own ∧ b ∉ wr ∧ b ≠ D := ⟨fun h => hb (.inl h), fun h => hb (.inr (.inl h)), fun h => hb (.inr (.inr h))⟩
        exact up₅ b o hb'.2.2 (up₂ b o hb'.1 hb'.2.1 e)
      have h2 : ElAt s.heap (fun a => a ∈ own ∨ a ∈ wr ∨ a = D) F h₅ v y := by
        obtain ⟨oD, eD⟩ : ∃ o, h₂.get? D = some o := by
          obtain ⟨_, e⟩ := hacc'
          exact ⟨_, up₂ D _ hDo hDw e⟩
        refine ⟨obs, hFy, fun p hp => ⟨?_, ?_, hs₅.extBut _ _ (nb p hp D ⟨oD, eD⟩) (hobs p hp).2⟩⟩
        · cases q : s.heap.get? p.1 with
          | none => rfl
          | some o =>
            exfalso
            by_cases h1 : p.1 ∈ own
            · exact nb p hp p.1 (hBl _ _ hB₂ _ h1) rfl
            · by_cases h2 : p.1 ∈ wr
              · exact nb p hp p.1 (hlive _ _ hst₂ _ h2) rfl
              · by_cases h3 : p.1 = D
                · exact nb p hp D ⟨oD, eD⟩ h3
                · exact nb p hp p.1 ⟨o, up₂ _ _ h1 h2 (hk _ _ h1 h2 h3 q)⟩ rfl
        · rintro (h1 | h2 | h3)
          · exact nb p hp p.1 (hBl _ _ hB₂ _ h1) rfl
          · exact nb p hp p.1 (hlive _ _ hst₂ _ h2) rfl
          · exact nb p hp D ⟨oD, eD⟩ h3
      simpa using Paired.snoc h1 h2
  · have hin : vs.length = n := by omega
    refine W.done _ _ _ (hin ▸ hst') fun h₁ tk₁ hk₁ => ?_
    refine hR h₁ tk₁ ys vs ⟨u, hBf _ _ _ hB' fun b hb o e => hk₁ b o (how b hb) e⟩ (hacc'.at fun o e => hk₁ _ o hDw e) hin hP (hF.mono fun _ _ hy => hy.keep fun b o hb e => hk₁ b o (fun h => hb (.inr (.inl h))) e) fun b o hbo hbw hbD e => hk₁ b o hbw (hk b o hbo hbw hbD e)
end
end
section
theorem fresh_of {h : Heap} {a : Addr} (ha : h.objs.size ≤ a) : h.get? a = none := by
  cases e : h.get? a with
  | none => rfl
  | some o' => exact absurd (Heap.lt_size e) (Nat.not_lt.mpr ha)
section
variable {prog : Program} {w : World} {A : Around} {E : Value → Shared → Prop} {env : Env} {s : Shared}
/-- a list comprehension, with the objects that its elements bring -/
theorem comp_obj {elt iter : Expr} {x : Str} {px : Pos} {scope : Scope} {cl : List (Str × Addr)} {pos : Pos} {Q : Value → Shared → Prop} (F : Value → Value → List (Addr × Obj) → Prop)
    (hclos : closureFor scope env = pure cl) (hcell : ∀ y ∈ scope.names, y.2 ≠ .cell) (hkind : scope.kind = .function)
    (hnames : ∀ y ∈ scope.names, y.2 = .local → scope.names.lookup y.1 = some .local) (hx : scope.names.lookup x = some .local)
    (h : wpAny (model prog w) A (eval iter env) (fun xv s₁ => wpAny (model prog w) A (pyIter xv) (fun it s₂ => ∃ I fp wr n P St, it = .ref I ∧ Walks prog w A I fp wr n P St ∧ n ≤ sizeLine ∧ (∀ i h, St i h → ∀ b ∈ wr, ∃ o, h.get? b = some o) ∧ St 0 s₂.heap ∧ (∀ b ∈ fp, b < s₂.heap.objs.size) ∧
      (∀ C i v s₃ m₃ E', s₂.heap.objs.size ≤ C → P i v → s₃.heap.Ns C m₃ → m₃ x = some v → (∀ b o, b ∉ wr → s₂.heap.get? b = some o → s₃.heap.get? b = some o) →
        wpAny (model prog w) A (eval elt (compEnvC scope cl C env)) (fun y s₄ => (∃ obs, F v y obs ∧ ∀ p ∈ obs, s₃.heap.get? p.1 = none ∧ s₄.heap.get? p.1 = some p.2) ∧ Keeps s₃ s₄) E' s₃) ∧
      (∀ D h' tk ys (vs : List Value), s₂.heap.get? D = none → h'.PlainList D ys → vs.length = n → (∀ j v, vs[j]? = some v → P j v) → Paired (ElAt s₂.heap (fun a => a = D) F h') vs ys.toList →
        (∀ b o, b ∉ wr → s₂.heap.get? b = some o → h'.get? b = some o) → Q (.ref D) { s₂ with heap := h', toks := tk })) E s₁) E s)
    (hs : ∀ x, foldedSetIterable iter env x = pure x := by intro _; rfl) :
    wpAny (model prog w) A (eval (.ListComp elt [⟨.Name x px, iter, [], 0⟩] scope pos) env) Q E s := by
  rw [eval_ListComp]
  refine wpAny_comprehension_free (use := none) rfl hs hclos hkind hnames (wpAny_mono h (fun xv s₁ h₁ => wpAny_mono h₁ (fun it s₂ h₂ => ?_) fun _ _ e => e) fun _ _ e => e)
  obtain ⟨I, fp, wr, n, P, St, rfl, W, hsz, hlive, hst, hfp, hq, hQ⟩ := h₂
  refine wpAny_newObj_type (wpAny_newFunctionEnv hcell (by intro y hy; simp at hy) (fun h₁ hns₁ hsb₁ => ?_) hkind)
  dsimp only at hns₁ hsb₁ ⊢
  generalize hH2 : s₂.heap.push { cls := .type "list", dict := none, data := .seq ([] : List Value).toArray } = H2 at hns₁ hsb₁ ⊢
  have hC : H2.objs.size = s₂.heap.objs.size + 1 := by rw [← hH2, Heap.size_push]
  have hDC : s₂.heap.objs.size ≠ H2.objs.size := by rw [hC]; exact Nat.ne_of_lt (Nat.lt_succ_self _)
  have hCle : s₂.heap.objs.size ≤ H2.objs.size := by rw [hC]; exact Nat.le_succ _
  have below : ∀ b, b < s₂.heap.objs.size → b ≠ H2.objs.size ∧ b ≠ s₂.heap.objs.size := fun b hb => ⟨by rw [hC]; exact Nat.ne_of_lt (Nat.lt_succ_of_lt hb), Nat.ne_of_lt hb⟩
  have hDf : s₂.heap.objs.size ∉ fp := fun hm => Nat.lt_irrefl _ (hfp _ hm)
  have hCf : H2.objs.size ∉ fp := fun hm => by have := hfp _ hm; rw [hC] at this; exact Nat.lt_irrefl _ (Nat.lt_of_succ_lt this)
  have old : ∀ b o, s₂.heap.get? b = some o → h₁.get? b = some o := fun b o e => hsb₁.extBut b o (below b (Heap.lt_size e)).1 (Heap.get?_push_of_some _ (hH2 ▸ Heap.get?_push_of_some _ e))
  have hacc : h₁.PlainList s₂.heap.objs.size #[] := ⟨_, hsb₁.extBut _ _ hDC (Heap.get?_push_of_some _ (hH2 ▸ Heap.get?_push_size _ rfl))⟩
  have hst₁ : St 0 h₁ := W.frame _ _ _ hst fun b _ o e => old b o e
  have loop : ∀ s₃ : Shared, s₃ = { s₂ with heap := h₁, toks := s₂.toks + ([] : List (Str × Value)).length } →
      codeAny (model prog w) A (.compLoop (.ListComp elt [⟨.Name x px, iter, [], 0⟩] scope pos) 0 (.ref I) (.ref s₂.heap.objs.size) (compEnvC scope cl H2.objs.size env))
        (compPost (model prog w) A E none Q (.ref s₂.heap.objs.size) H2.objs.size) s₃ := by
    rintro s₃ rfl
    refine compLoop_gen (own := [H2.objs.size]) (B := fun v h => ∃ m, h.Ns H2.objs.size m ∧ ∀ y, v = some y → m x = some y) (cenv := compEnvC scope cl H2.objs.size env) W F ?_ ?_ hlive ?_ (by simpa using hDC) hDf (by simpa using hCf) hst₁ hacc
      ⟨_, hns₁, fun _ e => nomatch e⟩ ?_ ?_ hsz
    · rintro v h h' ⟨m, hn, hm⟩ k
      exact ⟨m, hn.at' fun o e => k _ (List.mem_singleton.mpr rfl) o e, hm⟩
    · rintro v h ⟨m, hn, hm⟩ b hb
      obtain ⟨o, _, _, e, _⟩ := hn
      exact ⟨o, by rw [List.mem_singleton.mp hb]; exact e⟩
    · rintro v u s' Q' E' ⟨m, hn, hm⟩ k
      refine wpAny_assign_Name (wpAny_storeName_local (lookup_relabel_local hx) hn (fun h₂ hn₂ hs₂ => ?_) (by simp [compEnvC, relabel, hkind]))
      exact k h₂ _ ⟨_, hn₂, fun y e => by cases e; simp⟩ fun b o hb e => hs₂.extBut b o (fun q => hb (List.mem_singleton.mpr q)) e
    · rintro i v s₃ hv ⟨m, hn, hm⟩ hk
      exact hq _ i v s₃ m _ hCle hv hn (hm v rfl) fun b o hbf e => hk b o (by simpa using (below b (Heap.lt_size e)).1) hbf (below b (Heap.lt_size e)).2 (old b o e)
    · rintro h' tk ys vs ⟨u, m, hn, _⟩ hpl hlen hP hF hk
      refine ⟨m, hn, fun h'' hs'' => hQ _ h'' tk ys vs (fresh_of (Nat.le_refl _)) ?_ hlen hP ?_ fun b o hbf e => ?_⟩
      · exact hpl.at fun o e => hs''.extBut _ o hDC e
      · refine hF.mono fun _ _ hy => ?_
        obtain ⟨obs, hF', ho⟩ := hy
        refine ⟨obs, hF', fun p hp => ?_⟩
        obtain ⟨a1, a2, a3⟩ := ho p hp
        refine ⟨?_, fun q => a2 (.inr (.inr q)), hs''.extBut _ _ (fun q => a2 (.inl (by simp [q]))) a3⟩
        cases q : s₂.heap.get? p.1 with
        | none => rfl
        | some o' => dsimp only at a1; rw [old _ _ q] at a1; cases a1
      · exact hs''.extBut b o (below b (Heap.lt_size e)).1 (hk b o (by simpa using (below b (Heap.lt_size e)).1) hbf (below b (Heap.lt_size e)).2 (old b o e))
  exact codeAny_compStart_list (loop _ rfl) (W.self 0 _ _ _ hst₁ (loop _ rfl))
/-- a comprehension's own names, with one cell -/
theorem newEnv_cell {scope : Scope} {g : Addr} {cl : List (Str × Addr)} {q : Str} {x : Str} {Q : Env → Shared → Prop} (hc : ∀ n, cellsFrom n scope.names cl = (x, n) :: cl) (hp : ∀ h : Heap, pushCells h scope.names = h.push { cls := .type "cell", data := .cell none })
    (hQ : Q (newEnv scope s.heap.objs.size g ((x, s.heap.objs.size + 1) :: cl) q none .none (some env) builtinsNs)
      { s with heap := (s.heap.push { cls := .type "dict", data := .dict #[] }).push { cls := .type "cell", data := .cell none } }) :
    wpAny (model prog w) A (newFunctionEnv scope g cl [] q none .none (some env)) Q E s := by
  simp only [newFunctionEnv, Option.isSome_some, if_true]
  refine wpAny_bind (wpAny_alloc ?_)
  refine wpAny_bind (wpAny_layCells _ (fun name kind cells => by cases hkc : kind == NameKind.cell <;> simp [hkc]) _ _ _ _ ?_)
  rw [show ({ s with heap := s.heap.push { cls := .type "dict", data := .dict #[] } } : Shared).heap.objs.size = s.heap.objs.size + 1 from Heap.size_push .., hc, hp]
  refine wpAny_bind ?_
  rw [List.forIn_nil]
  exact wpAny_pure (wpAny_pure hQ)
/-- a list comprehension whose name is a cell -/
theorem comp_cell {elt iter : Expr} {x : Str} {px : Pos} {scope : Scope} {cl : List (Str × Addr)} {pos : Pos} {Q : Value → Shared → Prop} (F : Value → Value → List (Addr × Obj) → Prop)
    (hclos : closureFor scope env = pure cl) (hc : ∀ n, cellsFrom n scope.names cl = (x, n) :: cl) (hp : ∀ h : Heap, pushCells h scope.names = h.push { cls := .type "cell", data := .cell none }) (hkind : scope.kind = .function)
    (hnames : ∀ y ∈ scope.names, y.2 = .local → scope.names.lookup y.1 = some .local) (hx : (relabel scope env).names.lookup x = some .cell)
    (h : wpAny (model prog w) A (eval iter env) (fun xv s₁ => wpAny (model prog w) A (pyIter xv) (fun it s₂ => ∃ I fp wr n P St, it = .ref I ∧ Walks prog w A I fp wr n P St ∧ n ≤ sizeLine ∧ (∀ i h, St i h → ∀ b ∈ wr, ∃ o, h.get? b = some o) ∧ St 0 s₂.heap ∧ (∀ b ∈ fp, b < s₂.heap.objs.size) ∧
      (∀ C c i v s₃ E', s₂.heap.objs.size ≤ C → s₂.heap.objs.size ≤ c → P i v → s₃.heap.IsCell c (some v) → (∃ m, s₃.heap.Ns C m) → (∀ b o, b ∉ wr → s₂.heap.get? b = some o → s₃.heap.get? b = some o) →
        wpAny (model prog w) A (eval elt (compEnvC scope ((x, c) :: cl) C env)) (fun y s₄ => (∃ obs, F v y obs ∧ ∀ p ∈ obs, s₃.heap.get? p.1 = none ∧ s₄.heap.get? p.1 = some p.2) ∧ Keeps s₃ s₄) E' s₃) ∧
      (∀ D h' tk ys (vs : List Value), s₂.heap.get? D = none → h'.PlainList D ys → vs.length = n → (∀ j v, vs[j]? = some v → P j v) → Paired (ElAt s₂.heap (fun a => a = D) F h') vs ys.toList →
        (∀ b o, b ∉ wr → s₂.heap.get? b = some o → h'.get? b = some o) → Q (.ref D) { s₂ with heap := h', toks := tk })) E s₁) E s)
    (hs : ∀ x, foldedSetIterable iter env x = pure x := by intro _; rfl) :
    wpAny (model prog w) A (eval (.ListComp elt [⟨.Name x px, iter, [], 0⟩] scope pos) env) Q E s := by
  rw [eval_ListComp]
  refine wpAny_comprehension_free (use := none) rfl hs hclos hkind hnames (wpAny_mono h (fun xv s₁ h₁ => wpAny_mono h₁ (fun it s₂ h₂ => ?_) fun _ _ e => e) fun _ _ e => e)
  obtain ⟨I, fp, wr, n, P, St, rfl, W, hsz, hlive, hst, hfp, hq, hQ⟩ := h₂
  refine wpAny_newObj_type (newEnv_cell hc hp ?_)
  dsimp only
  generalize hH2 : s₂.heap.push { cls := .type "list", dict := none, data := .seq ([] : List Value).toArray } = H2
  have hC : H2.objs.size = s₂.heap.objs.size + 1 := by rw [← hH2, Heap.size_push]
  generalize hh1 : (H2.push { cls := .type "dict", data := .dict #[] }).push { cls := .type "cell", data := .cell none } = h₁
  have hDC : s₂.heap.objs.size ≠ H2.objs.size := by rw [hC]; exact Nat.ne_of_lt (Nat.lt_succ_self _)
  have hDc : s₂.heap.objs.size ≠ H2.objs.size + 1 := by rw [hC]; omega
  have below : ∀ b, b < s₂.heap.objs.size → b ∉ [H2.objs.size, H2.objs.size + 1] ∧ b ≠ s₂.heap.objs.size := fun b hb => ⟨by simp only [List.mem_cons, List.not_mem_nil, or_false, not_or]; rw [hC]; omega, Nat.ne_of_lt hb⟩
  have hDf : s₂.heap.objs.size ∉ fp := fun hm => Nat.lt_irrefl _ (hfp _ hm)
  have old2 : ∀ b o, H2.get? b = some o → h₁.get? b = some o := fun b o e => hh1 ▸ Heap.get?_push_of_some _ (Heap.get?_push_of_some _ e)
  have old : ∀ b o, s₂.heap.get? b = some o → h₁.get? b = some o := fun b o e => old2 b o (hH2 ▸ Heap.get?_push_of_some _ e)
  have hacc : h₁.PlainList s₂.heap.objs.size #[] := ⟨_, old2 _ _ (hH2 ▸ Heap.get?_push_size _ rfl)⟩
  have hst₁ : St 0 h₁ := W.frame _ _ _ hst fun b _ o e => old b o e
  have hns₁ : h₁.Ns H2.objs.size (fun _ => none) := hh1 ▸ (Heap.Ns.new H2 (.type "dict")).keeps fun b o e => Heap.get?_push_of_some _ e
  have hcell₁ : h₁.IsCell (H2.objs.size + 1) none := ⟨_, by rw [← hh1, ← Heap.size_push H2 { cls := .type "dict", data := .dict #[] }]; exact Heap.get?_push_size _ rfl, rfl⟩
  have loop : ∀ s₃ : Shared, s₃ = { s₂ with heap := h₁ } →
      codeAny (model prog w) A (.compLoop (.ListComp elt [⟨.Name x px, iter, [], 0⟩] scope pos) 0 (.ref I) (.ref s₂.heap.objs.size) (compEnvC scope ((x, H2.objs.size + 1) :: cl) H2.objs.size env))
        (compPost (model prog w) A E none Q (.ref s₂.heap.objs.size) H2.objs.size) s₃ := by
    rintro s₃ rfl
    refine compLoop_gen (own := [H2.objs.size, H2.objs.size + 1]) (B := fun v h => (∃ m, h.Ns H2.objs.size m) ∧ h.IsCell (H2.objs.size + 1) v) (cenv := compEnvC scope ((x, H2.objs.size + 1) :: cl) H2.objs.size env) W F ?_ ?_ hlive ?_ ?_ hDf ?_ hst₁ hacc
      ⟨⟨_, hns₁⟩, hcell₁⟩ ?_ ?_ hsz
    · rintro v h h' ⟨⟨m, hn⟩, o, e, d⟩ k
      exact ⟨⟨m, hn.at' fun o e => k _ (by simp) o e⟩, o, k _ (by simp) o e, d⟩
    · rintro v h ⟨⟨m, hn⟩, o, e, d⟩ b hb
      rcases List.mem_cons.mp hb with rfl | hb
      · obtain ⟨o, _, _, e, _⟩ := hn
        exact ⟨o, e⟩
      · rw [List.mem_singleton.mp hb]; exact ⟨o, e⟩
    · rintro v u s' Q' E' ⟨⟨m, hn⟩, hcl⟩ k
      refine wpAny_assign_Name (wpAny_storeName_cell (c := H2.objs.size + 1) (by simp [compEnvC, relabel, hkind]) hx (by simp [compEnvC]) hcl fun h₂ hc₂ hs₂ => ?_)
      exact k h₂ _ ⟨⟨m, hn.at' fun o e => hs₂.extBut _ o (Nat.ne_of_lt (Nat.lt_succ_self _)) e⟩, hc₂⟩ fun b o hb e => hs₂.extBut b o (fun q => hb (by simp [q])) e
    · simp only [List.mem_cons, List.not_mem_nil, or_false, not_or]; exact ⟨hDC, hDc⟩
    · intro b hb hm
      have := hfp _ hm
      have hb' : b = H2.objs.size ∨ b = H2.objs.size + 1 := by simpa using hb
      rcases hb' with q | q <;> (rw [q, hC] at this; exact absurd this (Nat.not_lt.mpr (by omega)))
    · rintro i v s₃ hv ⟨hm, hcl⟩ hk
      exact hq _ _ i v s₃ _ (by omega) (by omega) hv hcl hm fun b o hbf e => hk b o (below b (Heap.lt_size e)).1 hbf (below b (Heap.lt_size e)).2 (old b o e)
    · rintro h' tk ys vs ⟨u, ⟨m, hn⟩, _⟩ hpl hlen hP hF hk
      refine ⟨m, hn, fun h'' hs'' => hQ _ h'' tk ys vs (fresh_of (Nat.le_refl _)) ?_ hlen hP ?_ fun b o hbf e => ?_⟩
      · exact hpl.at fun o e => hs''.extBut _ o hDC e
      · refine hF.mono fun _ _ hy => ?_
        obtain ⟨obs, hF', ho⟩ := hy
        refine ⟨obs, hF', fun p hp => ?_⟩
        obtain ⟨a1, a2, a3⟩ := ho p hp
        refine ⟨?_, fun q => a2 (.inr (.inr q)), hs''.extBut _ _ (fun q => a2 (.inl (by simp [q]))) a3⟩
        cases q : s₂.heap.get? p.1 with
        | none => rfl
        | some o' => dsimp only at a1; rw [old _ _ q] at a1; cases a1
      · exact hs''.extBut b o (fun q => (below b (Heap.lt_size e)).1 (by simp [q])) (hk b o (below b (Heap.lt_size e)).1 hbf (below b (Heap.lt_size e)).2 (old b o e))
  exact codeAny_compStart_list (loop _ rfl) (W.self 0 _ _ _ hst₁ (loop _ rfl))
end
end
section
section
variable {prog : Program} {w : World} {A : Around} {E : Value → Shared → Prop} {env : Env} {s : Shared} {h₀ : Heap} {L : Addr} {m : Str → Option Value}
/-- a list comprehension whose name is a cell, upon a ledger; its elements bring no object -/
theorem comp_cellN {elt iter : Expr} {x : Str} {px : Pos} {scope : Scope} {cl : List (Str × Addr)} {pos : Pos} {Q : Value → Shared → Prop} (F : Value → Value → Prop)
    (hclos : closureFor scope env = pure cl) (hc : ∀ n, cellsFrom n scope.names cl = (x, n) :: cl) (hp : ∀ h : Heap, pushCells h scope.names = h.push { cls := .type "cell", data := .cell none }) (hkind : scope.kind = .function)
    (hnames : ∀ y ∈ scope.names, y.2 = .local → scope.names.lookup y.1 = some .local) (hx : (relabel scope env).names.lookup x = some .cell)
    (h : wpAny (model prog w) A (eval iter env) (fun xv s₁ => wpAny (model prog w) A (pyIter xv) (fun it s₂ => ∃ I n P St news, it = .ref I ∧ Walks prog w A I [I] [I] n P St ∧ n ≤ sizeLine ∧ (∀ i h, St i h → ∃ o, h.get? I = some o) ∧ St 0 s₂.heap ∧ h₀.get? I = none ∧ I ≠ L ∧ (∀ p ∈ news, p.1 ≠ I) ∧
      Fr h₀ L s₂.heap m ∧ News h₀ L s₂.heap news ∧
      (∀ C c D oC oc oI oD i v h tk E', i < n → P i v → oc.data = .cell (some v) → Fr h₀ L h m → News h₀ L h ((c, oc) :: (C, oC) :: (I, oI) :: (D, oD) :: news) →
        wpAny (model prog w) A (eval elt (compEnvC scope ((x, c) :: cl) C env)) (fun y s₄ => F v y ∧ ∃ h' tk', s₄ = { s₂ with heap := h', toks := tk' } ∧ Fr h₀ L h' m ∧ News h₀ L h' ((c, oc) :: (C, oC) :: (I, oI) :: (D, oD) :: news)) E' { s₂ with heap := h, toks := tk }) ∧
      (∀ D h' tk ys (vs : List Value), vs.length = n → (∀ j v, vs[j]? = some v → P j v) → Paired F vs ys.toList → Fr h₀ L h' m → (∃ e, News h₀ L h' ((D, W.listOf ys e) :: news)) → Q (.ref D) { s₂ with heap := h', toks := tk })) E s₁) E s)
    (hs : ∀ x, foldedSetIterable iter env x = pure x := by intro _; rfl) :
    wpAny (model prog w) A (eval (.ListComp elt [⟨.Name x px, iter, [], 0⟩] scope pos) env) Q E s := by
  rw [eval_ListComp]
  refine wpAny_comprehension_free (use := none) rfl hs hclos hkind hnames (wpAny_mono h (fun xv s₁ h₁ => wpAny_mono h₁ (fun it s₂ h₂ => ?_) fun _ _ e => e) fun _ _ e => e)
  obtain ⟨I, n, P, St, news, rfl, W, hsz, hlive, hst, hI₀, hIL, offI, F₂, N₂, hq, hQ⟩ := h₂
  refine wpAny_newObj_type (newEnv_cell hc hp ?_)
  dsimp only
  generalize hH2 : s₂.heap.push { cls := .type "list", dict := none, data := .seq ([] : List Value).toArray } = H2
  have hC : H2.objs.size = s₂.heap.objs.size + 1 := by rw [← hH2, Heap.size_push]
  generalize hh1 : (H2.push { cls := .type "dict", data := .dict #[] }).push { cls := .type "cell", data := .cell none } = h₁
  generalize hDd : s₂.heap.objs.size = D
  generalize hCd : H2.objs.size = C
  generalize hcd : C + 1 = c
  have hDC : D ≠ C := by rw [← hDd, ← hCd, hC]; exact Nat.ne_of_lt (Nat.lt_succ_self _)
  have hDc : D ≠ c := by rw [← hDd, ← hcd, ← hCd, hC]; exact Nat.ne_of_lt (by omega)
  have hCc : C ≠ c := by rw [← hcd]; exact Nat.ne_of_lt (Nat.lt_succ_self _)
  have above : ∀ b o, s₂.heap.get? b = some o → b ≠ C ∧ b ≠ c ∧ b ≠ D := fun b o e => by
    have := Heap.lt_size e
    refine ⟨?_, ?_, ?_⟩ <;> refine Nat.ne_of_lt ?_
    · rw [← hCd, hC]; exact Nat.lt_succ_of_lt this
    · rw [← hcd, ← hCd, hC]; exact Nat.lt_succ_of_lt (Nat.lt_succ_of_lt this)
    · rw [← hDd]; exact this
  have old2 : ∀ b o, H2.get? b = some o → h₁.get? b = some o := fun b o e => hh1 ▸ Heap.get?_push_of_some _ (Heap.get?_push_of_some _ e)
  have old : ∀ b o, s₂.heap.get? b = some o → h₁.get? b = some o := fun b o e => old2 b o (hH2 ▸ Heap.get?_push_of_some _ e)
  have hacc : h₁.PlainList D #[] := ⟨_, old2 _ _ (hDd ▸ hH2 ▸ Heap.get?_push_size _ rfl)⟩
  have hst₁ : St 0 h₁ := W.frame _ _ _ hst fun b _ o e => old b o e
  have hns₁ : h₁.Ns C (fun _ => none) := hCd ▸ hh1 ▸ (Heap.Ns.new H2 (.type "dict")).keeps fun b o e => Heap.get?_push_of_some _ e
  have hcell₁ : h₁.IsCell c none := ⟨_, by rw [← hh1, ← hcd, ← hCd, ← Heap.size_push H2 { cls := .type "dict", data := .dict #[] }]; exact Heap.get?_push_size _ rfl, rfl⟩
  obtain ⟨oI₀, eI₀⟩ := hlive _ _ hst
  have hI3 := above _ _ eI₀
  obtain ⟨oL, _, _, eL, _⟩ := F₂.ns
  have hL3 := above _ _ eL
  have n₀ : ∀ a, s₂.heap.get? a = none → h₀.get? a = none := fun a ha => by
    cases e : h₀.get? a with
    | none => rfl
    | some o' => have := F₂.keep a o' e; rw [ha] at this; cases this
  have nD : h₀.get? D = none := n₀ _ (fresh_of (Nat.le_of_eq hDd))
  have nC : h₀.get? C = none := n₀ _ (fresh_of (by rw [← hCd, hC]; exact Nat.le_succ _))
  have nc : h₀.get? c = none := n₀ _ (fresh_of (by rw [← hcd, ← hCd, hC]; omega))
  have off : ∀ p ∈ news, p.1 ≠ C ∧ p.1 ≠ c ∧ p.1 ≠ D := fun p hp => above _ _ (N₂ p hp).1
  have off₀ : ∀ b o, h₀.get? b = some o → b ≠ C ∧ b ≠ c ∧ b ≠ D ∧ b ≠ I := fun b o e => ⟨fun q => (by rw [q, nC] at e; cases e), fun q => (by rw [q, nc] at e; cases e), fun q => (by rw [q, nD] at e; cases e), fun q => (by rw [q, hI₀] at e; cases e)⟩
  have keepF : ∀ {ha hb : Heap}, Fr h₀ L ha m → (∀ b o, b ≠ C → b ≠ c → b ≠ D → b ≠ I → ha.get? b = some o → hb.get? b = some o) → Fr h₀ L hb m := fun F' k =>
    ⟨F'.ns.at' fun o e => k _ o hL3.1 hL3.2.1 hL3.2.2 (Ne.symm hIL) e, fun b o e => k b o (off₀ b o e).1 (off₀ b o e).2.1 (off₀ b o e).2.2.1 (off₀ b o e).2.2.2 (F'.keep b o e), F'.above⟩
  have keepN : ∀ {ha hb : Heap}, News h₀ L ha news → (∀ b o, b ≠ C → b ≠ c → b ≠ D → b ≠ I → ha.get? b = some o → hb.get? b = some o) → News h₀ L hb news := fun N' k p hp =>
    ⟨k _ _ (off p hp).1 (off p hp).2.1 (off p hp).2.2 (offI p hp) (N' p hp).1, (N' p hp).2⟩
  have loop : ∀ s₃ : Shared, s₃ = { s₂ with heap := h₁ } →
      codeAny (model prog w) A (.compLoop (.ListComp elt [⟨.Name x px, iter, [], 0⟩] scope pos) 0 (.ref I) (.ref D) (compEnvC scope ((x, c) :: cl) C env))
        (compPost (model prog w) A E none Q (.ref D) C) s₃ := by
    rintro s₃ rfl
    refine codeAny_compLoop_list
      (fun k s' => ∃ h' tk ys, ∃ vs : List Value, s' = { s₂ with heap := h', toks := tk } ∧ St vs.length h' ∧ h'.PlainList D ys ∧ (∃ m', h'.Ns C m') ∧ (∃ u, h'.IsCell c u) ∧ (∀ j v, vs[j]? = some v → P j v) ∧
        Paired F vs ys.toList ∧ vs.length ≤ n ∧ k = n + 1 - vs.length ∧ Fr h₀ L h' m ∧ News h₀ L h' news) ?_ (n + 1)
      ⟨h₁, s₂.toks, #[], [], rfl, hst₁, hacc, ⟨_, hns₁⟩, ⟨_, hcell₁⟩, by simp, by simpa using Paired.nil, Nat.zero_le _, rfl, keepF F₂ fun b o _ _ _ _ e => old b o e, keepN N₂ fun b o _ _ _ _ e => old b o e⟩
    rintro k s' ⟨H, tk, ys, vs, rfl, hst', hacc', ⟨m', hn'⟩, ⟨u, oc', ec', dc'⟩, hP, hF, hi, rfl, F', N'⟩
    have w1 : ∀ b : Addr, b ≠ I → b ∉ [I] := fun b hb => by simpa using hb
    by_cases hlt : vs.length < n
    · refine W.item vs.length _ _ _ hlt hst' fun v h₁ tk₁ hPv hst₁ hk₁ => ?_
      refine wpAny_assign_Name (wpAny_storeName_cell (c := c) (v₀ := u) (by simp [compEnvC, relabel, hkind]) hx (by simp [compEnvC]) ⟨oc', hk₁ _ _ (w1 _ (Ne.symm hI3.2.1)) ec', dc'⟩ fun h₂ hc₂ hs₂ => ?_)
      dsimp only at hs₂ ⊢
      have up₂ : ∀ b o, b ≠ I → b ≠ c → H.get? b = some o → h₂.get? b = some o := fun b o hb hbc e => hs₂.extBut b o hbc (hk₁ b o (w1 b hb) e)
      have hst₂ : St (vs.length + 1) h₂ := W.frame _ _ _ hst₁ fun b hb o e => hs₂.extBut b o (by rw [List.mem_singleton.mp hb]; exact hI3.2.1) e
      obtain ⟨oI, eI⟩ := hlive _ _ hst₂
      obtain ⟨oc, ec, dc⟩ := hc₂
      obtain ⟨oC, eC, sC⟩ := LCg.ns_obj (hn'.at' fun o e => up₂ C o (Ne.symm hI3.1) hCc e)
      obtain ⟨kD, eD⟩ := hacc'
      have eD₂ := up₂ D _ (Ne.symm hI3.2.2) hDc eD
      have F₃ : Fr h₀ L h₂ m := keepF F' fun b o _ hbc _ hbI e => up₂ b o hbI hbc e
      have N₃ : News h₀ L h₂ news := keepN N' fun b o _ hbc _ hbI e => up₂ b o hbI hbc e
      have N₄ : News h₀ L h₂ ((c, oc) :: (C, oC) :: (I, oI) :: (D, PySem.W.listOf ys kD) :: news) := by
        intro p hp
        rcases List.mem_cons.mp hp with rfl | hp
        · exact ⟨ec, Ne.symm hL3.2.1, nc⟩
        rcases List.mem_cons.mp hp with rfl | hp
        · exact ⟨eC, Ne.symm hL3.1, nC⟩
        rcases List.mem_cons.mp hp with rfl | hp
        · exact ⟨eI, hIL, hI₀⟩
        rcases List.mem_cons.mp hp with rfl | hp
        · exact ⟨eD₂, Ne.symm hL3.2.2, nD⟩
        · exact N₃ p hp
      refine wpAny_mono (hq C c D oC oc oI _ vs.length v h₂ tk₁ _ hlt hPv dc F₃ N₄) (fun y s₃ h₃ => ?_) fun _ _ e => e
      obtain ⟨hFy, h₃, tk₃, rfl, F₅, N₅⟩ := h₃
      have gc := (N₅ (c, oc) (by simp)).1
      have gC := (N₅ (C, oC) (by simp)).1
      have gI := (N₅ (I, oI) (by simp)).1
      have gD := (N₅ (D, PySem.W.listOf ys kD) (.tail _ (.tail _ (.tail _ (.head _))))).1
      have N₆ : News h₀ L h₃ news := fun p hp => N₅ p (.tail _ (.tail _ (.tail _ (.tail _ hp))))
      have hys : ys.size ≤ sizeLine := by
        have e1 := hF.length
        have e4 : ys.toList.length = ys.size := by simp
        omega
      refine wpAny_list_append_plain (hsz := hys) ⟨kD, gD⟩ fun h₅ hl₅ hs₅ => ?_
      have up₅ : ∀ b o, b ≠ D → h₃.get? b = some o → h₅.get? b = some o := fun b o hbD e => hs₅.extBut b o hbD e
      have hlen : (vs ++ [v]).length = vs.length + 1 := by rw [List.length_append, List.length_singleton]
      refine ⟨n + 1 - (vs.length + 1), by omega, h₅, tk₃, ys.push y, vs ++ [v], rfl, ?_, hl₅, ⟨_, sC.ns (up₅ C _ (Ne.symm hDC) gC)⟩, ⟨_, oc, up₅ c _ (Ne.symm hDc) gc, dc⟩, ?_, ?_, by rw [hlen]; exact hlt, by rw [hlen], keepF F₅ fun b o _ _ hb _ e => up₅ b o hb e, keepN N₆ fun b o _ _ hb _ e => up₅ b o hb e⟩
      · rw [hlen]
        refine W.frame _ _ h₅ hst₂ fun b hb o e => ?_
        have q := List.mem_singleton.mp hb
        subst q
        rw [eI] at e; cases e
        exact up₅ _ _ hI3.2.2 gI
      · intro j u' hj
        rcases Nat.lt_trichotomy j vs.length with h | h | h
        · exact hP j u' (by rwa [List.getElem?_append_left h] at hj)
        · subst h; simp at hj; subst hj; exact hPv
        · have hnone : (vs ++ [v])[j]? = none := List.getElem?_eq_none (by rw [hlen]; omega)
          rw [hnone] at hj; cases hj
      · simpa using Paired.snoc hF hFy
    · have hin : vs.length = n := by omega
      refine W.done _ _ _ (hin ▸ hst') fun h₂ tk₂ hk₂ => ?_
      have up : ∀ b o, b ≠ I → H.get? b = some o → h₂.get? b = some o := fun b o hb e => hk₂ b o (w1 b hb) e
      refine ⟨m', hn'.at' fun o e => up C o (Ne.symm hI3.1) e, fun h'' hs'' => hQ D h'' tk₂ ys vs hin hP hF ?_ ?_⟩
      · exact keepF F' fun b o hbC _ _ hbI e => hs''.extBut b o hbC (up b o hbI e)
      · obtain ⟨kD, eD⟩ := hacc'
        refine ⟨kD, fun p hp => ?_⟩
        rcases List.mem_cons.mp hp with rfl | hp
        · exact ⟨hs''.extBut _ _ hDC (up _ _ (Ne.symm hI3.2.2) eD), Ne.symm hL3.2.2, nD⟩
        · exact keepN N' (fun b o hbC _ _ hbI e => hs''.extBut b o hbC (up b o hbI e)) p hp
  exact codeAny_compStart_list (loop _ rfl) (W.self 0 _ _ _ hst₁ (loop _ rfl))
end
end
section
section
variable {prog : Program} {w : World} {A : Around} {E : Value → Shared → Prop} {env : Env} {s : Shared} {h₀ : Heap} {L : Addr} {m : Str → Option Value}
/-- what a comprehension over a range with a cell as its name asks -/
def RangeSrc (prog : Program) (w : World) (A : Around) (h₀ : Heap) (L : Addr) (m : Str → Option Value) (env : Env) (elt : Expr) (x : Str) (scope : Scope) (cl : List (Str × Addr)) (F : Value → Value → Prop) (Q : Value → Shared → Prop) (xv : Value) (s₁ : Shared) : Prop :=
  ∃ r a b t u v n news, xv = .ref r ∧ A.handled = none ∧ Fr h₀ L s₁.heap m ∧ News h₀ L s₁.heap news ∧ IsRange s₁.heap r a b 1 t u v ∧ Builtin.Range.small a b 1 = true ∧ Builtin.Range.rangeSize a b 1 = ((n : Nat) : Int) ∧ n ≤ sizeLine ∧
    (∀ C c D I oC oc oI oD (i : Nat) t h tk E', i < n → oc.data = .cell (some (.int (a + (i : Int)) t)) → Fr h₀ L h m → News h₀ L h ((c, oc) :: (C, oC) :: (I, oI) :: (D, oD) :: news) →
      wpAny (model prog w) A (eval elt (compEnvC scope ((x, c) :: cl) C env)) (fun y s₄ => F (.int (a + (i : Int)) t) y ∧ ∃ h' tk', s₄ = { s₁ with heap := h', toks := tk' } ∧ Fr h₀ L h' m ∧ News h₀ L h' ((c, oc) :: (C, oC) :: (I, oI) :: (D, oD) :: news)) E' { s₁ with heap := h, toks := tk }) ∧
    (∀ D h' tk ys (vs : List Value), vs.length = n → (∀ (j : Nat) v, vs[j]? = some v → ∃ t, v = .int (a + (j : Int)) t) → Paired F vs ys.toList → Fr h₀ L h' m → (∃ e, News h₀ L h' ((D, W.listOf ys e) :: news)) → Q (.ref D) { s₁ with heap := h', toks := tk })
theorem comp_cell_range {elt iter : Expr} {x : Str} {px : Pos} {scope : Scope} {cl : List (Str × Addr)} {pos : Pos} {Q : Value → Shared → Prop} (F : Value → Value → Prop)
    (hclos : closureFor scope env = pure cl) (hc : ∀ n, cellsFrom n scope.names cl = (x, n) :: cl) (hp : ∀ h : Heap, pushCells h scope.names = h.push { cls := .type "cell", data := .cell none }) (hkind : scope.kind = .function)
    (hnames : ∀ y ∈ scope.names, y.2 = .local → scope.names.lookup y.1 = some .local) (hx : (relabel scope env).names.lookup x = some .cell)
    (h : wpAny (model prog w) A (eval iter env) (RangeSrc prog w A h₀ L m env elt x scope cl F Q) E s)
    (hs : ∀ x, foldedSetIterable iter env x = pure x := by intro _; rfl) :
    wpAny (model prog w) A (eval (.ListComp elt [⟨.Name x px, iter, [], 0⟩] scope pos) env) Q E s := by
  refine comp_cellN (h₀ := h₀) (L := L) (m := m) F hclos hc hp hkind hnames hx (wpAny_mono h (fun xv s₁ h₁ => ?_) fun _ _ e => e) hs
  obtain ⟨r, a, b, t, u, v, n, news, rfl, hh, F₁, N, hr, hsm, hn, hsz, he, hQ⟩ := h₁
  refine wpAny_pyIter_range hr hsm ?_
  refine ⟨_, n, _, _, news, rfl, LCg.range_walks hh a n, hsz, fun i h st => ⟨_, st⟩, (by show IsRangeIter _ _ _ _ _; rw [hn]; simpa using Heap.get?_push_size _ rfl), next_is_new F₁, Ne.symm (Nat.ne_of_lt F₁.ns.lt), (fun p hp => Nat.ne_of_lt (Heap.lt_size (N p hp).1)),
    F₁.keeps (fun _ _ e => Heap.get?_push_of_some _ e), N.grown (fun _ _ e => Heap.get?_push_of_some _ e), ?_, ?_⟩
  · rintro C c D oC oc oI oD i v h tk E' hi ⟨t', rfl⟩ dc F' N'
    exact he C c D _ oC oc oI oD i t' h tk E' hi dc F' N'
  · intro D h' tk ys vs h1 h2 h3 h4 h5
    exact hQ D h' tk ys vs h1 h2 h3 h4 h5
end
end
section
/-- a call of the def at statement i, that has cells, entered -/
theorem call_defC {w : World} {s₀ : Shared} {mg mb : Str → Option Value} {A : Around} {s : Shared} {R : Result → Shared → Prop} {i f c : Nat} {o : Obj} {pm : Value} {args : List Value} {binds : List (Str × Value)} {n : Nat}
    (g : Gd w s₀ mg mb s.heap) (r : Room A (n + 1)) (hf : (KF w.params).lookup f = some o) (hd : o.data = .func (docDef (nameOf i) (paramsOf i) (bodyOf i) (scopeOf i) pm (.ref c) .none))
    (hc : codeIn (KF w.params) (.ref c) (nameOf i) = true) (hb : bindArgs (docDef (nameOf i) (paramsOf i) (bodyOf i) (scopeOf i) pm (.ref c) .none) ⟨args, []⟩ = pure binds)
    (hl : (binds.all fun x => decide ((scopeOf i).names.lookup x.1 = some .local)) = true)
    (hs : ((scopeOf i).isCoroutine, (scopeOf i).isGenerator, (scopeOf i).kind) = (false, false, .function)) (hnd : ((cellsFrom 0 (scopeOf i).names []).map (·.1)).Nodup)
    (h : ∀ h₁ tk cells, Fr s.heap s.heap.objs.size h₁ (bindL (envOfC (nameOf i) (scopeOf i) s.heap.objs.size f (.ref c)).kindOf binds fun _ => none) → News s.heap s.heap.objs.size h₁ cells →
      CellsAre (bindC (envOfC (nameOf i) (scopeOf i) s.heap.objs.size f (.ref c)).kindOf binds fun _ => none) (cellsFrom (s.heap.objs.size + 1) (scopeOf i).names []) cells →
      Room (A.deeper (envOfC (nameOf i) (scopeOf i) s.heap.objs.size f (.ref c))) n →
      wpAny (model pw w) (A.deeper (envOfC (nameOf i) (scopeOf i) s.heap.objs.size f (.ref c))) (execs (bodyOf i) (envOfC (nameOf i) (scopeOf i) s.heap.objs.size f (.ref c)))
        (fun fl s' => R (.ok (.ret (match fl with | .ret v => v | _ => .none))) s') (fun _ _ => False) { s with heap := h₁, toks := tk }) :
    codeAny (model pw w) A (.call (.ref f) ⟨args, []⟩) R s := by
  obtain ⟨h1, h2, h3⟩ : _ ∧ _ ∧ _ := by simpa only [Prod.mk.injEq] using hs
  exact call_cellsN_ret (name := nameOf i) (params := paramsOf i) (body := bodyOf i) (scope := scopeOf i) (pm := pm) (cd := .ref c) (doc := .none) (o := o) (binds := binds) (by have := r.depth; omega) (g.K _ _ hf) hd g.G.T.nolimit (codeRec_of g.K hc) hb (fun x hx => .inl (locs hl x hx)) hnd
    (fun h₁ tk cells F N Y => h h₁ tk cells F N Y r.deeper) h1 h2 h3
section
variable {w : World} {s₀ : Shared} {mg mb : Str → Option Value} {A : Around} {E : Value → Shared → Prop} {s : Shared} {n : Nat} {h₀ : Heap} {L : Addr} {m : Str → Option Value} {news : List (Addr × Obj)} {Q : Value → Shared → Prop}
theorem off_new {h₀ h : Heap} {L a : Addr} : ∀ {news : List (Addr × Obj)}, News h₀ L h news → h.get? a = none → LCg.Off1 a news
  | [], _, _ => trivial
  | p :: _, N, hn => ⟨fun q => (by have := (N p (.head _)).1; rw [show p.1 = a from q, hn] at this; cases this), off_new (fun q hq => N q (.tail _ hq)) hn⟩
theorem inside_call {kd k : Int} {t t' : Tok} (g : Gd w s₀ mg mb h₀) (F : Fr h₀ L s.heap m) (N : News h₀ L s.heap news) (r : Room A (n + 3)) (h0 : 0 ≤ kd) (h9 : kd < 10)
    (h : ∀ a X Y Z u v x h' tk, Fr h₀ L h' m → News h₀ L h' ((a, tup3 X Y Z u v x) :: news) → LCg.Off1 a news → Fits 2 .inq .inq X Y Z → Q (.ref a) { s with heap := h', toks := tk }) : wpAny (model pw w) A (call (.ref 140) [.int kd t, .int k t']) Q E s :=
  wpAny_call (inside_spec (g.keeps F.keep) r kd k t t' h0 h9 fun a X Y Z u v x h' tk kk hn ho hA => h a X Y Z u v x h' tk (fr_stays F kk) (news_new F N kk hn ho) (off_new N hn) hA)
end
theorem off1_ne {a b : Addr} {o : Obj} : ∀ {news : List (Addr × Obj)}, LCg.Off1 a news → (b, o) ∈ news → (@Ne Nat b a)
  | [], _, h => nomatch h
  | _ :: _, x, h => by
    rcases List.mem_cons.mp h with e | h
    · cases e; exact x.1
    · exact off1_ne x.2 h
theorem off3_ne {I C D b : Addr} {o : Obj} : ∀ {news : List (Addr × Obj)}, LCg.Off3 I C D news → (b, o) ∈ news → ((@Ne Nat b I) ∧ (@Ne Nat b C) ∧ (@Ne Nat b D))
  | [], _, h => nomatch h
  | _ :: _, x, h => by
    rcases List.mem_cons.mp h with e | h
    · cases e; exact x.1
    · exact off3_ne x.2 h
end
section
local macro_rules | `(tactic| walk_at "call ref") => `(tactic| first
  | (refine inside_call (by assumption) (by assumption) (by assumption) (by assumption) (fmod_range _ (by decide)).1 (fmod_range _ (by decide)).2 ?_; intro a' X' Y' Z' u' v' x' h' tk' F' N' o1' hA'; dsimp only [tup3] at N' ⊢)
  | ((first
  | refine letter_call' (by assumption) (by assumption) (by assumption) (by assumption) ?_
  | refine several_call' (by assumption) (by assumption) (by assumption) (by assumption) ?_
  | refine any_call (by assumption) (by assumption) (by assumption) (by assumption) ?_); intro a' X' y' u' v' x' h' tk' F' N' hA' hl'; dsimp only [tup3] at N' ⊢))
local macro_rules | `(tactic| lcg_off) => `(tactic| first
  | exact True.intro
  | (refine And.intro ⟨(by first | exact Ne.symm (off1_ne (by assumption) (by k_mem)) | exact (off3_ne (by assumption) (by k_mem)).1), (by first | exact Ne.symm (off1_ne (by assumption) (by k_mem)) | exact (off3_ne (by assumption) (by k_mem)).2.1), (by first | exact Ne.symm (off1_ne (by assumption) (by k_mem)) | exact (off3_ne (by assumption) (by k_mem)).2.2)⟩ ?_; lcg_off))
local macro_rules | `(tactic| k_ne) => `(tactic| ((try dsimp only); first
  | exact off1_ne (by assumption) (by k_mem)
  | exact Ne.symm (off1_ne (by assumption) (by k_mem))
  | exact (off3_ne (by assumption) (by k_mem)).1
  | exact (off3_ne (by assumption) (by k_mem)).2.1
  | exact (off3_ne (by assumption) (by k_mem)).2.2))
local macro_rules | `(tactic| walk_at "FinE") => `(tactic| ((unfold LCg.FinE); intro D' h' tk' F' N' o1'; (try simp only [List.nil_append, List.cons_append] at N'); (try dsimp only)))
local macro_rules | `(tactic| walk_at "CompRest") => `(tactic| first
  | with_reducible refine LCg.CompRest.zero ?_
  | (with_reducible refine LCg.CompRest.succ ?_; intro v' I' oI' C' oC' D' m' h' tk' E' hv' hC' hx' F' N' off' ne'; (first | lcg_open hv' | (obtain ⟨t9', hv9'⟩ := hv'; subst hv9'))))
local macro_rules | `(tactic| walk_at "CompSrc") => `(tactic| (k_dflt (first
  | (refine LCg.CompSrc.ledger (Room.handled (by assumption)) (by assumption) (by assumption) (by k_mem) (by first | size_fits | exact Nat.le_of_ble_eq_true rfl) ?_; intro g'; lcg_lit)
  | (refine LCg.CompSrc.range (Room.handled (by assumption)) (by assumption) (by assumption) (by assumption) (by first | decide | rfl) (by first | rfl | decide) (by first | size_fits | exact Nat.le_of_ble_eq_true rfl) ?_; intro g'; lcg_lit))))
section
theorem join3 {w : World} {A : Around} {E : Value → Shared → Prop} {s : Shared} {D : Addr} {X1 X2 X3 : Str} {t t1 t2 t3 : Tok} {Q : Value → Shared → Prop} (hl : s.heap.IsList D #[.str X1 t1, .str X2 t2, .str X3 t3])
    (h1 : X1.length ≤ 8) (h2 : X2.length ≤ 8) (h3 : X3.length ≤ 8) (h : ∀ J t' k, J = X1 ++ X2 ++ X3 → J.length ≤ 24 → Q (.str J t') { s with toks := k }) :
    wpAny (model pw w) A (call (.builtin "str.join") [.str (Str.ofString "") t, .ref D]) Q E s := by
  refine join_listW (ys := [X1, X2, X3]) hl (.cons _ _ (.cons _ _ (.cons _ _ .nil))) (by decide +kernel) ?_ ?_
  · simp only [List.map_cons, List.map_nil, List.sum_cons, List.sum_nil, List.length_cons, List.length_nil]; omega
  · intro t' k
    have e : Txt.join (Str.ofString "") [X1, X2, X3] = X1 ++ X2 ++ X3 := by
      rw [str_nil]
      refine Str.ext' ?_
      show (X1.cps ++ #[] ++ X2.cps) ++ #[] ++ X3.cps = (X1.cps ++ X2.cps) ++ X3.cps
      simp
    refine h _ t' k e ?_
    rw [e, Str.length_append, Str.length_append]; omega
theorem add_q1 {w : World} {A : Around} {E : Value → Shared → Prop} {s : Shared} {x : Str} {t u : Tok} {Q : Value → Shared → Prop} (hx : x.length ≤ 24) (h : ∀ J t' k, J = Str.ofString "\"" ++ x → J.length ≤ 25 → Q (.str J t') { s with toks := k }) :
    wpAny (model pw w) A (binaryOp .Add (.str (Str.ofString "\"") t) (.str x u)) Q E s := by
  have e : (Str.ofString "\"").length = 1 := by decide +kernel
  refine PyProof.Rows.add_str (fun t' tk => h _ t' tk rfl (by rw [Str.length_append]; omega)) (by rw [sizeLine_eq]; omega)
theorem add_q2 {w : World} {A : Around} {E : Value → Shared → Prop} {s : Shared} {x : Str} {t u : Tok} {Q : Value → Shared → Prop} (hx : x.length ≤ 25) (h : ∀ J t' k, J = x ++ Str.ofString "\"" → Q (.str J t') { s with toks := k }) :
    wpAny (model pw w) A (binaryOp .Add (.str x t) (.str (Str.ofString "\"") u)) Q E s := by
  have e : (Str.ofString "\"").length = 1 := by decide +kernel
  refine PyProof.Rows.add_str (fun t' tk => h _ t' tk rfl) (by rw [sizeLine_eq]; omega)
local macro_rules | `(tactic| walk_at "call builtin:str.join") => `(tactic| (refine join3 (News.isList (by assumption) (by k_mem)) (by assumption) (by assumption) (by assumption) ?_; intro J' t' k' hJ' lJ'; dsimp only))
local macro_rules | `(tactic| walk_at "binaryOp Add str str") => `(tactic| first
  | (refine add_q1 (by assumption) ?_; intro J' t' k' hJ' lJ'; dsimp only)
  | (refine add_q2 (by assumption) ?_; intro J' t' k' hJ'; dsimp only))
def side (i : Int) (a b c : Str) : Str := if i = 0 then a else if i = 1 then b else c
def quoted (a b c : Str) : Str := Str.ofString "\"" ++ (a ++ b ++ c) ++ Str.ofString "\""
def ret5 : Stmt := ((bodyOf 17).drop 8).headD default
abbrev env5 (L : Addr) : Env := envOfC (nameOf 17) (scopeOf 17) L 145 (.ref 144)
theorem news_tail {h₀ h : Heap} {L : Addr} {p : Addr × Obj} {news : List (Addr × Obj)} (N : News h₀ L h (p :: news)) : News h₀ L h news := fun q hq => N q (.tail _ hq)
theorem news_head {h₀ h : Heap} {L : Addr} {p : Addr × Obj} {news : List (Addr × Obj)} (N : News h₀ L h (p :: news)) : News h₀ L h [p] := fun q hq => N q (by rw [List.mem_singleton.mp hq]; exact .head _)
theorem paired3 {a b c : Str} {vs : List Value} {ys : Array Value} (hl : vs.length = 3) (hv : ∀ (j : Nat) v, vs[j]? = some v → ∃ t, v = .int (0 + (j : Int)) t)
    (hp : Paired (fun v y => ∃ i t t', v = .int i t ∧ y = .str (side i a b c) t') vs ys.toList) : ∃ t0 t1 t2, ys = #[.str a t0, .str b t1, .str c t2] := by
  obtain ⟨ys⟩ := ys
  match vs, hl with
  | [v0, v1, v2], _ =>
    obtain ⟨u0, e0⟩ := hv 0 v0 rfl
    obtain ⟨u1, e1⟩ := hv 1 v1 rfl
    obtain ⟨u2, e2⟩ := hv 2 v2 rfl
    subst e0 e1 e2
    dsimp only at hp
    cases hp with
    | cons h0 hp =>
      cases hp with
      | cons h1 hp =>
        cases hp with
        | cons h2 hp =>
          cases hp
          obtain ⟨i0, _, t0, f0, rfl⟩ := h0
          obtain ⟨i1, _, t1, f1, rfl⟩ := h1
          obtain ⟨i2, _, t2, f2, rfl⟩ := h2
          cases f0; cases f1; cases f2
          exact ⟨t0, t1, t2, rfl⟩
set_option maxHeartbeats 3000000 in
theorem tail5b {w : World} {s₀ : Shared} {mg mb : Str → Option Value} {A : Around} {E : Value → Shared → Prop} {s : Shared} {n : Nat} {h₀ : Heap} {L : Addr} {m : Str → Option Value} {Q : Flow → Shared → Prop} {k : Int} {t : Tok} {o1 o2 : Obj}
    {D a1 a2 a3 : Addr} {X1 X2 X3 Y1 Y2 Y3 Z1 Z2 Z3 : Str} {t1 t2 t3 t4 t5 t6 t7 t8 t9 : Tok} (g : Gd w s₀ mg mb h₀)
    (F : Fr h₀ L s.heap m) (N0 : News h₀ L s.heap [(D, LCg.lst [.ref a1, .ref a2, .ref a3]), (a3, tup3 X3 Y3 Z3 t7 t8 t9), (a2, tup3 X2 Y2 Z2 t4 t5 t6), (a1, tup3 X1 Y1 Z1 t1 t2 t3), (L + 1 + 1, o1), (L + 1, o2)]) (d1 : o1.data = .cell (some (.ref D))) (d2 : o2.data = .cell (some (.int k t))) (r : Room (A.deeper (env5 L)) (n + 3))
    (lx1 : X1.length ≤ 8) (lx2 : X2.length ≤ 8) (lx3 : X3.length ≤ 8) (ly1 : Y1.length ≤ 8) (ly2 : Y2.length ≤ 8) (ly3 : Y3.length ≤ 8) (lz1 : Z1.length ≤ 8) (lz2 : Z2.length ≤ 8) (lz3 : Z3.length ≤ 8)
    (hQ : ∀ D' t0 t1 t2 e h' tk, Fr h₀ L h' m → News h₀ L h' [(D', W.listOf #[.str (quoted X1 X2 X3) t0, .str (quoted Y1 Y2 Y3) t1, .str (quoted Z1 Z2 Z3) t2] e)] → Q (.ret (.ref D')) { s with heap := h', toks := tk }) :
    wpAny (model pw w) (A.deeper (env5 L)) (exec ret5 (env5 L)) Q E s := by
  w_on
  refine g.open ?_
  intro KX X V GL T B TE TW _ _ M
  dsimp only [tup3] at N0
  show wpAny _ _ (exec (.Return _ _) (envOfC _ _ _ _ _)) _ _ _
  repeat ((fail_if_success (with_reducible show wpAny _ _ (eval (.ListComp (.BinOp _ _ _ _) _ _ _) _) _ _ _)); first | walk1 | (dsimp only; walk1))
  refine comp_cell_range (h₀ := h₀) (L := L) (m := m) (F := fun v y => ∃ i t t', v = .int i t ∧ y = .str (side i (quoted X1 X2 X3) (quoted Y1 Y2 Y3) (quoted Z1 Z2 Z3)) t') (by with_unfolding_all rfl) (fun _ => rfl) (fun _ => rfl) (by rfl) (by decide) (by rfl) ?_
  repeat ((fail_if_success (with_reducible show RangeSrc _ _ _ _ _ _ _ _ _ _ _ _ _ _ _)); first | walk1 | (dsimp only; walk1))
  refine ⟨_, 0, 3, _, _, _, 3, _, rfl, r.handled, by assumption, by assumption, by assumption, by decide, by decide, by decide, ?_, ?_⟩
  · intro C c D I oC oc oI oD i ti h tk E' hi dc F9 N9
    simp only [Int.zero_add] at dc ⊢
    obtain rfl | rfl | rfl : i = 0 ∨ i = 1 ∨ i = 2 := by omega
    all_goals
      repeat ((fail_if_success (with_reducible show (_ ∧ _))); first | walk1 | (dsimp only; walk1))
      refine ⟨⟨_, _, _, rfl, congrArg (fun x => Value.str x _) ?_⟩, _, _, rfl, by assumption, news_tail (by assumption)⟩
      subst_vars
      rfl
  · intro D' h' tk ys vs hl hv hp F' ⟨e, N'⟩
    obtain ⟨t0, t1, t2, rfl⟩ := paired3 hl hv hp
    exact hQ _ _ _ _ _ _ _ F' (news_head N')
end
section
theorem fits_quoted {X1 X2 X3 Y1 Y2 Y3 Z1 Z2 Z3 : Str} (h1 : Fits 2 .inq .inq X1 Y1 Z1) (h2 : Fits 2 .inq .inq X2 Y2 Z2) (h3 : Fits 2 .inq .inq X3 Y3 Z3) : Fits 8 .out .out (quoted X1 X2 X3) (quoted Y1 Y2 Y3) (quoted Z1 Z2 Z3) :=
  (fits_open.append ((h1.append h2).append h3)).append fits_shut
theorem fits_lx {a b : St} {X Y Z : Str} (h : Fits 2 a b X Y Z) : X.length ≤ 8 := by have := h.lens; omega
theorem fits_ly {a b : St} {X Y Z : Str} (h : Fits 2 a b X Y Z) : Y.length ≤ 8 := by have := h.lens; omega
theorem fits_lz {a b : St} {X Y Z : Str} (h : Fits 2 a b X Y Z) : Z.length ≤ 8 := by have := h.lens; omega
def rest5 : List Stmt := (bodyOf 17).drop 7
set_option maxHeartbeats 3000000 in
theorem tail5 {w : World} {s₀ : Shared} {mg mb : Str → Option Value} {A : Around} {E : Value → Shared → Prop} {s : Shared} {n : Nat} {h₀ : Heap} {L : Addr} {m : Str → Option Value} {Q : Flow → Shared → Prop} {k : Int} {t : Tok} {o1 o2 : Obj} {u : Option Value} (g : Gd w s₀ mg mb h₀)
    (F : Fr h₀ L s.heap m) (N0 : News h₀ L s.heap [(L + 1 + 1, o1), (L + 1, o2)]) (d1 : o1.data = .cell u) (d2 : o2.data = .cell (some (.int k t))) (r : Room (A.deeper (env5 L)) (n + 3))
    (hQ : ∀ D' X Y Z t0 t1 t2 e h' tk, Fr h₀ L h' m → News h₀ L h' [(D', W.listOf #[.str X t0, .str Y t1, .str Z t2] e)] → Fits 8 .out .out X Y Z → Q (.ret (.ref D')) { s with heap := h', toks := tk }) :
    wpAny (model pw w) (A.deeper (env5 L)) (execs rest5 (env5 L)) Q E s := by
  w_on
  refine g.open ?_
  intro KX X V GL T B TE TW _ _ M
  show wpAny _ _ (execs (_ :: _) (envOfC _ _ _ _ _)) _ _ _
  repeat ((fail_if_success (with_reducible show wpAny _ _ (exec (.Return (some (.ListComp _ _ _ _)) _) _) _ _ _)); first | walk1 | (dsimp only; walk1))
  refine tail5b (n := n) g (by assumption) (by assumption) (by assumption) d2 r ?_ ?_ ?_ ?_ ?_ ?_ ?_ ?_ ?_ ?_
  case refine_10 =>
    intro D' t0 t1 t2 e h' tk F' N'
    exact hQ _ _ _ _ _ _ _ _ _ _ F' N' (fits_quoted (by assumption) (by assumption) (by assumption))
  all_goals (first | exact fits_lx (by assumption) | exact fits_ly (by assumption) | exact fits_lz (by assumption))
end
section
theorem tail5' {w : World} {s₀ : Shared} {mg mb : Str → Option Value} {A : Around} {E : Value → Shared → Prop} {s : Shared} {n : Nat} {h₀ : Heap} {L : Addr} {m : Str → Option Value} {Q : Flow → Shared → Prop} {k : Int} {t : Tok} {o1 o2 : Obj} {u : Option Value} (g : Gd w s₀ mg mb h₀)
    (F : Fr h₀ L s.heap m) (N0 : News h₀ L s.heap [(L + 1 + 1, o1), (L + 1, o2)]) (d1 : o1.data = .cell u) (d2 : o2.data = .cell (some (.int k t))) (r : Room (A.deeper (env5 L)) (n + 3))
    (hQ : ∀ D' X Y Z t0 t1 t2 e h' tk, Fr h₀ L h' m → News h₀ L h' [(D', W.listOf #[.str X t0, .str Y t1, .str Z t2] e)] → Fits 8 .out .out X Y Z → Q (.ret (.ref D')) { s with heap := h', toks := tk })
    {ss : List Stmt} {env : Env} (hs : ss = rest5) (he : env = env5 L) :
    wpAny (model pw w) (A.deeper (env5 L)) (execs ss env) Q E s := by
  subst hs he
  exact tail5 g F N0 d1 d2 r hQ
local macro_rules | `(tactic| walk_at "execs cons") => `(tactic| first
  | ((with_reducible show wpAny _ _ (execs (.Assign _ (.ListComp _ _ _ _) _ :: _) _) _ _ _); (k_dflt (refine tail5' (by assumption) (by assumption) (by assumption) (by assumption) (by assumption) (by assumption) ?_ (by kernel_rfl) (by kernel_rfl))); intro D' X' Y' Z' t0' t1' t2' e' h' tk' F' N' hA'; dsimp only)
  | (refine cons_tk ?_; intro tk; dsimp only))
theorem fits_one (c : Nat) (h : special c = false ∨ c = 92) (hp : prepS c = ⟨#[c]⟩) : Fits 1 .out .out ⟨#[c]⟩ ⟨#[c]⟩ ⟨#[c]⟩ := by
  refine ⟨[.sign c], rfl, rfl, by rw [meant_one, hp], ?_, by simp⟩
  rcases h with h | rfl
  · have hs' : c ≠ 34 ∧ c ≠ 44 ∧ c ≠ 92 ∧ c ≠ 57344 ∧ c ≠ 57345 := by simpa [special, and_assoc] using h
    simp [St.run, St.next, hs']
  · rfl
theorem white_ok : ∀ i : Nat, i < 4 → i = 0 ∨ ∃ c, [Str.ofString "", Str.ofString " ", Str.ofString "\t", Str.ofString "\u3000"].getD i Str.empty = ⟨#[c]⟩ ∧ special c = false ∧ prepS c = ⟨#[c]⟩
  | 0, _ => .inl rfl
  | 1, _ => .inr ⟨32, by decide +kernel, by decide +kernel, by decide +kernel⟩
  | 2, _ => .inr ⟨9, by decide +kernel, by decide +kernel, by decide +kernel⟩
  | 3, _ => .inr ⟨12288, by decide +kernel, by decide +kernel, by decide +kernel⟩
theorem fits_white (k : Int) : Fits 1 .out .out ([Str.ofString "", Str.ofString " ", Str.ofString "\t", Str.ofString "\u3000"].getD (k.fmod 4).toNat Str.empty) ([Str.ofString "", Str.ofString " ", Str.ofString "\t", Str.ofString "\u3000"].getD (k.fmod 4).toNat Str.empty) ([Str.ofString "", Str.ofString " ", Str.ofString "\t", Str.ofString "\u3000"].getD (k.fmod 4).toNat Str.empty) := by
  have h := fmod_range k (k := 4) (by decide)
  rcases white_ok (k.fmod 4).toNat (by omega) with e | ⟨c, e, h1, h2⟩
  · rw [e]; exact fits_nil.le (by decide)
  · rw [e]; exact fits_one c (.inl h1) h2
theorem white_len (k : Int) : ([Str.ofString "", Str.ofString " ", Str.ofString "\t", Str.ofString "\u3000"].getD (k.fmod 4).toNat Str.empty).length ≤ 1 := by
  have h := fmod_range k (k := 4) (by decide)
  rcases white_ok (k.fmod 4).toNat (by omega) with e | ⟨c, e, _⟩
  · rw [e]; decide
  · rw [e]; exact Nat.le_refl 1
theorem add_w1 {w : World} {A : Around} {E : Value → Shared → Prop} {s : Shared} {Q : Value → Shared → Prop} {k : Int} {y : Str} {t t' : Tok} (hy : y.length ≤ 1) (h : ∀ u q, Q (.str (([Str.ofString "", Str.ofString " ", Str.ofString "\t", Str.ofString "\u3000"].getD (k.fmod 4).toNat Str.empty) ++ y) u) { s with toks := q }) :
    wpAny (model pw w) A (binaryOp .Add (.str ([Str.ofString "", Str.ofString " ", Str.ofString "\t", Str.ofString "\u3000"].getD (k.fmod 4).toNat Str.empty) t) (.str y t')) Q E s :=
  PyProof.Rows.add_str (fun u q => h u q) (by have := white_len k; rw [sizeLine_eq]; omega)
theorem add_w2 {w : World} {A : Around} {E : Value → Shared → Prop} {s : Shared} {Q : Value → Shared → Prop} {k k' : Int} {y : Str} {t t' : Tok} (hy : y.length ≤ 1) (h : ∀ u q, Q (.str (([Str.ofString "", Str.ofString " ", Str.ofString "\t", Str.ofString "\u3000"].getD (k.fmod 4).toNat Str.empty) ++ y ++ ([Str.ofString "", Str.ofString " ", Str.ofString "\t", Str.ofString "\u3000"].getD (k'.fmod 4).toNat Str.empty)) u) { s with toks := q }) :
    wpAny (model pw w) A (binaryOp .Add (.str (([Str.ofString "", Str.ofString " ", Str.ofString "\t", Str.ofString "\u3000"].getD (k.fmod 4).toNat Str.empty) ++ y) t) (.str ([Str.ofString "", Str.ofString " ", Str.ofString "\t", Str.ofString "\u3000"].getD (k'.fmod 4).toNat Str.empty) t')) Q E s :=
  PyProof.Rows.add_str (fun u q => h u q) (by have := white_len k; have := white_len k'; rw [Str.length_append, sizeLine_eq]; omega)
local macro_rules | `(tactic| walk_at "binaryOp Add str str") => `(tactic| ((first | refine add_w2 (Nat.le_of_ble_eq_true rfl) ?_ | refine add_w1 (Nat.le_of_ble_eq_true rfl) ?_); intro u' q'; dsimp only))
theorem four_ok : ∀ i : Nat, i < 4 → ∃ c, [Str.ofString "\\", Str.ofString "'", Str.ofString " ", Str.ofString ";"].getD i Str.empty = ⟨#[c]⟩ ∧ (special c = false ∨ c = 92) ∧ prepS c = ⟨#[c]⟩
  | 0, _ => ⟨92, by decide +kernel, .inr rfl, by decide +kernel⟩
  | 1, _ => ⟨39, by decide +kernel, .inl (by decide +kernel), by decide +kernel⟩
  | 2, _ => ⟨32, by decide +kernel, .inl (by decide +kernel), by decide +kernel⟩
  | 3, _ => ⟨59, by decide +kernel, .inl (by decide +kernel), by decide +kernel⟩
theorem fits_four (k : Int) : Fits 1 .out .out ([Str.ofString "\\", Str.ofString "'", Str.ofString " ", Str.ofString ";"].getD (k.fmod 4).toNat Str.empty) ([Str.ofString "\\", Str.ofString "'", Str.ofString " ", Str.ofString ";"].getD (k.fmod 4).toNat Str.empty) ([Str.ofString "\\", Str.ofString "'", Str.ofString " ", Str.ofString ";"].getD (k.fmod 4).toNat Str.empty) := by
  have h := fmod_range k (k := 4) (by decide)
  obtain ⟨c, e, h1, h2⟩ := four_ok (k.fmod 4).toNat (by omega)
  rw [e]; exact fits_one c h1 h2
set_option maxHeartbeats 8000000 in
theorem piece_spec {w : World} {s₀ : Shared} {mg mb : Str → Option Value} {A : Around} {s : Shared} {n : Nat} {R : Result → Shared → Prop} (g : Gd w s₀ mg mb s.heap) (r : Room A (n + 4)) (k : Int) (t : Tok)
    (hR : ∀ a X Y Z u v z h' tk o, s.heap.StaysIn h' → s.heap.get? a = none → h'.get? a = some o → (o = tup3 X Y Z u v z ∨ ∃ e, o = W.listOf #[.str X u, .str Y v, .str Z z] e) → Fits 8 .out .out X Y Z → R (.ok (.ret (.ref a))) { s with heap := h', toks := tk }) :
    codeAny (model pw w) A (.call (.ref 145) ⟨[.int k t], []⟩) R s := by
  w_on
  refine g.open ?_
  intro KX X V GL T B TE TW _ _ M
  refine call_defC (i := 17) (c := 144) (o := o145 w.params) (pm := .str (Str.ofString "law_ny0220_01") 2223) (binds := [(Str.ofString "n", .int k t)]) g r (by kernel_rfl) (by kernel_rfl) (by kernel_rfl) (by kernel_rfl) (by kernel_rfl) (by kernel_rfl) (by decide +kernel) ?_
  intro h₁ tk cells F N0 Y rA
  have e : cellsFrom (s.heap.objs.size + 1) (scopeOf 17).names [] = [(Str.ofString "inside", s.heap.objs.size + 1 + 1), (Str.ofString "rest", s.heap.objs.size + 1)] := by rfl
  rw [e] at Y
  obtain ⟨o1, o2, rfl, d1, d2⟩ := Y.two
  clear Y e
  have rB := rA.le (Nat.le_succ _)
  have rC := rB.le (Nat.le_succ _)
  show wpAny _ _ (execs (_ :: _) _) _ _ _
  k_fold
  k_with "table" => skip
  k_steps
  all_goals
    refine hR _ _ _ _ _ _ _ _ _ _ (Fr.keep (by assumption)) (News.fresh (by assumption) (by k_mem)) (News.get (by assumption) (by k_mem)) (by first | exact .inl rfl | exact .inr ⟨_, rfl⟩) ?_
    first
    | assumption
    | exact (fits_sign (by assumption)).2.le (Nat.le_of_ble_eq_true rfl)
    | exact (fits_four _).le (Nat.le_of_ble_eq_true rfl)
    | exact (((fits_white _).append fits_comma).append (fits_white _)).le (Nat.le_of_ble_eq_true rfl)
end
end
section
section
variable {prog : Program} {w : World} {A : Around} {E : Value → Shared → Prop} {s : Shared} {env : Env} {h₀ : Heap} {x : Str} {body : List Stmt} {Q : Flow → Shared → Prop}
/-- what holds between the turns of a loop -/
def KInv {σ : Type} (Led : σ → List (Addr × Obj)) (ps : σ → List (Str × Value)) (Inv : σ → Prop) (m : Str → Option Value) (nx : List (Addr × Obj)) : Prop := ∃ c : σ, nx = Led c ∧ (∀ p ∈ ps c, m p.1 = some p.2) ∧ Inv c
theorem kstB_of {m : Str → Option Value} {ps : List (Str × Value)} (h : ∀ p ∈ ps, m p.1 = some p.2) : kstB m ps = m := funext fun _ => kstB_eq h fun _ => rfl
theorem kloop {σ : Type} {I : Addr} {fp wr : List Addr} {n : Nat} {P : Nat → Value → Prop} {St : Nat → Heap → Prop} {m₀ : Str → Option Value} (Led : σ → List (Addr × Obj)) (ps : σ → List (Str × Value)) (Inv : Nat → σ → Prop) (c₀ : σ)
    (W : Walks prog w A I fp wr n P St) (hLf : env.locals ∉ fp) (hwr : ∀ b ∈ wr, h₀.get? b = none) (hnw : ∀ p ∈ Led c₀, p.1 ∉ wr) (hfp : ∀ q ∈ Led c₀, q.1 ∉ fp) (hst : St 0 s.heap) (F : Fr h₀ env.locals s.heap m₀) (N : News h₀ env.locals s.heap (Led c₀))
    (hk : ∀ p ∈ ps c₀, m₀ p.1 = some p.2) (hj : Inv 0 c₀)
    (turn : ∀ i v c u h tk own, i < n → P i v → Inv i c → (Led c).map (·.1) = (Led c₀).map (·.1) → OwnOff own ((Led c₀).map (·.1)) → Fr h₀ env.locals h (fun y => if y = x then some v else kstB u (ps c) y) → News h₀ env.locals h (Led c ++ own) →
      wpAny (model prog w) A (execs body env) (InvPostN h₀ env.locals (KInv Led ps (Inv (i + 1))) own ((Led c₀).map (·.1)) { s with heap := h, toks := tk } Q) E { s with heap := h, toks := tk })
    (done : ∀ c u h tk, Inv n c → Fr h₀ env.locals h (kstB u (ps c)) → News h₀ env.locals h (Led c) → Q .next { s with heap := h, toks := tk }) :
    LoopAtV prog w A h₀ env x body Q E (.ref I) s := by
  refine loop_invN (fun i m nx => KInv Led ps (Inv i) m nx) W hLf hwr hnw hfp hst F N ⟨c₀, rfl, hk, hj⟩ ?_ ?_
  · rintro i v m₁ nx h tk own hi hP hmap hoff ⟨c, rfl, h1, h2⟩ F₁ N₁
    exact turn i v c m₁ h tk own hi hP h2 hmap hoff (by rw [kstB_of h1]; exact F₁) N₁
  · rintro m₁ nx h tk ⟨c, rfl, h1, h2⟩ F₁ N₁
    exact done c m₁ h tk h2 (by rw [kstB_of h1]; exact F₁) N₁
theorem kend {σ : Type} {Led : σ → List (Addr × Obj)} {ps : σ → List (Str × Value)} {Inv : σ → Prop} {own news' : List (Addr × Obj)} {adr : List Addr} {L : Addr} {m' : Str → Option Value} {s₁ : Shared} {h' : Heap} {tk : Nat} (c : σ)
    (F : Fr h₀ L h' m') (N : News h₀ L h' news') (hn : ∀ p ∈ Led c, p ∈ news') (ho : ∀ p ∈ own, p ∈ news') (ha : (Led c).map (·.1) = adr) (hk : ∀ p ∈ ps c, m' p.1 = some p.2) (hi : Inv c) :
    InvEndN h₀ L (KInv Led ps Inv) own adr s₁ { s₁ with heap := h', toks := tk } := InvEndN.intro F N ⟨c, rfl, hk, hi⟩ ha hn ho
theorem textLoop {σ : Type} {xt : Str} {tx : Tok} {m₀ : Str → Option Value} (Led : σ → List (Addr × Obj)) (ps : σ → List (Str × Value)) (Inv : Nat → σ → Prop) (c₀ : σ)
    (hh : A.handled = none) (F : Fr h₀ env.locals s.heap m₀) (N : News h₀ env.locals s.heap (Led c₀)) (hk : ∀ p ∈ ps c₀, m₀ p.1 = some p.2) (hj : Inv 0 c₀)
    (turn : ∀ i ch t c u h tk own, xt.cps[i]? = some ch → Inv i c → (Led c).map (·.1) = (Led c₀).map (·.1) → OwnOff own ((Led c₀).map (·.1)) → Fr h₀ env.locals h (fun y => if y = x then some (.str ⟨#[ch]⟩ t) else kstB u (ps c) y) → News h₀ env.locals h (Led c ++ own) →
      wpAny (model prog w) A (execs body env) (InvPostN h₀ env.locals (KInv Led ps (Inv (i + 1))) own ((Led c₀).map (·.1)) { s with heap := h, toks := tk } Q) E { s with heap := h, toks := tk })
    (done : ∀ c u h tk, Inv xt.cps.size c → Fr h₀ env.locals h (kstB u (ps c)) → News h₀ env.locals h (Led c) → Q .next { s with heap := h, toks := tk }) :
    wpAny (model prog w) A (pyIter (.str xt tx)) (fun it s₂ => LoopAtV prog w A h₀ env x body Q E it s₂) E s := by
  refine wpAny_pyIter_str fun o St hW hst => ?_
  refine kloop Led ps Inv c₀ (hW A hh) ?_ ?_ ?_ ?_ hst (F.push _) (fun p hp => ⟨Heap.get?_push_of_some _ (N p hp).1, (N p hp).2⟩) hk hj ?_ ?_
  · intro hm
    exact absurd F.ns.lt ((List.mem_singleton.mp hm) ▸ Nat.lt_irrefl _)
  · intro b' hb
    rw [List.mem_singleton.mp hb]
    exact next_is_new F
  · intro p hp hI
    exact absurd (Heap.lt_size (N p hp).1) ((List.mem_singleton.mp hI) ▸ Nat.lt_irrefl _)
  · intro p hp hI
    exact absurd (Heap.lt_size (N p hp).1) ((List.mem_singleton.mp hI) ▸ Nat.lt_irrefl _)
  · rintro i v c u h tk own hi ⟨n, t, hn, rfl⟩ hI hm ho F₁ N₁
    exact turn i n t c u h tk own hn hI hm ho F₁ N₁
  · intro c u h tk hI F₁ N₁
    exact done c u h tk hI F₁ N₁
end
end
section
/-- what a comprehension has built: its source's items, its own, the objects that these brought -/
inductive Built (F : Value → List Value → List (Addr × Obj) → Prop) : List Value → List Value → List (Addr × Obj) → Prop
  | nil : Built F [] [] []
  | snoc {vs ys ob v l obs} : Built F vs ys ob → F v l obs → Built F (vs ++ [v]) (ys ++ l) (obs ++ ob)
/-- how an element's walk ends -/
def EltEnd (h₀ : Heap) (L : Addr) (m : Str → Option Value) (s₂ : Shared) (C I D : Addr) (led : List (Addr × Obj)) (base : List (Addr × Obj)) (G : List (Addr × Obj) → Prop) (s₄ : Shared) : Prop :=
  ∃ obs h' tk', G obs ∧ s₄ = { s₂ with heap := h', toks := tk' } ∧ (∀ p ∈ obs, p.1 ≠ C ∧ p.1 ≠ I ∧ p.1 ≠ D) ∧ Fr h₀ L h' m ∧ News h₀ L h' (led ++ (obs ++ base))
abbrev testsOf (ifs : List Expr) (env : Env) : Sem Bool := forIn ifs true fun c r => if r = true then do let ok ← isTrue c env (eval c env); pure (ForInStep.yield ok) else pure (ForInStep.yield r)
section
variable {prog : Program} {w : World} {A : Around} {E : Value → Shared → Prop} {env : Env} {s : Shared} {h₀ : Heap} {L : Addr} {m : Str → Option Value}
/-- the clauses that a comprehension's elements are to meet -/
def EltsOk (prog : Program) (w : World) (A : Around) (env : Env) (h₀ : Heap) (L : Addr) (m : Str → Option Value) (scope : Scope) (cl : List (Str × Addr)) (x : Str) (ifs : List Expr) (elt : Expr) (I : Addr) (n : Nat) (P : Nat → Value → Prop) (news : List (Addr × Obj)) (F : Value → List Value → List (Addr × Obj) → Prop) (s₂ : Shared) : Prop :=
  ∀ C D oC oI oD i v m₂ ob h tk E', i < n → P i v → LCg.NsObj oC m₂ → m₂ x = some v → Fr h₀ L h m → News h₀ L h ([(C, oC), (I, oI), (D, oD)] ++ (ob ++ news)) →
    wpAny (model prog w) A (testsOf ifs (compEnvC scope cl C env)) (fun ok s₃ => if ok = true then wpAny (model prog w) A (eval elt (compEnvC scope cl C env)) (fun y s₄ => EltEnd h₀ L m s₂ C I D [(C, oC), (I, oI), (D, oD)] (ob ++ news) (F v [y]) s₄) E' s₃
      else EltEnd h₀ L m s₂ C I D [(C, oC), (I, oI), (D, oD)] (ob ++ news) (F v []) s₃) E' { s₂ with heap := h, toks := tk }
theorem comp_block_led {elt iter : Expr} {x : Str} {px : Pos} {ifs : List Expr} {scope : Scope} {cl : List (Str × Addr)} {pos : Pos} {s₂ : Shared} {I : Addr} {fp : List Addr} {n : Nat} {P : Nat → Value → Prop} {St : Nat → Heap → Prop} {news : List (Addr × Obj)} {RR : Value → Addr → Result → Shared → Prop}
    (F : Value → List Value → List (Addr × Obj) → Prop) (W : Walks prog w A I fp [I] n P St) (hsz : n ≤ sizeLine) (hlive : ∀ i h, St i h → ∃ o, h.get? I = some o)
    (hSt : ∀ i h h' o, St i h → h.get? I = some o → h'.get? I = some o → Fr h₀ L h' m → News h₀ L h' news → St i h')
    (hcell : ∀ y ∈ scope.names, y.2 ≠ .cell) (hkind : scope.kind = .function) (hx : scope.names.lookup x = some .local) (hst : St 0 s₂.heap) (hI₀ : h₀.get? I = none) (hIL : I ≠ L) (offI : ∀ p ∈ news, p.1 ≠ I)
    (F₂ : Fr h₀ L s₂.heap m) (N₂ : News h₀ L s₂.heap news) (hq : EltsOk prog w A env h₀ L m scope cl x ifs elt I n P news F s₂)
    (hRR : ∀ D C h' tk m' ys e ob (vs : List Value), vs.length = n → (∀ j v, vs[j]? = some v → P j v) → Built F vs ys ob → Fr h₀ L h' m → News h₀ L h' ((D, PySem.W.listOf ys.toArray e) :: (ob ++ news)) → h'.Ns C m' → C ≠ L → C ≠ D → D ≠ L → (∀ p ∈ ob ++ news, p.1 ≠ C ∧ p.1 ≠ D) → h₀.get? C = none → h₀.get? D = none →
      RR (.ref D) C (.ok .next) { s₂ with heap := h', toks := tk }) :
    wpAny (model prog w) A (newList []) (fun acc s₃ => wpAny (model prog w) A (newFunctionEnv scope env.globals cl [] env.qual none .none (some env)) (fun cenv s₄ =>
      codeAny (model prog w) A (.compStart (.ListComp elt [⟨.Name x px, iter, ifs, 0⟩] scope pos) 0 (.ref I) acc { cenv with scope := relabel scope env }) (RR acc cenv.locals) s₄) E s₃) E s₂ := by
  refine wpAny_newObj_type (wpAny_newFunctionEnv hcell (by intro y hy; simp at hy) (fun h₁ hns₁ hsb₁ => ?_) hkind)
  dsimp only at hns₁ hsb₁ ⊢
  generalize hH2 : s₂.heap.push { cls := .type "list", dict := none, data := .seq ([] : List Value).toArray } = H2 at hns₁ hsb₁ ⊢
  have hC : H2.objs.size = s₂.heap.objs.size + 1 := by rw [← hH2, Heap.size_push]
  generalize hDd : s₂.heap.objs.size = D at *
  generalize hCd : H2.objs.size = C at *
  have hDC : D ≠ C := by rw [hC]; exact Nat.ne_of_lt (Nat.lt_succ_self _)
  have above : ∀ b o, s₂.heap.get? b = some o → b ≠ C ∧ b ≠ D := fun b o e => by
    have := Heap.lt_size e
    rw [hDd] at this
    exact ⟨Nat.ne_of_lt (by rw [hC]; exact Nat.lt_succ_of_lt this), Nat.ne_of_lt this⟩
  have old : ∀ b o, s₂.heap.get? b = some o → h₁.get? b = some o := fun b o e => hsb₁.extBut b o (above b o e).1 (Heap.get?_push_of_some _ (hH2 ▸ Heap.get?_push_of_some _ e))
  have hacc : h₁.get? D = some (PySem.W.listOf #[] 0) := hsb₁.extBut _ _ hDC (Heap.get?_push_of_some _ (hDd ▸ hH2 ▸ Heap.get?_push_size _ rfl))
  obtain ⟨oI₀, eI₀⟩ := hlive _ _ hst
  have hI3 := above _ _ eI₀
  obtain ⟨oL, _, _, eL, _⟩ := id F₂.ns
  have hL3 := above _ _ eL
  have n₀ : ∀ a, s₂.heap.get? a = none → h₀.get? a = none := fun a ha => by
    cases e : h₀.get? a with
    | none => rfl
    | some o' => have := F₂.keep a o' e; rw [ha] at this; cases this
  have nD : h₀.get? D = none := n₀ _ (fresh_of (Nat.le_of_eq hDd))
  have nC : h₀.get? C = none := n₀ _ (fresh_of (by rw [hDd, hC]; exact Nat.le_succ _))
  have off : ∀ p ∈ news, p.1 ≠ C ∧ p.1 ≠ D := fun p hp => above _ _ (N₂ p hp).1
  have off₀ : ∀ b o, h₀.get? b = some o → b ≠ C ∧ b ≠ D ∧ b ≠ I := fun b o e => ⟨fun q => (by rw [q, nC] at e; cases e), fun q => (by rw [q, nD] at e; cases e), fun q => (by rw [q, hI₀] at e; cases e)⟩
  have keepF : ∀ {ha hb : Heap}, Fr h₀ L ha m → (∀ b o, b ≠ C → b ≠ D → b ≠ I → ha.get? b = some o → hb.get? b = some o) → Fr h₀ L hb m := fun F' k =>
    ⟨F'.ns.at' fun o e => k _ o hL3.1 hL3.2 (Ne.symm hIL) e, fun b o e => k b o (off₀ b o e).1 (off₀ b o e).2.1 (off₀ b o e).2.2 (F'.keep b o e), F'.above⟩
  have keepN : ∀ {ha hb : Heap} {nw : List (Addr × Obj)}, News h₀ L ha nw → (∀ p ∈ nw, p.1 ≠ C ∧ p.1 ≠ D ∧ p.1 ≠ I) → (∀ b o, b ≠ C → b ≠ D → b ≠ I → ha.get? b = some o → hb.get? b = some o) → News h₀ L hb nw := fun N' ho k p hp =>
    ⟨k _ _ (ho p hp).1 (ho p hp).2.1 (ho p hp).2.2 (N' p hp).1, (N' p hp).2⟩
  have offN : ∀ p ∈ news, p.1 ≠ C ∧ p.1 ≠ D ∧ p.1 ≠ I := fun p hp => ⟨(off p hp).1, (off p hp).2, offI p hp⟩
  have F₁ : Fr h₀ L h₁ m := keepF F₂ fun b o _ _ _ e => old b o e
  have N₁ : News h₀ L h₁ news := keepN N₂ offN fun b o _ _ _ e => old b o e
  have hst₁ : St 0 h₁ := hSt _ _ _ _ hst eI₀ (old _ _ eI₀) F₁ N₁
  have w1 : ∀ b : Addr, b ≠ I → b ∉ [I] := fun b hb => by simpa using hb
  have loop : ∀ s₃ : Shared, s₃ = { s₂ with heap := h₁, toks := s₂.toks + ([] : List (Str × Value)).length } →
      codeAny (model prog w) A (.compLoop (.ListComp elt [⟨.Name x px, iter, ifs, 0⟩] scope pos) 0 (.ref I) (.ref D) (compEnvC scope cl C env)) (RR (.ref D) C) s₃ := by
    rintro s₃ rfl
    refine codeAny_compLoop_tests
      (fun k s' => ∃ h' tk e, ∃ (vs ys : List Value) (ob : List (Addr × Obj)), s' = { s₂ with heap := h', toks := tk } ∧ St vs.length h' ∧ h'.get? D = some (PySem.W.listOf ys.toArray e) ∧ (∃ m', h'.Ns C m') ∧ (∀ j v, vs[j]? = some v → P j v) ∧
        Built F vs ys ob ∧ ys.length ≤ vs.length ∧ vs.length ≤ n ∧ k = n + 1 - vs.length ∧ Fr h₀ L h' m ∧ News h₀ L h' (ob ++ news) ∧ (∀ p ∈ ob ++ news, p.1 ≠ C ∧ p.1 ≠ D ∧ p.1 ≠ I)) ?_ (n + 1)
      ⟨h₁, _, 0, [], [], [], rfl, hst₁, hacc, ⟨_, hns₁⟩, by simp, .nil, Nat.le_refl _, Nat.zero_le _, rfl, F₁, N₁, offN⟩
    rintro k s' ⟨H, tk, e, vs, ys, ob, rfl, hst', hacc', ⟨m', hn'⟩, hP, hF, hys, hi, rfl, F', N', offB⟩
    by_cases hlt : vs.length < n
    · refine W.item vs.length _ _ _ hlt hst' fun v h₁ tk₁ hPv hst₁ hk₁ => ?_
      have k₁ : ∀ b o, b ≠ I → H.get? b = some o → h₁.get? b = some o := fun b o hb e => hk₁ b o (w1 b hb) e
      refine wpAny_assign_Name (wpAny_storeName_local (lookup_relabel_local hx) (hn'.at' fun o e => k₁ _ o (Ne.symm hI3.1) e) (fun h₂ hn₂ hs₂ => ?_) (by simp [compEnvC, relabel, hkind]))
      dsimp only at hn₂ hs₂ ⊢
      have up₂ : ∀ b o, b ≠ I → b ≠ C → H.get? b = some o → h₂.get? b = some o := fun b o hb hbc e => hs₂.extBut b o hbc (k₁ b o hb e)
      have F₃ : Fr h₀ L h₂ m := keepF F' fun b o hbc _ hbI e => up₂ b o hbI hbc e
      have N₃ : News h₀ L h₂ (ob ++ news) := keepN N' offB fun b o hbc _ hbI e => up₂ b o hbI hbc e
      have N₃' : News h₀ L h₂ news := fun p hp => N₃ p (List.mem_append_right _ hp)
      obtain ⟨oI, eI⟩ := hlive _ _ hst₁
      have eI₂ := hs₂.extBut _ _ hI3.1 eI
      have hst₂ : St (vs.length + 1) h₂ := hSt _ _ _ _ hst₁ eI eI₂ F₃ N₃'
      obtain ⟨oC, eC, sC⟩ := LCg.ns_obj hn₂
      have eD₂ := up₂ D _ (Ne.symm hI3.2) hDC hacc'
      have N₄ : News h₀ L h₂ ([(C, oC), (I, oI), (D, PySem.W.listOf ys.toArray e)] ++ (ob ++ news)) := by
        intro p hp
        rcases List.mem_cons.mp hp with rfl | hp
        · exact ⟨eC, Ne.symm hL3.1, nC⟩
        rcases List.mem_cons.mp hp with rfl | hp
        · exact ⟨eI₂, hIL, hI₀⟩
        rcases List.mem_cons.mp hp with rfl | hp
        · exact ⟨eD₂, Ne.symm hL3.2, nD⟩
        · exact N₃ p hp
      have hlen : (vs ++ [v]).length = vs.length + 1 := by rw [List.length_append, List.length_singleton]
      have hPs : ∀ j u', (vs ++ [v])[j]? = some u' → P j u' := by
        intro j u' hj
        rcases Nat.lt_trichotomy j vs.length with h | h | h
        · exact hP j u' (by rwa [List.getElem?_append_left h] at hj)
        · subst h; simp at hj; subst hj; exact hPv
        · have hnone : (vs ++ [v])[j]? = none := List.getElem?_eq_none (by rw [hlen]; omega)
          rw [hnone] at hj; cases hj
      refine wpAny_mono (hq C D oC oI _ vs.length v _ ob h₂ _ _ hlt hPv sC (by simp) F₃ N₄) (fun ok s₃ h₃ => ?_) fun _ _ e => e
      cases ok with
      | false =>
        obtain ⟨obs, h₃, tk₃, hFy, rfl, offo, F₅, N₅⟩ := h₃
        have gC := (N₅ (C, oC) (.head _)).1
        have gI := (N₅ (I, oI) (.tail _ (.head _))).1
        have gD := (N₅ (D, PySem.W.listOf ys.toArray e) (.tail _ (.tail _ (.head _)))).1
        have N₆ : News h₀ L h₃ (obs ++ (ob ++ news)) := fun p hp => N₅ p (.tail _ (.tail _ (.tail _ hp)))
        have N₇ : News h₀ L h₃ news := fun p hp => N₆ p (List.mem_append_right _ (List.mem_append_right _ hp))
        refine ⟨n + 1 - (vs.length + 1), by omega, h₃, tk₃, e, vs ++ [v], ys ++ [], obs ++ ob, rfl, ?_, by rw [List.append_nil]; exact gD, ⟨_, sC.ns gC⟩, hPs, .snoc hF hFy, by rw [hlen, List.append_nil]; omega, by rw [hlen]; exact hlt, by rw [hlen], F₅, by rw [List.append_assoc]; exact N₆, ?_⟩
        · rw [hlen]; exact hSt _ _ _ _ hst₂ eI₂ gI F₅ N₇
        · intro p hp
          rw [List.append_assoc] at hp
          rcases List.mem_append.mp hp with hp | hp
          · exact ⟨(offo p hp).1, (offo p hp).2.2, (offo p hp).2.1⟩
          · exact offB p hp
      | true =>
        refine wpAny_mono h₃ (fun y s₄ h₄ => ?_) fun _ _ e => e
        obtain ⟨obs, h₃, tk₃, hFy, rfl, offo, F₅, N₅⟩ := h₄
        have gC := (N₅ (C, oC) (.head _)).1
        have gI := (N₅ (I, oI) (.tail _ (.head _))).1
        have gD := (N₅ (D, PySem.W.listOf ys.toArray e) (.tail _ (.tail _ (.head _)))).1
        have N₆ : News h₀ L h₃ (obs ++ (ob ++ news)) := fun p hp => N₅ p (.tail _ (.tail _ (.tail _ hp)))
        have offE : ∀ p ∈ obs ++ (ob ++ news), p.1 ≠ C ∧ p.1 ≠ D ∧ p.1 ≠ I := by
          intro p hp
          rcases List.mem_append.mp hp with hp | hp
          · exact ⟨(offo p hp).1, (offo p hp).2.2, (offo p hp).2.1⟩
          · exact offB p hp
        refine wpAny_list_append_plain (hsz := by simp; omega) ⟨e, gD⟩ fun h₅ hl₅ hs₅ => ?_
        obtain ⟨e', hl₅⟩ := hl₅
        have up₅ : ∀ b o, b ≠ D → h₃.get? b = some o → h₅.get? b = some o := fun b o hbD e => hs₅.extBut b o hbD e
        have F₇ : Fr h₀ L h₅ m := keepF F₅ fun b o _ hb _ e => up₅ b o hb e
        have N₇ : News h₀ L h₅ (obs ++ (ob ++ news)) := keepN N₆ offE fun b o _ hb _ e => up₅ b o hb e
        have N₈ : News h₀ L h₅ news := fun p hp => N₇ p (List.mem_append_right _ (List.mem_append_right _ hp))
        refine ⟨n + 1 - (vs.length + 1), by omega, h₅, tk₃, e', vs ++ [v], ys ++ [y], obs ++ ob, rfl, ?_, by simpa using hl₅, ⟨_, sC.ns (up₅ C _ (Ne.symm hDC) gC)⟩, hPs, .snoc hF hFy, by rw [hlen, List.length_append, List.length_singleton]; omega, by rw [hlen]; exact hlt, by rw [hlen], F₇, by rw [List.append_assoc]; exact N₇, by rw [List.append_assoc]; exact offE⟩
        rw [hlen]; exact hSt _ _ _ _ hst₂ eI₂ (up₅ _ _ hI3.2 gI) F₇ N₈
    · have hin : vs.length = n := by omega
      refine W.done _ _ _ (hin ▸ hst') fun h₂ tk₂ hk₂ => ?_
      have up : ∀ b o, b ≠ I → H.get? b = some o → h₂.get? b = some o := fun b o hb e => hk₂ b o (w1 b hb) e
      have F₇ : Fr h₀ L h₂ m := keepF F' fun b o _ _ hbI e => up b o hbI e
      have N₇ : News h₀ L h₂ (ob ++ news) := keepN N' offB fun b o _ _ hbI e => up b o hbI e
      refine hRR D C h₂ tk₂ m' ys e ob vs hin hP hF F₇ ?_ (hn'.at' fun o e => up C o (Ne.symm hI3.1) e) (Ne.symm hL3.1) (Ne.symm hDC) (Ne.symm hL3.2) (fun p hp => ⟨(offB p hp).1, (offB p hp).2.1⟩) nC nD
      intro p hp
      rcases List.mem_cons.mp hp with rfl | hp
      · exact ⟨up _ _ (Ne.symm hI3.2) hacc', Ne.symm hL3.2, nD⟩
      · exact N₇ p hp
  exact codeAny_compStart_list (loop _ rfl) (W.self 0 _ _ _ hst₁ (loop _ rfl))
end
end
section
section
variable {prog : Program} {w : World} {A : Around} {E : Value → Shared → Prop} {env : Env} {s : Shared} {h₀ : Heap} {L : Addr} {m : Str → Option Value}
/-- a source to walk over, laid at a heap -/
def Laid (prog : Program) (w : World) (A : Around) (h₀ : Heap) (L : Addr) (m : Str → Option Value) (I : Addr) (n : Nat) (P : Nat → Value → Prop) (news : List (Addr × Obj)) (s₂ : Shared) : Prop :=
  ∃ fp St, Walks prog w A I fp [I] n P St ∧ (∀ i h, St i h → ∃ o, h.get? I = some o) ∧ (∀ i h h' o, St i h → h.get? I = some o → h'.get? I = some o → Fr h₀ L h' m → News h₀ L h' news → St i h') ∧ St 0 s₂.heap ∧ h₀.get? I = none ∧ I ≠ L ∧ (∀ p ∈ news, p.1 ≠ I) ∧
    Fr h₀ L s₂.heap m ∧ News h₀ L s₂.heap news
theorem laid_text {xt : Str} {tx : Tok} {news : List (Addr × Obj)} {Q : Value → Shared → Prop} (hh : A.handled = none) (F : Fr h₀ L s.heap m) (N : News h₀ L s.heap news)
    (h : ∀ I h', Laid prog w A h₀ L m I xt.cps.size (SignAt xt) news { s with heap := h' } → Q (.ref I) { s with heap := h' }) : wpAny (model prog w) A (pyIter (.str xt tx)) Q E s := by
  cases ha : xt.cps.all (· < 128)
  · refine wpAny_pyIter_wide ha (h _ _ ⟨_, _, Walks.strWide hh _ xt tx, fun i h st => let ⟨o, ho, _⟩ := st; ⟨o, ho⟩, fun i h h' o st e e' _ _ => ?_, ⟨_, Heap.get?_push_size _ rfl, rfl, rfl⟩, next_is_new F, Ne.symm (Nat.ne_of_lt F.ns.lt), fun p hp => Nat.ne_of_lt (Heap.lt_size (N p hp).1), F.push _, fun p hp => ⟨Heap.get?_push_of_some _ (N p hp).1, (N p hp).2⟩⟩)
    obtain ⟨o', q, r⟩ := st; rw [e] at q; cases q; exact ⟨o, e', r⟩
  · refine wpAny_pyIter_ascii ha (h _ _ ⟨_, _, Walks.strAscii hh _ xt tx, fun i h st => let ⟨o, ho, _⟩ := st; ⟨o, ho⟩, fun i h h' o st e e' _ _ => ?_, ⟨_, Heap.get?_push_size _ rfl, rfl, rfl⟩, next_is_new F, Ne.symm (Nat.ne_of_lt F.ns.lt), fun p hp => Nat.ne_of_lt (Heap.lt_size (N p hp).1), F.push _, fun p hp => ⟨Heap.get?_push_of_some _ (N p hp).1, (N p hp).2⟩⟩)
    obtain ⟨o', q, r⟩ := st; rw [e] at q; cases q; exact ⟨o, e', r⟩
theorem laid_list {a : Addr} {its : Array Value} {news : List (Addr × Obj)} {Q : Value → Shared → Prop} (hh : A.handled = none) (F : Fr h₀ L s.heap m) (N : News h₀ L s.heap news) (hl : ∀ h', Fr h₀ L h' m → News h₀ L h' news → h'.IsList a its)
    (h : ∀ I h', Laid prog w A h₀ L m I its.size (fun i v => its[i]? = some v) news { s with heap := h' } → Q (.ref I) { s with heap := h' }) : wpAny (model prog w) A (pyIter (.ref a)) Q E s := by
  have hls := hl _ F N
  obtain ⟨ol, hol, _⟩ := id hls
  have hne : a ≠ s.heap.objs.size := Nat.ne_of_lt (Heap.lt_size hol)
  have F' : ∀ o, Fr h₀ L (s.heap.push o) m := fun o => F.push _
  have N' : ∀ o, News h₀ L (s.heap.push o) news := fun o p hp => ⟨Heap.get?_push_of_some _ (N p hp).1, (N p hp).2⟩
  refine wpAny_pyIter_list hls (h _ _ ⟨_, _, Walks.list hh s.heap.objs.size a hne its, fun i h st => let ⟨o, ho, _⟩ := st.1; ⟨o, ho⟩, fun i h h' o st e e' F1 N1 => ⟨?_, hl _ F1 N1⟩, ⟨⟨_, Heap.get?_push_size _ rfl, rfl, rfl⟩, hl _ (F' _) (N' _)⟩, next_is_new F, Ne.symm (Nat.ne_of_lt F.ns.lt), fun p hp => Nat.ne_of_lt (Heap.lt_size (N p hp).1), F' _, N' _⟩)
  obtain ⟨o', q, r⟩ := st.1; rw [e] at q; cases q; exact ⟨o, e', r⟩
/-- what a comprehension's source is to bring -/
def Src (prog : Program) (w : World) (A : Around) (env : Env) (h₀ : Heap) (L : Addr) (m : Str → Option Value) (scope : Scope) (cl : List (Str × Addr)) (x : Str) (ifs : List Expr) (elt : Expr) (F : Value → List Value → List (Addr × Obj) → Prop) (Q : Value → Shared → Prop) (it : Value) (s₂ : Shared) : Prop :=
  ∃ I n P news, it = .ref I ∧ n ≤ sizeLine ∧ Laid prog w A h₀ L m I n P news s₂ ∧ EltsOk prog w A env h₀ L m scope cl x ifs elt I n P news F s₂ ∧
    (∀ D h' tk ys e ob (vs : List Value), vs.length = n → (∀ j v, vs[j]? = some v → P j v) → Built F vs ys ob → Fr h₀ L h' m → News h₀ L h' ((D, PySem.W.listOf ys.toArray e) :: (ob ++ news)) → (∀ p ∈ ob ++ news, p.1 ≠ D) → Q (.ref D) { s₂ with heap := h', toks := tk })
theorem comp_led {elt iter : Expr} {x : Str} {px : Pos} {ifs : List Expr} {scope : Scope} {cl : List (Str × Addr)} {pos : Pos} {Q : Value → Shared → Prop} (F : Value → List Value → List (Addr × Obj) → Prop)
    (hclos : closureFor scope env = pure cl) (hcell : ∀ y ∈ scope.names, y.2 ≠ .cell) (hkind : scope.kind = .function)
    (hnames : ∀ y ∈ scope.names, y.2 = .local → scope.names.lookup y.1 = some .local) (hx : scope.names.lookup x = some .local)
    (h : wpAny (model prog w) A (eval iter env) (fun xv s₁ => wpAny (model prog w) A (pyIter xv) (Src prog w A env h₀ L m scope cl x ifs elt F Q) E s₁) E s)
    (hs : ∀ x, foldedSetIterable iter env x = pure x := by intro _; rfl) :
    wpAny (model prog w) A (eval (.ListComp elt [⟨.Name x px, iter, ifs, 0⟩] scope pos) env) Q E s := by
  rw [eval_ListComp]
  refine wpAny_comprehension_free (use := none) rfl hs hclos hkind hnames (wpAny_mono h (fun xv s₁ h₁ => wpAny_mono h₁ (fun it s₂ h₂ => ?_) fun _ _ e => e) fun _ _ e => e)
  obtain ⟨I, n, P, news, rfl, hsz, ⟨fp, St, W, hlive, hSt, hst, hI₀, hIL, offI, F₂, N₂⟩, hq, hQ⟩ := h₂
  refine comp_block_led (RR := fun acc C => compPost (model prog w) A E none Q acc C) F W hsz hlive hSt hcell hkind hx hst hI₀ hIL offI F₂ N₂ hq ?_
  intro D C h' tk m' ys e ob vs hlen hP hB F' N' hn hCL hCD hDL off nC nD
  refine ⟨m', hn, fun h'' hs'' => ?_⟩
  have k : ∀ b o, b ≠ C → h'.get? b = some o → h''.get? b = some o := fun b o hb q => hs''.extBut b o hb q
  refine hQ D h'' tk ys e ob vs hlen hP hB ⟨F'.ns.at' fun o q => k _ o (Ne.symm hCL) q, fun b o q => k b o (fun z => by rw [z, nC] at q; cases q) (F'.keep b o q), F'.above⟩ ?_ fun p hp => (off p hp).2
  intro p hp
  refine ⟨k _ _ ?_ (N' p hp).1, (N' p hp).2⟩
  rcases List.mem_cons.mp hp with rfl | hp
  · exact Ne.symm hCD
  · exact (off p hp).1
/-- the same, its list bound to a local name at once -/
def SrcA (prog : Program) (w : World) (A : Around) (env : Env) (h₀ : Heap) (L : Addr) (m : Str → Option Value) (scope : Scope) (cl : List (Str × Addr)) (x y : Str) (ifs : List Expr) (elt : Expr) (F : Value → List Value → List (Addr × Obj) → Prop) (Q : Flow → Shared → Prop) (it : Value) (s₂ : Shared) : Prop :=
  ∃ I n P news, it = .ref I ∧ n ≤ sizeLine ∧ Laid prog w A h₀ L m I n P news s₂ ∧ EltsOk prog w A env h₀ L m scope cl x ifs elt I n P news F s₂ ∧
    (∀ D h' tk ys e ob (vs : List Value), vs.length = n → (∀ j v, vs[j]? = some v → P j v) → Built F vs ys ob → Fr h₀ L h' (fun z => if z = y then some (.ref D) else m z) → News h₀ L h' ((D, PySem.W.listOf ys.toArray e) :: (ob ++ news)) → (∀ p ∈ ob ++ news, p.1 ≠ D) → Q .next { s₂ with heap := h', toks := tk })
theorem comp_ledA {elt iter : Expr} {x y : Str} {px py : Pos} {ifs : List Expr} {scope : Scope} {cl : List (Str × Addr)} {pos spos : Pos} {Q : Flow → Shared → Prop} (F : Value → List Value → List (Addr × Obj) → Prop)
    (hsw : swapsWith (.ListComp elt [⟨.Name x px, iter, ifs, 0⟩] scope pos) (some (.Name y py)) spos.line env = pure true)
    (hclos : closureFor scope env = pure cl) (hcell : ∀ y ∈ scope.names, y.2 ≠ .cell) (hkind : scope.kind = .function)
    (hnames : ∀ y ∈ scope.names, y.2 = .local → scope.names.lookup y.1 = some .local) (hx : scope.names.lookup x = some .local)
    (hy : env.kindOf y = some .local) (hp : (env.scope.kind == .class || (env.scope.kind == .module && env.locals != env.globals)) = false) (hL : env.locals = L)
    (h : wpAny (model prog w) A (eval iter env) (fun xv s₁ => wpAny (model prog w) A (pyIter xv) (SrcA prog w A env h₀ L m scope cl x y ifs elt F Q) E s₁) E s)
    (hs : ∀ x, foldedSetIterable iter env x = pure x := by intro _; rfl) :
    wpAny (model prog w) A (exec (.Assign [.Name y py] (.ListComp elt [⟨.Name x px, iter, ifs, 0⟩] scope pos) spos) env) Q E s := by
  rw [exec_Assign_Name_used _ _ _ _ hsw]
  refine wpAny_bind (wpAny_standAt (wpAny_bind ?_))
  show wpAny _ A (do let _ ← comprehension (.ListComp elt [⟨.Name x px, iter, ifs, 0⟩] scope pos) scope env _ (newList []) false (eval iter env) (some (assign (.Name y py) env))) _ _ s
  refine wpAny_bind (wpAny_mono (wpAny_comprehension_free (use := some (assign (.Name y py) env)) (Q := fun _ s' => Q .next s') rfl hs hclos hkind hnames
    (wpAny_mono h (fun xv s₁ h₁ => wpAny_mono h₁ (fun it s₂ h₂ => ?_) fun _ _ e => e) fun _ _ e => e)) (fun _ s' hq => wpAny_pure (wpAny_pure hq)) fun _ _ e => e)
  obtain ⟨I, n, P, news, rfl, hsz, ⟨fp, St, W, hlive, hSt, hst, hI₀, hIL, offI, F₂, N₂⟩, hq, hQ⟩ := h₂
  refine comp_block_led (RR := fun acc C => compPost (model prog w) A E (some (assign (.Name y py) env)) (fun _ s' => Q .next s') acc C) F W hsz hlive hSt hcell hkind hx hst hI₀ hIL offI F₂ N₂ hq ?_
  intro D C h' tk m' ys e ob vs hlen hP hB F' N' hn hCL hCD hDL off nC nD
  show wpAny _ A (assign (.Name y py) env (.ref D)) _ _ _
  refine wpAny_assign_Name (wpAny_storeName_local hy (hL ▸ F'.ns) (fun h₂ hn₂ hs₂ => ?_) hp)
  rw [hL] at hn₂ hs₂
  refine ⟨m', hn.sameBut hs₂ hCL, fun h₃ hs₃ => ?_⟩
  have k : ∀ b o, b ≠ C → b ≠ L → h'.get? b = some o → h₃.get? b = some o := fun b o hb hbL q => hs₃.extBut b o hb (hs₂.extBut b o hbL q)
  have nL : ∀ b o, h₀.get? b = some o → b ≠ L := fun b o q => Nat.ne_of_lt (Nat.lt_of_lt_of_le (Heap.lt_size q) F'.above)
  refine hQ D h₃ _ ys e ob vs hlen hP hB ⟨hn₂.at' fun o q => hs₃.extBut _ o (Ne.symm hCL) q, fun b o q => k b o (fun z => by rw [z, nC] at q; cases q) (nL b o q) (F'.keep b o q), F'.above⟩ ?_ fun p hp => (off p hp).2
  intro p hp
  refine ⟨k _ _ ?_ (N' p hp).2.1 (N' p hp).1, (N' p hp).2⟩
  rcases List.mem_cons.mp hp with rfl | hp
  · exact Ne.symm hCD
  · exact (off p hp).1
end
end
section
theorem paired_of {α β : Type} {R : α → β → Prop} : ∀ (vs : List α) (cs : List β), vs.length = cs.length → (∀ (j : Nat) v, vs[j]? = some v → ∃ c, cs[j]? = some c ∧ R v c) → Paired R vs cs
  | [], [], _, _ => .nil
  | [], _ :: _, h, _ => nomatch h
  | _ :: _, [], h, _ => nomatch h
  | v :: vs, c :: cs, hl, h => by
    obtain ⟨c', e, r⟩ := h 0 v rfl
    have : c = c' := by simpa using e
    subst this
    refine .cons r (paired_of vs cs (by simpa using hl) fun j v' hj => ?_)
    obtain ⟨c', e, r⟩ := h (j + 1) v' (by simpa using hj)
    exact ⟨c', by simpa using e, r⟩
theorem paired_snoc_inv {α β : Type} {R : α → β → Prop} {v : α} : ∀ {vs : List α} {cs : List β}, Paired R (vs ++ [v]) cs → ∃ cs' c, cs = cs' ++ [c] ∧ Paired R vs cs' ∧ R v c
  | [], _, .cons r .nil => ⟨[], _, rfl, .nil, r⟩
  | _ :: vs, _, .cons r h => by
    obtain ⟨cs', c, rfl, h1, h2⟩ := paired_snoc_inv (vs := vs) h
    exact ⟨_ :: cs', c, rfl, .cons r h1, h2⟩
theorem strs_append {a b : List Value} {xs ys : List Str} (h : StrsAre a xs) (k : StrsAre b ys) : StrsAre (a ++ b) (xs ++ ys) := by
  induction h with
  | nil => exact k
  | cons x t _ ih => exact .cons x t ih
theorem built_texts {β : Type} {F : Value → List Value → List (Addr × Obj) → Prop} {R : Value → β → Prop} {g : β → List Str} (hF : ∀ v c l obs, F v l obs → R v c → obs = [] ∧ StrsAre l (g c)) {vs ys : List Value} {ob : List (Addr × Obj)} (h : Built F vs ys ob) : ∀ cs, Paired R vs cs → ob = [] ∧ StrsAre ys (cs.flatMap g) := by
  induction h with
  | nil =>
    intro cs hp
    cases hp
    exact ⟨rfl, .nil⟩
  | snoc hB hv ih =>
    intro cs hp
    obtain ⟨cs', c, rfl, h1, h2⟩ := paired_snoc_inv hp
    obtain ⟨rfl, e2⟩ := ih cs' h1
    obtain ⟨rfl, e4⟩ := hF _ _ _ _ hv h2
    refine ⟨rfl, ?_⟩
    rw [List.flatMap_append, List.flatMap_cons, List.flatMap_nil, List.append_nil]
    exact strs_append e2 e4
theorem built_vals {β : Type} {F : Value → List Value → List (Addr × Obj) → Prop} {R : Value → β → Prop} {g : β → List Value} (hF : ∀ v c l obs, F v l obs → R v c → obs = [] ∧ l = g c) {vs ys : List Value} {ob : List (Addr × Obj)} (h : Built F vs ys ob) : ∀ cs, Paired R vs cs → ob = [] ∧ ys = cs.flatMap g := by
  induction h with
  | nil =>
    intro cs hp
    cases hp
    exact ⟨rfl, rfl⟩
  | snoc hB hv ih =>
    intro cs hp
    obtain ⟨cs', c, rfl, h1, h2⟩ := paired_snoc_inv hp
    obtain ⟨rfl, rfl⟩ := ih cs' h1
    obtain ⟨rfl, rfl⟩ := hF _ _ _ _ hv h2
    exact ⟨rfl, by rw [List.flatMap_append, List.flatMap_cons, List.flatMap_nil, List.append_nil]⟩
/-- a text's signs, as values -/
def SignV (v : Value) (c : Nat) : Prop := ∃ u, v = .str ⟨#[c]⟩ u
def TextV (v : Value) (x : Str) : Prop := ∃ u, v = .str x u
theorem signs_of {xt : Str} {vs : List Value} (hl : vs.length = xt.cps.size) (h : ∀ (j : Nat) v, vs[j]? = some v → SignAt xt j v) : Paired SignV vs xt.cps.toList :=
  paired_of _ _ (by simpa using hl) fun j v hj => by
    obtain ⟨c, u, e, rfl⟩ := h j v hj
    exact ⟨c, by simpa using e, u, rfl⟩
theorem items_of {its : Array Value} {xs : List Str} {vs : List Value} (hi : StrsAre its.toList xs) (hl : vs.length = its.size) (h : ∀ (j : Nat) v, vs[j]? = some v → its[j]? = some v) : Paired TextV vs xs := by
  have e : vs = its.toList := by
    refine List.ext_getElem? fun j => ?_
    cases q : vs[j]? with
    | some v => simpa using (h j v q).symm
    | none =>
      have : vs.length ≤ j := by simpa using q
      have : its.toList.length ≤ j := by simp; omega
      exact (List.getElem?_eq_none this).symm
  rw [e]
  clear e h hl
  generalize its.toList = l at hi
  induction hi with
  | nil => exact .nil
  | cons y t _ ih => exact .cons ⟨t, rfl⟩ ih
section
variable {prog : Program} {w : World} {A : Around} {E : Value → Shared → Prop} {env : Env} {s : Shared} {h₀ : Heap} {L : Addr} {m : Str → Option Value}
theorem elts_plain {scope : Scope} {cl : List (Str × Addr)} {x : Str} {elt : Expr} {I : Addr} {n : Nat} {P : Nat → Value → Prop} {news : List (Addr × Obj)} {F : Value → List Value → List (Addr × Obj) → Prop} {s₂ : Shared}
    (h : ∀ C D oC oI oD i v m₂ ob h tk E', i < n → P i v → LCg.NsObj oC m₂ → m₂ x = some v → Fr h₀ L h m → News h₀ L h ((C, oC) :: (I, oI) :: (D, oD) :: (ob ++ news)) →
      wpAny (model prog w) A (eval elt (compEnvC scope cl C env)) (fun y s₄ => EltEnd h₀ L m s₂ C I D [(C, oC), (I, oI), (D, oD)] (ob ++ news) (F v [y]) s₄) E' { s₂ with heap := h, toks := tk }) :
    EltsOk prog w A env h₀ L m scope cl x [] elt I n P news F s₂ :=
  fun C D oC oI oD i v m₂ ob hp tk E' hi hP hC hx F' N' => wpAny_tests_nil (by rw [if_pos rfl]; exact h C D oC oI oD i v m₂ ob hp tk E' hi hP hC hx F' N')
theorem elts_test {scope : Scope} {cl : List (Str × Addr)} {x : Str} {ct elt : Expr} {I : Addr} {n : Nat} {P : Nat → Value → Prop} {news : List (Addr × Obj)} {F : Value → List Value → List (Addr × Obj) → Prop} {s₂ : Shared}
    (h : ∀ C D oC oI oD i v m₂ ob h tk E', i < n → P i v → LCg.NsObj oC m₂ → m₂ x = some v → Fr h₀ L h m → News h₀ L h ((C, oC) :: (I, oI) :: (D, oD) :: (ob ++ news)) →
      wpAny (model prog w) A (isTrue ct (compEnvC scope cl C env) (eval ct (compEnvC scope cl C env))) (fun ok s₃ => if ok = true then wpAny (model prog w) A (eval elt (compEnvC scope cl C env)) (fun y s₄ => EltEnd h₀ L m s₂ C I D [(C, oC), (I, oI), (D, oD)] (ob ++ news) (F v [y]) s₄) E' s₃
      else EltEnd h₀ L m s₂ C I D [(C, oC), (I, oI), (D, oD)] (ob ++ news) (F v []) s₃) E' { s₂ with heap := h, toks := tk }) :
    EltsOk prog w A env h₀ L m scope cl x [ct] elt I n P news F s₂ :=
  fun C D oC oI oD i v m₂ ob hp tk E' hi hP hC hx F' N' => wpAny_tests_one (h C D oC oI oD i v m₂ ob hp tk E' hi hP hC hx F' N')
theorem EltEnd.sub {s₂ s₄ : Shared} {C I D : Addr} {led base base' : List (Addr × Obj)} {G : List (Addr × Obj) → Prop} (h : EltEnd h₀ L m s₂ C I D led base G s₄) (k : ∀ p ∈ base', p ∈ base) : EltEnd h₀ L m s₂ C I D led base' G s₄ := by
  obtain ⟨obs, h', tk', g, e, o, F, N⟩ := h
  refine ⟨obs, h', tk', g, e, o, F, fun p hp => N p ?_⟩
  rcases List.mem_append.mp hp with hp | hp
  · exact List.mem_append_left _ hp
  rcases List.mem_append.mp hp with hp | hp
  · exact List.mem_append_right _ (List.mem_append_left _ hp)
  · exact List.mem_append_right _ (List.mem_append_right _ (k p hp))
theorem mem_swap {α : Type} {a b : List α} : ∀ p ∈ a ++ b, p ∈ b ++ a := fun p hp => by
  rcases List.mem_append.mp hp with hp | hp
  · exact List.mem_append_right _ hp
  · exact List.mem_append_left _ hp
theorem elts_plain2 {scope : Scope} {cl : List (Str × Addr)} {x : Str} {elt : Expr} {I : Addr} {n : Nat} {P : Nat → Value → Prop} {news : List (Addr × Obj)} {F : Value → List Value → List (Addr × Obj) → Prop} {s₂ : Shared}
    (h : ∀ C D oC oI oD i v m₂ ob h tk E', i < n → P i v → LCg.NsObj oC m₂ → m₂ x = some v → Fr h₀ L h m → News h₀ L h ((C, oC) :: (I, oI) :: (D, oD) :: (news ++ ob)) →
      wpAny (model prog w) A (eval elt (compEnvC scope cl C env)) (fun y s₄ => EltEnd h₀ L m s₂ C I D [(C, oC), (I, oI), (D, oD)] (news ++ ob) (F v [y]) s₄) E' { s₂ with heap := h, toks := tk }) :
    EltsOk prog w A env h₀ L m scope cl x [] elt I n P news F s₂ :=
  elts_plain fun C D oC oI oD i v m₂ ob hp tk E' hi hP hC hx F' N' => wpAny_mono (h C D oC oI oD i v m₂ ob hp tk E' hi hP hC hx F' (fun p hq => N' p (by
    rcases List.mem_cons.mp hq with rfl | hq
    · exact .head _
    rcases List.mem_cons.mp hq with rfl | hq
    · exact .tail _ (.head _)
    rcases List.mem_cons.mp hq with rfl | hq
    · exact .tail _ (.tail _ (.head _))
    · exact .tail _ (.tail _ (.tail _ (mem_swap p hq)))))) (fun _ _ e => e.sub mem_swap) fun _ _ e => e
theorem list_in {a : Addr} {its : Array Value} {e : Nat} {news : List (Addr × Obj)} (ha : (a, PySem.W.listOf its e) ∈ news) : ∀ h', Fr h₀ L h' m → News h₀ L h' news → h'.IsList a its := fun _ _ N => News.isList N ha
theorem comp_led' {elt iter : Expr} {x : Str} {px : Pos} {ifs : List Expr} {scope : Scope} {cl : List (Str × Addr)} {pos : Pos} {Q : Value → Shared → Prop} (_F₀ : Fr h₀ L s.heap m) (F : Value → List Value → List (Addr × Obj) → Prop)
    (hclos : closureFor scope env = pure cl) (hcell : ∀ y ∈ scope.names, y.2 ≠ .cell) (hkind : scope.kind = .function)
    (hnames : ∀ y ∈ scope.names, y.2 = .local → scope.names.lookup y.1 = some .local) (hx : scope.names.lookup x = some .local)
    (h : wpAny (model prog w) A (eval iter env) (fun xv s₁ => wpAny (model prog w) A (pyIter xv) (Src prog w A env h₀ L m scope cl x ifs elt F Q) E s₁) E s)
    (hs : ∀ x, foldedSetIterable iter env x = pure x := by intro _; rfl) :
    wpAny (model prog w) A (eval (.ListComp elt [⟨.Name x px, iter, ifs, 0⟩] scope pos) env) Q E s := comp_led F hclos hcell hkind hnames hx h hs
theorem comp_ledA' {elt iter : Expr} {x y : Str} {px py : Pos} {ifs : List Expr} {scope : Scope} {cl : List (Str × Addr)} {pos spos : Pos} {Q : Flow → Shared → Prop} (_F₀ : Fr h₀ L s.heap m) (F : Value → List Value → List (Addr × Obj) → Prop)
    (hsw : swapsWith (.ListComp elt [⟨.Name x px, iter, ifs, 0⟩] scope pos) (some (.Name y py)) spos.line env = pure true)
    (hclos : closureFor scope env = pure cl) (hcell : ∀ y ∈ scope.names, y.2 ≠ .cell) (hkind : scope.kind = .function)
    (hnames : ∀ y ∈ scope.names, y.2 = .local → scope.names.lookup y.1 = some .local) (hx : scope.names.lookup x = some .local)
    (hy : env.kindOf y = some .local) (hp : (env.scope.kind == .class || (env.scope.kind == .module && env.locals != env.globals)) = false) (hL : env.locals = L)
    (h : wpAny (model prog w) A (eval iter env) (fun xv s₁ => wpAny (model prog w) A (pyIter xv) (SrcA prog w A env h₀ L m scope cl x y ifs elt F Q) E s₁) E s)
    (hs : ∀ x, foldedSetIterable iter env x = pure x := by intro _; rfl) :
    wpAny (model prog w) A (exec (.Assign [.Name y py] (.ListComp elt [⟨.Name x px, iter, ifs, 0⟩] scope pos) spos) env) Q E s := comp_ledA F hsw hclos hcell hkind hnames hx hy hp hL h hs
theorem eltEnd0 {s₂ : Shared} {C I D : Addr} {oC oI oD : Obj} {base : List (Addr × Obj)} {G : List (Addr × Obj) → Prop} {h' : Heap} {tk : Nat} (F : Fr h₀ L h' m) (N : News h₀ L h' ((C, oC) :: (I, oI) :: (D, oD) :: base)) (g : G []) :
    EltEnd h₀ L m s₂ C I D [(C, oC), (I, oI), (D, oD)] base G { s₂ with heap := h', toks := tk } := ⟨[], h', tk, g, rfl, (fun _ hp => nomatch hp), F, N⟩
end
end
section
structure Mv where
  d : Str
  h : Str
  s : Str
  td : Tok
  th : Tok
  ts : Tok
def mvStep (p : Str × Str × Str) (c : Nat) : Str × Str × Str :=
  if c == 92 || c == 57345 then (p.1, p.2.1, p.2.2 ++ ⟨#[c]⟩) else if inB1 c then (p.1, p.2.1 ++ ⟨#[c]⟩, p.2.2) else (p.1 ++ (p.2.1 ++ p.2.2 ++ ⟨#[c]⟩), ⟨#[]⟩, ⟨#[]⟩)
def mvRun (l : List Nat) : Str × Str × Str := l.foldl mvStep (⟨#[]⟩, ⟨#[]⟩, ⟨#[]⟩)
def movedS (x : Str) : Str := let p := mvRun x.cps.toList; if p.2.2 == ⟨#[]⟩ then p.1 else p.1 ++ p.2.1 ++ p.2.2
theorem mv_len (l : List Nat) : ∀ p : Str × Str × Str, (l.foldl mvStep p).1.length + (l.foldl mvStep p).2.1.length + (l.foldl mvStep p).2.2.length = p.1.length + p.2.1.length + p.2.2.length + l.length := by
  induction l with
  | nil => intro p; rfl
  | cons c r ih =>
    intro p
    rw [List.foldl_cons, ih, List.length_cons]
    have e1 : (⟨#[c]⟩ : Str).length = 1 := rfl
    have e0 : (⟨#[]⟩ : Str).length = 0 := rfl
    unfold mvStep
    split
    · simp only [Str.length_append]; omega
    · split
      · simp only [Str.length_append]; omega
      · simp only [Str.length_append]; omega
def mvInv (x : Str) (i : Nat) (c : Mv) : Prop := (c.d, c.h, c.s) = mvRun (x.cps.toList.take i)
theorem mvInv.lens {x : Str} {i : Nat} {c : Mv} (h : mvInv x i c) (hx : x.length ≤ 4000) : c.d.length + c.h.length + c.s.length ≤ 4000 := by
  have := mv_len (x.cps.toList.take i) (⟨#[]⟩, ⟨#[]⟩, ⟨#[]⟩)
  have e : (x.cps.toList.take i).length ≤ 4000 := by
    rw [List.length_take]
    have : x.cps.toList.length = x.length := by simp [Str.length]
    omega
  unfold mvInv mvRun at h
  rw [← h] at this
  have e0 : (⟨#[]⟩ : Str).length = 0 := rfl
  dsimp only at this
  omega
theorem take_snoc {x : Str} {i c : Nat} (h : x.cps[i]? = some c) : x.cps.toList.take (i + 1) = x.cps.toList.take i ++ [c] := by
  have : x.cps.toList[i]? = some c := by simpa using h
  rw [List.take_add_one, this]; rfl
theorem mvInv.next {x : Str} {i ch : Nat} {c c' : Mv} (hc : x.cps[i]? = some ch) (h : mvInv x i c) (e : (c'.d, c'.h, c'.s) = mvStep (c.d, c.h, c.s) ch) : mvInv x (i + 1) c' := by
  unfold mvInv mvRun at h ⊢
  rw [e, take_snoc hc, List.foldl_append, ← h]; rfl
theorem str_two : Str.ofString "\\\ue001" = ⟨#[92, 57345]⟩ := by decide +kernel
theorem two_in (c : Nat) : (Builtin.Str.occurrences (Str.ofString "\\\ue001") ⟨#[c]⟩ 0 (Str.ofString "\\\ue001").length 1).isEmpty = !(c == 92 || c == 57345) := by
  have e := StrLaws.found_one (Str.ofString "\\\ue001") c
  rw [← Bool.not_not (b := List.isEmpty _), e, str_two]
  by_cases h1 : c = 92
  · simp [h1]
  · by_cases h2 : c = 57345
    · simp [h2]
    · simp [h1, h2]
theorem not_ff {b : Bool} (h : (!b) = false) : b = true := by revert h; cases b <;> decide
theorem not_tt {b : Bool} (h : (!b) = true) : ¬ b = true := by revert h; cases b <;> decide
theorem mv_a {x : Str} {i ch : Nat} {d h s : Str} {td th ts td' th' ts' : Tok} (hc : x.cps[i]? = some ch) (hI : mvInv x i ⟨d, h, s, td, th, ts⟩) (h1 : (Builtin.Str.occurrences (Str.ofString "\\\ue001") ⟨#[ch]⟩ 0 (Str.ofString "\\\ue001").length 1).isEmpty = false) : mvInv x (i + 1) ⟨d, h, s ++ ⟨#[ch]⟩, td', th', ts'⟩ :=
  hI.next hc (by rw [two_in] at h1; unfold mvStep; rw [if_pos (not_ff h1)])
theorem mv_b {x : Str} {i ch : Nat} {d h s : Str} {td th ts td' th' ts' : Tok} (hc : x.cps[i]? = some ch) (hI : mvInv x i ⟨d, h, s, td, th, ts⟩) (h1 : (Builtin.Str.occurrences (Str.ofString "\\\ue001") ⟨#[ch]⟩ 0 (Str.ofString "\\\ue001").length 1).isEmpty = true) (h2 : inB1 ch = true) : mvInv x (i + 1) ⟨d, h ++ ⟨#[ch]⟩, s, td', th', ts'⟩ :=
  hI.next hc (by rw [two_in] at h1; unfold mvStep; rw [if_neg (not_tt h1), if_pos h2])
theorem mv_c {x : Str} {i ch : Nat} {d h s : Str} {td th ts td' th' ts' : Tok} (hc : x.cps[i]? = some ch) (hI : mvInv x i ⟨d, h, s, td, th, ts⟩) (h1 : (Builtin.Str.occurrences (Str.ofString "\\\ue001") ⟨#[ch]⟩ 0 (Str.ofString "\\\ue001").length 1).isEmpty = true) (h2 : inB1 ch = false) : mvInv x (i + 1) ⟨d ++ (h ++ s ++ ⟨#[ch]⟩), Str.ofString "", Str.ofString "", td', th', ts'⟩ :=
  hI.next hc (by rw [two_in] at h1; unfold mvStep; rw [if_neg (not_tt h1), if_neg (by rw [h2]; decide), str_nil])
theorem mv_done {x : Str} {d h s : Str} {td th ts : Tok} (hI : mvInv x x.cps.size ⟨d, h, s, td, th, ts⟩) : movedS x = if s == ⟨#[]⟩ then d else d ++ h ++ s := by
  have e : x.cps.toList.take x.cps.size = x.cps.toList := List.take_of_length_le (Nat.le_of_eq Array.length_toList)
  unfold mvInv at hI
  rw [e] at hI
  unfold movedS
  rw [← hI]
theorem three_keys {a b c : Str × Value} {m : Str → Option Value} (h1 : m a.1 = some a.2) (h2 : m b.1 = some b.2) (h3 : m c.1 = some c.2) : ∀ p ∈ [a, b, c], m p.1 = some p.2 := by
  intro p hp
  rcases List.mem_cons.mp hp with rfl | hp
  · exact h1
  rcases List.mem_cons.mp hp with rfl | hp
  · exact h2
  rcases List.mem_cons.mp hp with rfl | hp
  · exact h3
  · nomatch hp
def mvPs (c : Mv) : List (Str × Value) := [(Str.ofString "done", .str c.d c.td), (Str.ofString "held", .str c.h c.th), (Str.ofString "slashes", .str c.s c.ts)]
local macro_rules | `(tactic| walk_at "call ref") => `(tactic| (refine b1_call (by assumption) (by assumption) (by assumption) (by assumption) ?_; intro h' tk' F' N'; dsimp only))
set_option maxHeartbeats 8000000 in
theorem moved_spec {w : World} {s₀ : Shared} {mg mb : Str → Option Value} {A : Around} {s : Shared} {n : Nat} {R : Result → Shared → Prop} (g : Gd w s₀ mg mb s.heap) (r : Room A (n + 2)) (x : Str) (t : Tok) (hx : x.length ≤ 4000)
    (hR : ∀ u h' tk, s.heap.StaysIn h' → R (.ok (.ret (.str (movedS x) u))) { s with heap := h', toks := tk }) :
    codeAny (model pw w) A (.call (.ref 107) ⟨[.str x t], []⟩) R s := by
  w_on
  refine g.open ?_
  intro KX X V GL T B TE TW _ _ M
  refine call_def (i := 11) (c := 106) (o := o107 w.params) (pm := .str (Str.ofString "law_ny0220_01") 2223) (binds := [(Str.ofString "text", .str x t)]) g r (by kernel_rfl) (by kernel_rfl) (by kernel_rfl) (by kernel_rfl) (by kernel_rfl) (by kernel_rfl) (by decide +kernel) ?_
  intro h₁ F rA
  have N0 : News s.heap s.heap.objs.size h₁ [] := News.nil
  show wpAny _ _ (execs (_ :: _) _) _ _ _
  k_fold
  repeat ((fail_if_success (with_reducible show wpAny _ _ (exec (.For _ _ _ _ _) _) _ _ _)); first | walk1 | (dsimp only; walk1))
  refine For_invVF (by assumption) (by rfl) (by rfl) ?_
  repeat ((fail_if_success (with_reducible show wpAny _ _ (pyIter _) _ _ _)); first | walk1 | (dsimp only; walk1))
  refine textLoop (σ := Mv) (fun _ => []) mvPs (mvInv x) ⟨Str.ofString "", Str.ofString "", Str.ofString "", ?ta, ?tb, ?tc⟩ rA.handled (by assumption) (by assumption) ?hk ?hj ?ht ?hd
  case hk =>
    intro p hp
    rcases List.mem_cons.mp hp with rfl | hp
    · rfl
    rcases List.mem_cons.mp hp with rfl | hp
    · rfl
    rcases List.mem_cons.mp hp with rfl | hp
    · rfl
    · nomatch hp
  case hj =>
    show (_, _, _) = mvRun []
    simp only [str_nil]; rfl
  case ht =>
    rintro i ch tc ⟨d, hl, sl, td, th, ts⟩ u h tk own hch hI _ ho F1 N1
    have hln := hI.lens hx
    dsimp only at hln
    have e1 : (⟨#[ch]⟩ : Str).length = 1 := rfl
    simp only [List.nil_append] at N1
    replace F1 : Fr s.heap s.heap.objs.size h _ := F1
    replace N1 : News s.heap s.heap.objs.size h own := N1
    dsimp only [mvPs] at F1
    show wpAny _ _ (execs (_ :: _) _) _ _ _
    repeat' ((fail_if_success (with_reducible show InvPostN _ _ _ _ _ _ _ _ _)); first | walk1 | (dsimp only; walk1))
    all_goals
      show InvEndN _ _ _ _ _ _ _
      refine kend (σ := Mv) ⟨?_, ?_, ?_, ?_, ?_, ?_⟩ (by assumption) (by assumption) (fun p hp => nomatch hp) (fun p hp => hp) rfl (three_keys (by exact rfl) (by exact rfl) (by exact rfl)) ?_
      first
      | exact mv_a hch hI (by assumption)
      | exact mv_b hch hI (by assumption) (by assumption)
      | exact mv_c hch hI (by assumption) (by assumption)
  case hd =>
    rintro ⟨d, hl, sl, td, th, ts⟩ u h tk hI F1 N1
    have hln := hI.lens hx
    dsimp only at hln ⊢
    replace F1 : Fr s.heap s.heap.objs.size h _ := F1
    replace N1 : News s.heap s.heap.objs.size h [] := N1
    dsimp only [mvPs] at F1
    repeat' (first | walk1 | (dsimp only; walk1))
    · have e := (mv_done hI).trans (if_pos (by rw [← str_nil]; assumption))
      have q := fun tk => hR td h tk (Fr.keep F1)
      rw [e] at q
      exact q _
    · have e := (mv_done hI).trans (if_neg (by rw [← str_nil]; exact ne_true_of_eq_false (by assumption)))
      have q := fun t tk => hR t h tk (Fr.keep F1)
      rw [e] at q
      exact q _ _
end
section
structure Pa where
  vs : Array Value
  e : Nat
  rs : List Str
  p : Str
  tp : Tok
  b : Bool
  q : Bool
structure Pr where
  rs : List Str
  p : Str
  b : Bool
  q : Bool
def paStep (x : Pr) (c : Nat) : Pr :=
  if x.b then ⟨x.rs, x.p ++ ⟨#[c]⟩, false, x.q⟩
  else if x.q then (if c == 92 then ⟨x.rs, x.p, true, x.q⟩ else if c == 34 then ⟨x.rs, x.p ++ ⟨#[c]⟩, x.b, false⟩ else ⟨x.rs, x.p ++ ⟨#[c]⟩, x.b, x.q⟩)
  else if c == 44 then ⟨x.rs ++ [x.p], ⟨#[]⟩, x.b, x.q⟩
  else if c == 34 then ⟨x.rs, x.p ++ ⟨#[c]⟩, x.b, true⟩
  else ⟨x.rs, x.p ++ ⟨#[c]⟩, x.b, x.q⟩
def paRun (l : List Nat) : Pr := l.foldl paStep ⟨[], ⟨#[]⟩, false, false⟩
def parseS (x : Str) : List Str := let y := paRun x.cps.toList; (if y.p == ⟨#[]⟩ then y.rs else y.rs ++ [y.p]).map Txt.strip
theorem pa_len (l : List Nat) : ∀ x : Pr, (l.foldl paStep x).rs.length ≤ x.rs.length + l.length ∧ (l.foldl paStep x).p.length ≤ x.p.length + l.length := by
  induction l with
  | nil => intro x; exact ⟨Nat.le_refl _, Nat.le_refl _⟩
  | cons c r ih =>
    intro x
    rw [List.foldl_cons, List.length_cons]
    have h := ih (paStep x c)
    have e1 : (⟨#[c]⟩ : Str).length = 1 := rfl
    have e0 : (⟨#[]⟩ : Str).length = 0 := rfl
    have k : (paStep x c).rs.length ≤ x.rs.length + 1 ∧ (paStep x c).p.length ≤ x.p.length + 1 := by
      unfold paStep
      repeat' split
      all_goals (simp only [Str.length_append, List.length_append, List.length_cons, List.length_nil]; omega)
    omega
def paInv (x : Str) (i : Nat) (c : Pa) : Prop := StrsAre c.vs.toList c.rs ∧ (⟨c.rs, c.p, c.b, c.q⟩ : Pr) = paRun (x.cps.toList.take i)
theorem paInv.lens {x : Str} {i : Nat} {c : Pa} (h : paInv x i c) (hx : x.length ≤ 4000) : c.vs.size ≤ 4000 ∧ c.p.length ≤ 4000 := by
  have := pa_len (x.cps.toList.take i) ⟨[], ⟨#[]⟩, false, false⟩
  have e : (x.cps.toList.take i).length ≤ 4000 := by
    rw [List.length_take]
    have : x.cps.toList.length = x.length := by simp [Str.length]
    omega
  have e2 := h.1.length
  have e3 : c.vs.toList.length = c.vs.size := by simp
  have h2 := h.2
  unfold paRun at h2
  rw [← h2] at this
  have e0 : (⟨#[]⟩ : Str).length = 0 := rfl
  dsimp only [List.length_nil] at this
  omega
theorem paInv.next {x : Str} {i ch : Nat} {c c' : Pa} (hc : x.cps[i]? = some ch) (h : paInv x i c) (k : StrsAre c'.vs.toList c'.rs) (e : (⟨c'.rs, c'.p, c'.b, c'.q⟩ : Pr) = paStep ⟨c.rs, c.p, c.b, c.q⟩ ch) : paInv x (i + 1) c' := by
  refine ⟨k, ?_⟩
  have h2 := h.2
  unfold paRun at h2 ⊢
  rw [e, take_snoc hc, List.foldl_append, ← h2]; rfl
def paPs (a : Addr) (c : Pa) : List (Str × Value) := [(Str.ofString "res", .ref a), (Str.ofString "part", .str c.p c.tp), (Str.ofString "escape", .bool c.b), (Str.ofString "quote", .bool c.q)]
theorem four_keys {a b c d : Str × Value} {m : Str → Option Value} (h1 : m a.1 = some a.2) (h2 : m b.1 = some b.2) (h3 : m c.1 = some c.2) (h4 : m d.1 = some d.2) : ∀ p ∈ [a, b, c, d], m p.1 = some p.2 := by
  intro p hp
  rcases List.mem_cons.mp hp with rfl | hp
  · exact h1
  · exact three_keys h2 h3 h4 p hp
theorem one_eq (c k : Nat) : ((⟨#[c]⟩ : Str) == ⟨#[k]⟩) = (c == k) := by
  rw [Bool.eq_iff_iff, beq_iff_eq, beq_iff_eq]
  constructor
  · intro h
    have := congrArg (fun s : Str => s.cps.toList) h
    simpa using this
  · rintro rfl; rfl
theorem str_bs1 (c : Nat) : ((⟨#[c]⟩ : Str) == Str.ofString "\\") = (c == 92) := by rw [str_bs, one_eq]
theorem str_q1 (c : Nat) : ((⟨#[c]⟩ : Str) == Str.ofString "\"") = (c == 34) := by rw [str_q, one_eq]
theorem str_c1 (c : Nat) : ((⟨#[c]⟩ : Str) == Str.ofString ",") = (c == 44) := by rw [str_cm, one_eq]
section
variable {rs : List Str} {p : Str} {c : Nat} {q : Bool}
theorem pa1 : (⟨rs, p ++ ⟨#[c]⟩, false, q⟩ : Pr) = paStep ⟨rs, p, true, q⟩ c := rfl
theorem pa2 (h : ((⟨#[c]⟩ : Str) == Str.ofString "\\") = true) : (⟨rs, p, true, true⟩ : Pr) = paStep ⟨rs, p, false, true⟩ c := by rw [str_bs1] at h; simp [paStep, h]
theorem pa3 (h : ((⟨#[c]⟩ : Str) == Str.ofString "\\") = false) (k : ((⟨#[c]⟩ : Str) == Str.ofString "\"") = true) : (⟨rs, p ++ ⟨#[c]⟩, false, false⟩ : Pr) = paStep ⟨rs, p, false, true⟩ c := by rw [str_bs1] at h; rw [str_q1] at k; simp [paStep, h, k]
theorem pa4 (h : ((⟨#[c]⟩ : Str) == Str.ofString "\\") = false) (k : ((⟨#[c]⟩ : Str) == Str.ofString "\"") = false) : (⟨rs, p ++ ⟨#[c]⟩, false, true⟩ : Pr) = paStep ⟨rs, p, false, true⟩ c := by rw [str_bs1] at h; rw [str_q1] at k; simp [paStep, h, k]
theorem pa5 (h : ((⟨#[c]⟩ : Str) == Str.ofString ",") = true) : (⟨rs ++ [p], Str.ofString "", false, false⟩ : Pr) = paStep ⟨rs, p, false, false⟩ c := by rw [str_c1] at h; simp [paStep, h, str_nil]
theorem pa6 (h : ((⟨#[c]⟩ : Str) == Str.ofString ",") = false) (k : ((⟨#[c]⟩ : Str) == Str.ofString "\"") = true) : (⟨rs, p ++ ⟨#[c]⟩, false, true⟩ : Pr) = paStep ⟨rs, p, false, false⟩ c := by rw [str_c1] at h; rw [str_q1] at k; simp [paStep, h, k]
theorem pa7 (h : ((⟨#[c]⟩ : Str) == Str.ofString ",") = false) (k : ((⟨#[c]⟩ : Str) == Str.ofString "\"") = false) : (⟨rs, p ++ ⟨#[c]⟩, false, false⟩ : Pr) = paStep ⟨rs, p, false, false⟩ c := by rw [str_c1] at h; rw [str_q1] at k; simp [paStep, h, k]
end
theorem strs_push {vs : Array Value} {rs : List Str} {p : Str} {t : Tok} (h : StrsAre vs.toList rs) : StrsAre (vs.push (.str p t)).toList (rs ++ [p]) := by simpa using strs_append h (.cons p t .nil)
theorem sub_head {p : Addr × Obj} {l : List (Addr × Obj)} : ∀ q ∈ [p], q ∈ p :: l := fun q hq => by rw [List.mem_singleton.mp hq]; exact .head _
theorem append_led {w : World} {A : Around} {E : Value → Shared → Prop} {s : Shared} {h₀ : Heap} {L a : Addr} {m : Str → Option Value} {vs : Array Value} {e : Nat} {news : List (Addr × Obj)} {v : Value} {Q : Value → Shared → Prop}
    (F : Fr h₀ L s.heap m) (N : News h₀ L s.heap ((a, W.listOf vs e) :: news)) (off : ∀ p ∈ news, p.1 ≠ a) (hsz : vs.size ≤ sizeLine) (h : ∀ h' e', Fr h₀ L h' m → News h₀ L h' ((a, W.listOf (vs.push v) e') :: news) → Q .none { s with heap := h' }) :
    wpAny (model pw w) A (call (.builtin "list.append") [.ref a, v]) Q E s := by
  obtain ⟨hg, hL, h0⟩ := N _ (.head _)
  refine wpAny_list_append_plain (hsz := hsz) ⟨e, hg⟩ fun h' hl hs => ?_
  obtain ⟨e', hg'⟩ := hl
  have k : ∀ b o, b ≠ a → s.heap.get? b = some o → h'.get? b = some o := fun b o hb q => hs.extBut b o hb q
  refine h h' e' ⟨F.ns.at' fun o q => k _ o (Ne.symm hL) q, fun b o q => k b o (fun z => by dsimp only at h0; rw [z, h0] at q; cases q) (F.keep b o q), F.above⟩ ?_
  intro p hp
  rcases List.mem_cons.mp hp with rfl | hp
  · exact ⟨hg', hL, h0⟩
  · exact ⟨k _ _ (off p hp) (N p (.tail _ hp)).1, (N p (.tail _ hp)).2⟩
local macro_rules | `(tactic| walk_at "call builtin:list.append") => `(tactic| (refine append_led (by assumption) (by assumption) (by first | exact OwnOff.ne (by assumption) (List.mem_singleton.mpr rfl) | exact fun p hp => nomatch hp) (by rw [sizeLine_eq]; omega) ?_; intro h' e' F' N'; dsimp only))
def stripF (v : Value) (l : List Value) (obs : List (Addr × Obj)) : Prop := obs = [] ∧ ∃ x t u, v = .str x t ∧ l = [.str (Txt.strip x) u]
theorem stripF_ok : ∀ v c l obs, stripF v l obs → TextV v c → obs = [] ∧ StrsAre l ((fun x => [Txt.strip x]) c) := by
  rintro v c l obs ⟨rfl, x, t, u, rfl, rfl⟩ ⟨u', e⟩
  cases e
  exact ⟨rfl, .cons _ _ .nil⟩
theorem str_at {n : Nat} {l : List Value} {xs : List Str} (h : StrsAre l xs) : (∀ x ∈ xs, x.length ≤ n) → ∀ {i : Nat} {v : Value}, l[i]? = some v → ∃ x t, v = .str x t ∧ x.length ≤ n := by
  induction h with
  | nil => intro _ i v e; simp at e
  | cons y t _ ih =>
    intro hn i v e
    cases i with
    | zero => simp at e; exact ⟨y, t, e.symm, hn _ (.head _)⟩
    | succ i => exact ih (fun x hx => hn x (.tail _ hx)) (by simpa using e)
theorem pa_all {n : Nat} (l : List Nat) : ∀ x : Pr, (∀ y ∈ x.rs, y.length ≤ n) → x.p.length + l.length ≤ n → (∀ y ∈ (l.foldl paStep x).rs, y.length ≤ n) ∧ (l.foldl paStep x).p.length ≤ n := by
  induction l with
  | nil => intro x h k; exact ⟨h, by simpa using k⟩
  | cons c r ih =>
    intro x h k
    rw [List.length_cons] at k
    have e1 : (⟨#[c]⟩ : Str).length = 1 := rfl
    have e0 : (⟨#[]⟩ : Str).length = 0 := rfl
    refine ih (paStep x c) ?_ ?_
    · unfold paStep
      repeat' split
      all_goals (try exact h)
      intro y hy
      rcases List.mem_append.mp hy with hy | hy
      · exact h y hy
      · rw [List.mem_singleton.mp hy]; omega
    · unfold paStep
      repeat' split
      all_goals (simp only [Str.length_append]; omega)
theorem ls_all {x : Str} {i : Nat} {c : Pa} (h : paInv x i c) (hx : x.length ≤ 4000) : ∀ y ∈ c.rs, y.length ≤ 4000 := by
  have e : (x.cps.toList.take i).length ≤ 4000 := by
    rw [List.length_take]
    have : x.cps.toList.length = x.length := by simp [Str.length]
    omega
  have := (pa_all (n := 4000) (x.cps.toList.take i) ⟨[], ⟨#[]⟩, false, false⟩ (fun _ hy => nomatch hy) (by show 0 + _ ≤ _; omega)).1
  have h2 := h.2
  unfold paRun at h2
  rw [← h2] at this
  exact this
theorem ls_push {x : Str} {i : Nat} {c : Pa} (h : paInv x i c) (hx : x.length ≤ 4000) : ∀ y ∈ c.rs ++ [c.p], y.length ≤ 4000 := by
  intro y hy
  rcases List.mem_append.mp hy with hy | hy
  · exact ls_all h hx y hy
  · rw [List.mem_singleton.mp hy]; exact (h.lens hx).2
theorem ne_nil_of {p : Str} (h : (p.length : Int) ≠ 0) : ¬ (p == ⟨#[]⟩) = true := fun e => h (by rw [beq_iff_eq.mp e]; rfl)
theorem eq_nil_of {p : Str} (h : (p.length : Int) = 0) : (p == ⟨#[]⟩) = true := by
  obtain ⟨⟨l⟩⟩ := p
  have : l.length = 0 := by simpa [Str.length] using h
  rw [List.length_eq_zero_iff.mp this]; rfl
theorem parse_end {x : Str} {c : Pa} {ys : List Value} (hI : paInv x x.cps.size c) (h : StrsAre ys ((if c.p == ⟨#[]⟩ then c.rs else c.rs ++ [c.p]).flatMap fun x => [Txt.strip x])) : StrsAre ys (parseS x) := by
  have e : x.cps.toList.take x.cps.size = x.cps.toList := List.take_of_length_le (Nat.le_of_eq Array.length_toList)
  have h2 := hI.2
  rw [e] at h2
  unfold parseS
  rw [← h2]
  have e2 : ∀ l : List Str, (l.flatMap fun x => [Txt.strip x]) = l.map Txt.strip := fun l => by induction l with
    | nil => rfl
    | cons a r ih => rw [List.flatMap_cons, ih]; rfl
  rw [← e2]
  exact h
set_option maxHeartbeats 1000000 in
theorem parse_spec {w : World} {s₀ : Shared} {mg mb : Str → Option Value} {A : Around} {s : Shared} {n : Nat} {R : Result → Shared → Prop} (g : Gd w s₀ mg mb s.heap) (r : Room A (n + 2)) (x : Str) (t : Tok) (hx : x.length ≤ 4000)
    (hR : ∀ a (vs : Array Value) e h' tk, s.heap.StaysIn h' → s.heap.get? a = none → h'.get? a = some (W.listOf vs e) → StrsAre vs.toList (parseS x) → R (.ok (.ret (.ref a))) { s with heap := h', toks := tk }) :
    codeAny (model pw w) A (.call (.ref 83) ⟨[.str x t], []⟩) R s := by
  w_on
  refine g.open ?_
  intro KX X V GL T B TE TW _ _ M
  refine call_def (i := 6) (c := 82) (o := o83 w.params) (pm := .str (Str.ofString "cpy313.urllib.request") 2215) (binds := [(Str.ofString "s", .str x t)]) g r (by kernel_rfl) (by kernel_rfl) (by kernel_rfl) (by kernel_rfl) (by kernel_rfl) (by kernel_rfl) (by decide +kernel) ?_
  intro h₁ F rA
  have N0 : News s.heap s.heap.objs.size h₁ [] := News.nil
  show wpAny _ _ (execs (_ :: _) _) _ _ _
  k_fold
  repeat ((fail_if_success (with_reducible show wpAny _ _ (exec (.For _ _ _ _ _) _) _ _ _)); first | walk1 | (dsimp only; walk1))
  refine For_invVF (by assumption) (by rfl) (by rfl) ?_
  repeat ((fail_if_success (with_reducible show wpAny _ _ (pyIter _) _ _ _)); first | walk1 | (dsimp only; walk1))
  refine textLoop (σ := Pa) (fun c => [(?aa, W.listOf c.vs c.e)]) (paPs ?aa) (paInv x) ⟨#[], 0, [], Str.ofString "", ?ta, false, false⟩ rA.handled (by assumption) (by assumption) ?hk ?hj ?ht ?hd
  case hk =>
    intro p hp
    simp only [paPs, List.mem_cons, List.not_mem_nil, or_false] at hp
    rcases hp with rfl | rfl | rfl | rfl
    all_goals exact rfl
  case hj =>
    refine ⟨.nil, ?_⟩
    show (⟨_, _, _, _⟩ : Pr) = paRun []
    simp only [str_nil]; rfl
  case ht =>
    rintro i ch tc ⟨vs, e, rs, p, tp, b, q⟩ u h tk own hch hI _ ho F1 N1
    have hln := hI.lens hx
    dsimp only at hln
    have e1 : (⟨#[ch]⟩ : Str).length = 1 := rfl
    simp only [List.cons_append, List.nil_append] at N1
    replace F1 : Fr s.heap s.heap.objs.size h _ := F1
    replace N1 : News s.heap s.heap.objs.size h _ := N1
    dsimp only [paPs] at F1 N1
    show wpAny _ _ (execs (_ :: _) _) _ _ _
    cases b <;> cases q
    all_goals repeat' ((fail_if_success (with_reducible show InvPostN _ _ _ _ _ _ _ _ _)); first | walk1 | (dsimp only; walk1))
    all_goals
      show InvEndN _ _ _ _ _ _ _
      first
      | exact kend (σ := Pa) ⟨vs, e, rs, p ++ ⟨#[ch]⟩, _, false, _⟩ (by assumption) (by assumption) sub_head (fun p hp => .tail _ hp) rfl (four_keys (by exact rfl) (by exact rfl) (by exact rfl) (by exact rfl)) (hI.next hch hI.1 pa1)
      | exact kend (σ := Pa) ⟨vs, e, rs, p, _, true, true⟩ (by assumption) (by assumption) sub_head (fun p hp => .tail _ hp) rfl (four_keys (by exact rfl) (by exact rfl) (by exact rfl) (by exact rfl)) (hI.next hch hI.1 (pa2 (by assumption)))
      | exact kend (σ := Pa) ⟨vs, e, rs, p ++ ⟨#[ch]⟩, _, false, false⟩ (by assumption) (by assumption) sub_head (fun p hp => .tail _ hp) rfl (four_keys (by exact rfl) (by exact rfl) (by exact rfl) (by exact rfl)) (hI.next hch hI.1 (pa3 (by assumption) (by assumption)))
      | exact kend (σ := Pa) ⟨vs, e, rs, p ++ ⟨#[ch]⟩, _, false, true⟩ (by assumption) (by assumption) sub_head (fun p hp => .tail _ hp) rfl (four_keys (by exact rfl) (by exact rfl) (by exact rfl) (by exact rfl)) (hI.next hch hI.1 (pa4 (by assumption) (by assumption)))
      | exact kend (σ := Pa) ⟨vs.push (.str p tp), _, rs ++ [p], Str.ofString "", _, false, false⟩ (by assumption) (by assumption) sub_head (fun p hp => .tail _ hp) rfl (four_keys (by exact rfl) (by exact rfl) (by exact rfl) (by exact rfl)) (hI.next hch (strs_push hI.1) (pa5 (by assumption)))
      | exact kend (σ := Pa) ⟨vs, e, rs, p ++ ⟨#[ch]⟩, _, false, true⟩ (by assumption) (by assumption) sub_head (fun p hp => .tail _ hp) rfl (four_keys (by exact rfl) (by exact rfl) (by exact rfl) (by exact rfl)) (hI.next hch hI.1 (pa6 (by assumption) (by assumption)))
      | exact kend (σ := Pa) ⟨vs, e, rs, p ++ ⟨#[ch]⟩, _, false, false⟩ (by assumption) (by assumption) sub_head (fun p hp => .tail _ hp) rfl (four_keys (by exact rfl) (by exact rfl) (by exact rfl) (by exact rfl)) (hI.next hch hI.1 (pa7 (by assumption) (by assumption)))
  case hd =>
    rintro ⟨vs, e, rs, p, tp, b, q⟩ u h tk hI F1 N1
    have hln := hI.lens hx
    dsimp only at hln ⊢
    replace F1 : Fr s.heap s.heap.objs.size h _ := F1
    replace N1 : News s.heap s.heap.objs.size h _ := N1
    dsimp only [paPs] at F1 N1
    repeat' ((fail_if_success (with_reducible show wpAny _ _ (eval (.ListComp _ _ _ _) _) _ _ _)); first | walk1 | (dsimp only; walk1))
    · refine comp_led' (by assumption : Fr s.heap s.heap.objs.size _ _) stripF (by with_unfolding_all rfl) (by decide) (by rfl) (by decide) (by rfl) ?_
      repeat ((fail_if_success (with_reducible show wpAny _ _ (pyIter _) _ _ _)); first | walk1 | (dsimp only; walk1))
      refine laid_list rA.handled (by assumption) (by assumption) (list_in (by k_mem)) ?_
      intro I h' LD
      refine ⟨I, _, _, _, rfl, ?_, LD, elts_plain ?_, ?_⟩
      · rw [sizeLine_eq]; rw [Array.size_push]; omega
      · intro C D oC oI oD i v m₂ ob h tk E' hi hP hC hx2 F' N'
        obtain ⟨y, ty, rfl, ly⟩ := str_at (strs_push (t := tp) hI.1) (ls_push hI hx) (by rw [Array.getElem?_toList]; exact hP)
        repeat ((fail_if_success (with_reducible show EltEnd _ _ _ _ _ _ _ _ _ _ _)); first | walk1 | (dsimp only; walk1))
        exact eltEnd0 (by assumption) (by assumption) ⟨rfl, _, _, _, rfl, rfl⟩
      · intro D h' tk ys e ob vs hl hv hB F' N' off
        obtain ⟨rfl, hS⟩ := built_texts stripF_ok hB _ (items_of (strs_push (t := tp) hI.1) hl hv)
        refine hR D ys.toArray e h' tk (Fr.keep F') (News.fresh N' (.head _)) (News.get N' (.head _)) ?_
        rw [List.toList_toArray]
        refine parse_end hI ?_
        rw [if_neg (ne_nil_of (by assumption))]
        exact hS
    · refine comp_led' (by assumption : Fr s.heap s.heap.objs.size _ _) stripF (by with_unfolding_all rfl) (by decide) (by rfl) (by decide) (by rfl) ?_
      repeat ((fail_if_success (with_reducible show wpAny _ _ (pyIter _) _ _ _)); first | walk1 | (dsimp only; walk1))
      refine laid_list rA.handled (by assumption) (by assumption) (list_in (by k_mem)) ?_
      intro I h' LD
      refine ⟨I, _, _, _, rfl, ?_, LD, elts_plain ?_, ?_⟩
      · rw [sizeLine_eq]; omega
      · intro C D oC oI oD i v m₂ ob h tk E' hi hP hC hx2 F' N'
        obtain ⟨y, ty, rfl, ly⟩ := str_at hI.1 (ls_all hI hx) (by rw [Array.getElem?_toList]; exact hP)
        repeat ((fail_if_success (with_reducible show EltEnd _ _ _ _ _ _ _ _ _ _ _)); first | walk1 | (dsimp only; walk1))
        exact eltEnd0 (by assumption) (by assumption) ⟨rfl, _, _, _, rfl, rfl⟩
      · intro D h' tk ys e ob vs hl hv hB F' N' off
        obtain ⟨rfl, hS⟩ := built_texts stripF_ok hB _ (items_of hI.1 hl hv)
        refine hR D ys.toArray e h' tk (Fr.keep F') (News.fresh N' (.head _)) (News.get N' (.head _)) ?_
        rw [List.toList_toArray]
        refine parse_end hI ?_
        rw [if_pos (eq_nil_of (by assumption))]
        exact hS
end
section
section
variable {w : World} {A : Around} {E : Value → Shared → Prop} {s : Shared} {h₀ : Heap} {L : Addr} {m : Str → Option Value} {news : List (Addr × Obj)} {Q : Value → Shared → Prop}
theorem split_led {x y : Str} {t u : Tok} (F : Fr h₀ L s.heap m) (N : News h₀ L s.heap news) (hy : (y.length == 0) = false) (hx : x.length ≤ 4000)
    (h : ∀ a (vs : List Value) h' k, Fr h₀ L h' m → News h₀ L h' ((a, W.listOf vs.toArray 0) :: news) → StrsAre vs (Txt.split x y) → (∀ z ∈ Txt.split x y, z.length ≤ 4000) → 1 ≤ vs.length → vs.length ≤ 4002 → Q (.ref a) { s with heap := h', toks := k }) :
    wpAny (model pw w) A (call (.builtin "str.split") [.str x t, .str y u]) Q E s :=
  splitN1A F N hy (fun l h' k e hS hl _ F' N' => by
    rw [e] at hS hl
    have e1 := split_pos x y
    have e2 := split_le x y
    have e3 := hS.length
    exact h _ _ h' k F' N' hS (fun z hz => Nat.le_trans (hl z hz) hx) (by omega) (by omega)) (by rw [sizeLine_eq]; omega)
theorem last_led {value slice : Expr} {a : Addr} {vs : List Value} {e : Nat} {xs : List Str} {tk : Tok} (N : News h₀ L s.heap news) (ha : (a, W.listOf vs.toArray e) ∈ news) (hS : StrsAre vs xs) (hne : 1 ≤ vs.length)
    (h : ∀ z t, xs.getLast? = some z → Q (.str z t) s)
    (hs : subscripted slice false (.ref a) (.int (-1) tk) = operate [.ref a, .int (-1) tk] (getItem (.ref a) (.int (-1) tk)) := by with_unfolding_all rfl) :
    wpAny (model pw w) A (subscriptTail value slice (.ref a) (.int (-1) tk)) Q E s := by
  have hl : s.heap.IsList a vs.toArray := News.isList N ha
  have hlen := hS.length
  have e1 : vs.toArray.size = vs.length := by simp
  have q : vs[vs.length - 1]? = vs.getLast? := by rw [List.getLast?_eq_getElem?]
  obtain ⟨z, t, hv, hz⟩ : ∃ z t, vs[vs.length - 1]? = some (.str z t) ∧ xs.getLast? = some z := by
    clear hs h hl N ha
    induction hS with
    | nil => simp at hne
    | @cons y t vs xs hS ih =>
      cases hS with
      | nil => exact ⟨y, t, rfl, rfl⟩
      | cons y' t' hS' =>
        have := ih (by simp) (by simpa using hlen) (by simp) (by rw [List.getLast?_eq_getElem?])
        obtain ⟨z, t, h1, h2⟩ := this
        refine ⟨z, t, ?_, ?_⟩
        · simpa using h1
        · simpa using h2
  refine tail_any hl.typeIs slot_list_getitem.lookup (wpAny_getItem_list_neg hl (by decide) (by rw [e1]; omega) (by decide) (x := .str z t) ?_ (h z t hz)) hs
  have e2 : (-1 + (vs.toArray.size : Int)).toNat = vs.length - 1 := by rw [e1]; omega
  rw [e2]
  simpa using hv
end
local macro_rules | `(tactic| walk_at "call builtin:str.split") => `(tactic| (refine split_led (by assumption) (by assumption) (by decide +kernel) (by assumption) ?_; intro a' vs' h' k' F' N' hS' hl' h1' h2'; dsimp only))
local macro_rules | `(tactic| walk_at "subscriptTail") => `(tactic| ((with_reducible show wpAny _ _ (subscriptTail _ (Expr.UnaryOp _ _ _) _ _) _ _ _); refine last_led (by assumption) (by k_mem) (by assumption) (by assumption) ?_; intro z' t' hz'; dsimp only))
theorem slice_m1 (vs : List Value) (h : 1 ≤ vs.length) : slicePick vs.toArray none (some (-1)) none = vs.dropLast.toArray := by
  unfold slicePick
  have e : sliceBounds none (some (-1)) none vs.toArray.size = (0, ((vs.length - 1 : Nat) : Int), 1) := by
    have e0 : vs.toArray.size = vs.length := by simp
    unfold sliceBounds
    rw [e0]
    simp only [Option.getD_none]
    refine Prod.ext ?_ (Prod.ext ?_ rfl)
    · rfl
    · show max 0 (min (if (-1 : Int) < 0 then -1 + (vs.length : Int) else -1) (vs.length : Int)) = _
      rw [if_pos (by decide)]
      show max 0 (min (-1 + (vs.length : Int)) (vs.length : Int)) = ((vs.length - 1 : Nat) : Int)
      have h1 : min (-1 + (vs.length : Int)) (vs.length : Int) = -1 + (vs.length : Int) := Int.min_eq_left (by omega)
      have h2 : max 0 (-1 + (vs.length : Int)) = -1 + (vs.length : Int) := Int.max_eq_right (by omega)
      rw [h1, h2]
      omega
  rw [e]
  have e2 : sliceRange 0 ((vs.length - 1 : Nat) : Int) 1 = List.range (vs.length - 1) := by
    unfold sliceRange
    simp only [Int.one_mul]
    rw [if_pos (by decide)]
    have : (if (0 : Int) < ((vs.length - 1 : Nat) : Int) then (((vs.length - 1 : Nat) : Int) - 0 + 1 - 1) / 1 else 0).toNat = vs.length - 1 := by
      split
      · rw [Int.ediv_one]; omega
      · omega
    rw [this]
    refine (List.map_congr_left fun k _ => ?_).trans (List.map_id _)
    show (0 + (k : Int)).toNat = k
    omega
  show (List.filterMap _ (sliceRange 0 ((vs.length - 1 : Nat) : Int) 1)).toArray = _
  rw [e2]
  congr 1
  rw [List.dropLast_eq_take]
  refine List.ext_getElem? fun j => ?_
  have : ∀ k, k ≤ vs.length → (List.range k).filterMap (fun x => vs.toArray[x]?) = vs.take k := by
    intro k hk
    induction k with
    | zero => simp
    | succ k ih =>
      rw [List.range_succ, List.filterMap_append, ih (by omega), List.take_add_one]
      congr 1
      have : vs[k]? = some vs[k] := List.getElem?_eq_getElem (by omega)
      simp [this]
  rw [this _ (by omega)]
theorem strs_dropLast {vs : List Value} {xs : List Str} (h : StrsAre vs xs) : StrsAre vs.dropLast xs.dropLast := by
  induction h with
  | nil => exact .nil
  | cons y t h ih =>
    cases h with
    | nil => exact .nil
    | cons y' t' h' => exact .cons _ _ ih
theorem strs_m1 {vs : List Value} {xs : List Str} (h : StrsAre vs xs) (k : 1 ≤ vs.length) : StrsAre (slicePick vs.toArray none (some (-1)) none).toList xs.dropLast := by
  rw [slice_m1 vs k, List.toList_toArray]
  exact strs_dropLast h
theorem strs_m0 {vs : List Value} {xs : List Str} (h : StrsAre vs xs) : StrsAre vs.toArray.toList xs := h
theorem size_m1 {vs : List Value} (k : 1 ≤ vs.length) (h : vs.length ≤ 4002) : (slicePick vs.toArray none (some (-1)) none).size ≤ 16777216 := by
  rw [slice_m1 vs k, List.size_toArray, List.length_dropLast]; omega
theorem size_m0 {vs : List Value} (h : vs.length ≤ 4002) : vs.toArray.size ≤ 16777216 := by
  rw [List.size_toArray]; omega
def partsS (x : Str) : List Str := let l := Txt.split x (Str.ofString "\ue000"); if l.getLast? == some (Str.ofString "") then l.dropLast else l
def itemsS (x : Str) : List Str := (partsS x).map Txt.strip
theorem flat_one {α β : Type} (f : α → β) (l : List α) : (l.flatMap fun x => [f x]) = l.map f := by induction l with
    | nil => rfl
    | cons a r ih => rw [List.flatMap_cons, ih]; rfl
theorem parts_a {x z : Str} (h : (Txt.split x (Str.ofString "\ue000")).getLast? = some z) (k : (z == Str.ofString "") = true) : partsS x = (Txt.split x (Str.ofString "\ue000")).dropLast := by
  unfold partsS
  dsimp only
  rw [h, beq_iff_eq.mp k]
  simp
theorem parts_b {x z : Str} (h : (Txt.split x (Str.ofString "\ue000")).getLast? = some z) (k : (z == Str.ofString "") = false) : partsS x = Txt.split x (Str.ofString "\ue000") := by
  unfold partsS
  dsimp only
  rw [h]
  exact if_neg (by rw [Option.some_beq_some, k]; decide)
set_option maxHeartbeats 1000000 in
theorem items_spec {w : World} {s₀ : Shared} {mg mb : Str → Option Value} {A : Around} {s : Shared} {n : Nat} {R : Result → Shared → Prop} (g : Gd w s₀ mg mb s.heap) (r : Room A (n + 2)) (x : Str) (t : Tok) (hx : x.length ≤ 4000)
    (hR : ∀ a (vs : Array Value) e h' tk, s.heap.StaysIn h' → s.heap.get? a = none → h'.get? a = some (W.listOf vs e) → StrsAre vs.toList (itemsS x) → R (.ok (.ret (.ref a))) { s with heap := h', toks := tk }) :
    codeAny (model pw w) A (.call (.ref 112) ⟨[.str x t], []⟩) R s := by
  w_on
  refine g.open ?_
  intro KX X V GL T B TE TW _ _ M
  refine call_def (i := 12) (c := 111) (o := o112 w.params) (pm := .str (Str.ofString "law_ny0220_01") 2223) (binds := [(Str.ofString "text", .str x t)]) g r (by kernel_rfl) (by kernel_rfl) (by kernel_rfl) (by kernel_rfl) (by kernel_rfl) (by kernel_rfl) (by decide +kernel) ?_
  intro h₁ F rA
  have N0 : News s.heap s.heap.objs.size h₁ [] := News.nil
  show wpAny _ _ (execs (_ :: _) _) _ _ _
  k_fold
  repeat' ((fail_if_success (with_reducible show wpAny _ _ (eval (.ListComp _ _ _ _) _) _ _ _)); first | walk1 | (dsimp only; walk1))
  · refine comp_led' (by assumption : Fr s.heap s.heap.objs.size _ _) stripF (by with_unfolding_all rfl) (by decide) (by rfl) (by decide) (by rfl) ?_
    repeat ((fail_if_success (with_reducible show wpAny _ _ (pyIter _) _ _ _)); first | walk1 | (dsimp only; walk1))
    refine laid_list rA.handled (by assumption) (by assumption) (list_in (by k_mem)) ?_
    intro I h' LD
    refine ⟨I, _, _, _, rfl, ?_, LD, elts_plain ?_, ?_⟩
    · rw [sizeLine_eq]; exact size_m1 (by assumption) (by assumption)
    · intro C D oC oI oD i v m₂ ob h tk E' hi hP hC hx2 F' N'
      obtain ⟨y, ty, rfl, ly⟩ := str_at (strs_m1 (by assumption) (by assumption)) (fun z hz => (by assumption : ∀ z ∈ Txt.split x (Str.ofString "\ue000"), z.length ≤ 4000) z (List.dropLast_subset _ hz)) (by rw [Array.getElem?_toList]; exact hP)
      repeat ((fail_if_success (with_reducible show EltEnd _ _ _ _ _ _ _ _ _ _ _)); first | walk1 | (dsimp only; walk1))
      exact eltEnd0 (by assumption) (by assumption) ⟨rfl, _, _, _, rfl, rfl⟩
    · intro D h' tk ys e ob vs hl hv hB F' N' off
      obtain ⟨rfl, hS⟩ := built_texts stripF_ok hB _ (items_of (strs_m1 (by assumption) (by assumption)) hl hv)
      refine hR D ys.toArray e h' tk (Fr.keep F') (News.fresh N' (.head _)) (News.get N' (.head _)) ?_
      rw [List.toList_toArray]
      unfold itemsS
      rw [parts_a (by assumption) (by assumption), ← flat_one]
      exact hS
  · refine comp_led' (by assumption : Fr s.heap s.heap.objs.size _ _) stripF (by with_unfolding_all rfl) (by decide) (by rfl) (by decide) (by rfl) ?_
    repeat ((fail_if_success (with_reducible show wpAny _ _ (pyIter _) _ _ _)); first | walk1 | (dsimp only; walk1))
    refine laid_list rA.handled (by assumption) (by assumption) (list_in (by k_mem)) ?_
    intro I h' LD
    refine ⟨I, _, _, _, rfl, ?_, LD, elts_plain ?_, ?_⟩
    · rw [sizeLine_eq]; exact size_m0 (by assumption)
    · intro C D oC oI oD i v m₂ ob h tk E' hi hP hC hx2 F' N'
      obtain ⟨y, ty, rfl, ly⟩ := str_at (strs_m0 (by assumption)) (by assumption) (by rw [Array.getElem?_toList]; exact hP)
      repeat ((fail_if_success (with_reducible show EltEnd _ _ _ _ _ _ _ _ _ _ _)); first | walk1 | (dsimp only; walk1))
      exact eltEnd0 (by assumption) (by assumption) ⟨rfl, _, _, _, rfl, rfl⟩
    · intro D h' tk ys e ob vs hl hv hB F' N' off
      obtain ⟨rfl, hS⟩ := built_texts stripF_ok hB _ (items_of (strs_m0 (by assumption)) hl hv)
      refine hR D ys.toArray e h' tk (Fr.keep F') (News.fresh N' (.head _)) (News.get N' (.head _)) ?_
      rw [List.toList_toArray]
      unfold itemsS
      rw [parts_b (by assumption) (by assumption), ← flat_one]
      exact hS
end
section
local macro_rules | `(tactic| walk_at "call ref") => `(tactic| first
  | (refine map_call (by assumption) (by assumption) (by assumption) (by assumption) ?_; intro u' h' tk' F' N'; dsimp only)
  | (refine b1_call (by assumption) (by assumption) (by assumption) (by assumption) ?_; intro h' tk' F' N'; dsimp only))
def prepF (v : Value) (l : List Value) (obs : List (Addr × Obj)) : Prop := obs = [] ∧ ∃ c t, v = .str ⟨#[c]⟩ t ∧ ((inB1 (c : Nat) = true ∧ l = []) ∨ (inB1 (c : Nat) = false ∧ ∃ u, l = [.str (foldS c) u]))
def prepL (c : Nat) : List Str := if inB1 c then [] else [foldS c]
theorem prepF_ok : ∀ v c l obs, prepF v l obs → SignV v c → obs = [] ∧ StrsAre l (prepL c) := by
  rintro v c l obs ⟨rfl, d, t, rfl, h⟩ ⟨u', e⟩
  have : d = c := by
    cases e; rfl
  subst this
  refine ⟨rfl, ?_⟩
  unfold prepL
  rcases h with ⟨h, rfl⟩ | ⟨h, u, rfl⟩
  · rw [h]; exact .nil
  · rw [h]; exact .cons _ _ .nil
def preparedS (x : Str) : Str := ⟨(x.cps.toList.flatMap fun c => (prepS c).cps.toList).toArray⟩
theorem glue_fold : ∀ (l : List Str) (a : Array Nat), (l.foldl (fun acc p => acc ++ (⟨#[]⟩ : Str).cps ++ p.cps) a).toList = a.toList ++ l.flatMap fun y => y.cps.toList
  | [], a => by simp
  | y :: l, a => by
    rw [List.foldl_cons, glue_fold l, List.flatMap_cons]
    simp
theorem join_nil (ys : List Str) : (Txt.join ⟨#[]⟩ ys).cps.toList = ys.flatMap fun y => y.cps.toList := by
  cases ys with
  | nil => rfl
  | cons y r => exact (glue_fold r y.cps).trans (by rw [List.flatMap_cons])
theorem flat_prep (l : List Nat) : ((l.flatMap prepL).flatMap fun y => y.cps.toList) = l.flatMap fun c => (prepS c).cps.toList := by
  induction l with
  | nil => rfl
  | cons c r ih =>
    rw [List.flatMap_cons, List.flatMap_append, ih, List.flatMap_cons]
    congr 1
    unfold prepL prepS
    split
    · rfl
    · simp
theorem join_prep (x : Str) : Txt.join (Str.ofString "") (x.cps.toList.flatMap prepL) = preparedS x := by
  rw [str_nil]
  refine Str.ext' (Array.ext' ?_)
  rw [join_nil, flat_prep]
  rfl
theorem prep_weight (l : List Nat) : ((l.flatMap prepL).map (·.length)).sum + (l.flatMap prepL).length ≤ 5 * l.length := by
  induction l with
  | nil => simp
  | cons c r ih =>
    rw [List.flatMap_cons, List.map_append, List.sum_append, List.length_append, List.length_cons]
    have : ((prepL c).map (·.length)).sum + (prepL c).length ≤ 5 := by
      unfold prepL
      split
      · simp
      · have := fold_len c
        simp; omega
    omega
theorem join_led {w : World} {A : Around} {E : Value → Shared → Prop} {s : Shared} {h₀ : Heap} {L : Addr} {news : List (Addr × Obj)} {Q : Value → Shared → Prop} {a : Addr} {ys : List Value} {e : Nat} {x : Str} {t : Tok} (N : News h₀ L s.heap ((a, W.listOf ys.toArray e) :: news)) (hS : StrsAre ys (x.cps.toList.flatMap prepL)) (hx : x.length ≤ 4000)
    (h : ∀ u tk, Q (.str (preparedS x) u) { s with toks := tk }) : wpAny (model pw w) A (call (.builtin "str.join") [.str (Str.ofString "") t, .ref a]) Q E s := by
  refine join_listW (ys := x.cps.toList.flatMap prepL) (News.isList N (.head _)) (by simpa using hS) (by decide +kernel) ?_ ?_
  · have e1 := prep_weight x.cps.toList
    have e2 : x.cps.toList.length = x.length := by simp [Str.length]
    omega
  · intro t' k
    rw [join_prep]
    exact h t' k
set_option maxHeartbeats 1000000 in
theorem prepared_spec {w : World} {s₀ : Shared} {mg mb : Str → Option Value} {A : Around} {s : Shared} {n : Nat} {R : Result → Shared → Prop} (g : Gd w s₀ mg mb s.heap) (r : Room A (n + 2)) (x : Str) (t : Tok) (hx : x.length ≤ 4000)
    (hR : ∀ u h' tk, s.heap.StaysIn h' → R (.ok (.ret (.str (preparedS x) u))) { s with heap := h', toks := tk }) :
    codeAny (model pw w) A (.call (.ref 100) ⟨[.str x t], []⟩) R s := by
  w_on
  refine g.open ?_
  intro KX X V GL T B TE TW _ _ M
  refine call_def (i := 10) (c := 99) (o := o100 w.params) (pm := .str (Str.ofString "law_ny0220_01") 2223) (binds := [(Str.ofString "text", .str x t)]) g r (by kernel_rfl) (by kernel_rfl) (by kernel_rfl) (by kernel_rfl) (by kernel_rfl) (by kernel_rfl) (by decide +kernel) ?_
  intro h₁ F rA
  have N0 : News s.heap s.heap.objs.size h₁ [] := News.nil
  show wpAny _ _ (execs (_ :: _) _) _ _ _
  k_fold
  repeat' ((fail_if_success (with_reducible show wpAny _ _ (eval (.ListComp _ _ _ _) _) _ _ _)); first | walk1 | (dsimp only; walk1))
  refine comp_led' (by assumption : Fr s.heap s.heap.objs.size _ _) prepF (by with_unfolding_all rfl) (by decide) (by rfl) (by decide) (by rfl) ?_
  repeat ((fail_if_success (with_reducible show wpAny _ _ (pyIter _) _ _ _)); first | walk1 | (dsimp only; walk1))
  refine laid_text rA.handled (by assumption) (by assumption) ?_
  intro I h' LD
  refine ⟨I, _, _, _, rfl, ?_, LD, elts_test ?_, ?_⟩
  · rw [sizeLine_eq]; exact Nat.le_trans hx (by decide)
  · intro C D oC oI oD i v m₂ ob h tk E' hi hP hC hx2 F' N'
    obtain ⟨c, u, _, rfl⟩ := hP
    repeat' ((fail_if_success (with_reducible show EltEnd _ _ _ _ _ _ _ _ _ _ _)); first | walk1 | (dsimp only; walk1))
    · exact eltEnd0 (by assumption) (by assumption) ⟨rfl, c, u, rfl, .inl ⟨by assumption, rfl⟩⟩
    · exact eltEnd0 (by assumption) (by assumption) ⟨rfl, c, u, rfl, .inr ⟨by assumption, _, rfl⟩⟩
  · intro D h' tk ys e ob vs hl hv hB F' N' off
    obtain ⟨rfl, hS⟩ := built_texts prepF_ok hB _ (signs_of hl hv)
    repeat' ((fail_if_success (with_reducible show wpAny _ _ (call (.builtin _) _) _ _ _)); first | walk1 | (dsimp only; walk1))
    exact join_led N' hS hx fun u tk => hR u h' tk (Fr.keep F')
end
section
section
variable {w : World} {A : Around} {E : Value → Shared → Prop} {s : Shared} {h₀ : Heap} {L : Addr} {m : Str → Option Value} {news : List (Addr × Obj)} {Q : Value → Shared → Prop}
theorem strs_eqAt {s : Shared} {A : Around} : ∀ {vs ws : List Value} {xs : List Str}, StrsAre vs xs → StrsAre ws xs → vs.length = ws.length ∧ ∀ j (h1 : j < vs.length) (h2 : j < ws.length), SeqAt.EqAt A s vs[j] ws[j] true
  | _, _, _, .nil, .nil => ⟨rfl, fun j h => absurd h (Nat.not_lt_zero _)⟩
  | _, _, _, .cons y t h, .cons _ u k => by
    obtain ⟨e, r⟩ := strs_eqAt (s := s) (A := A) h k
    refine ⟨by simp [e], fun j h1 h2 => ?_⟩
    cases j with
    | zero => simpa using SeqAt.EqAt.str_str (A := A) (s := s) y t y u
    | succ j => exact r j (by simpa using h1) (by simpa using h2)
theorem all_true (n : Nat) : (List.range n).all (fun _ => true) = true := by simp
theorem eq_texts {a b : Addr} {its its2 : Array Value} {xs : List Str} (hl : s.heap.IsList a its) (hb : s.heap.IsList b its2) (h1 : StrsAre its.toList xs) (h2 : StrsAre its2.toList xs) (hu : A.units < cLine) (h : Q (.bool true) s) : wpAny (model pw w) A (compareOp .Eq (.ref a) (.ref b)) Q E s := by
  obtain ⟨e, r⟩ := strs_eqAt (s := s) (A := A.in1) h1 h2
  refine SeqAt.RcAt.lists (e := fun _ => true) hl hb (by simpa using e) hu (fun j h1 h2 => by have q := r j (by simpa using h1) (by simpa using h2); rwa [Array.getElem_toList, Array.getElem_toList] at q) pw w E Q ?_
  rw [all_true]; exact h
theorem ne_texts {a b : Addr} {its its2 : Array Value} {xs : List Str} (hl : s.heap.IsList a its) (hb : s.heap.IsList b its2) (h1 : StrsAre its.toList xs) (h2 : StrsAre its2.toList xs) (hu : A.units < cLine) (h : Q (.bool false) s) : wpAny (model pw w) A (compareOp .NotEq (.ref a) (.ref b)) Q E s := by
  obtain ⟨e, r⟩ := strs_eqAt (s := s) (A := A.in1) h1 h2
  refine SeqAt.RcNeAt.lists (e := fun _ => true) hl hb (by simpa using e) hu (fun j h1 h2 => by have q := r j (by simpa using h1) (by simpa using h2); rwa [Array.getElem_toList, Array.getElem_toList] at q) pw w E Q ?_
  rw [all_true]; exact h
theorem eq_bools {a b : Addr} {bs : List Bool} (hl : s.heap.IsList a (bs.map Value.bool).toArray) (hb : s.heap.IsList b (bs.map Value.bool).toArray) (hu : A.units < cLine) (h : Q (.bool true) s) : wpAny (model pw w) A (compareOp .Eq (.ref a) (.ref b)) Q E s := by
  refine SeqAt.RcAt.lists (e := fun _ => true) hl hb rfl hu (fun j h1 h2 => ?_) pw w E Q ?_
  · have : (bs.map Value.bool).toArray[j] = .bool (bs[j]'(by simpa using h1)) := by simp
    rw [this]
    simpa using SeqAt.EqAt.bool_bool (A := A.in1) (s := s) (bs[j]'(by simpa using h1)) (bs[j]'(by simpa using h1))
  · rw [all_true]; exact h
end
def boolF (f : Nat → Bool) (v : Value) (l : List Value) (obs : List (Addr × Obj)) : Prop := obs = [] ∧ ∃ c t, v = .str ⟨#[c]⟩ t ∧ l = [.bool (f c)]
theorem boolF_ok {f : Nat → Bool} : ∀ v c l obs, boolF f v l obs → SignV v c → obs = [] ∧ l = [Value.bool (f c)] := by
  rintro v c l obs ⟨rfl, d, t, rfl, rfl⟩ ⟨u', e⟩
  have : d = c := by cases e; rfl
  subst this
  exact ⟨rfl, rfl⟩
def noneF (_ : Value) (l : List Value) (obs : List (Addr × Obj)) : Prop := obs = [] ∧ l = []
theorem built_none {vs ys : List Value} {ob : List (Addr × Obj)} (h : Built noneF vs ys ob) : ob = [] ∧ ys = [] := by
  induction h with
  | nil => exact ⟨rfl, rfl⟩
  | snoc _ hv ih =>
    obtain ⟨rfl, rfl⟩ := ih
    obtain ⟨rfl, rfl⟩ := hv
    exact ⟨rfl, rfl⟩
theorem bools_of {f : Nat → Bool} {x : Str} {vs ys : List Value} {ob : List (Addr × Obj)} (hB : Built (boolF f) vs ys ob) (hl : vs.length = x.cps.size) (hv : ∀ (j : Nat) v, vs[j]? = some v → SignAt x j v) : ob = [] ∧ ys = (x.cps.toList.map f).map Value.bool := by
  obtain ⟨e1, e2⟩ := built_vals (g := fun c => [Value.bool (f c)]) boolF_ok hB _ (signs_of hl hv)
  refine ⟨e1, ?_⟩
  rw [e2, flat_one, List.map_map]; rfl
theorem bool_at {bs : List Bool} {i : Nat} {v : Value} (h : (bs.map Value.bool).toArray[i]? = some v) : ∃ b, v = .bool b := by
  have : (bs.map Value.bool)[i]? = some v := by simpa using h
  rw [List.getElem?_map] at this
  cases q : bs[i]? with
  | none => rw [q] at this; cases this
  | some b => rw [q] at this; cases this; exact ⟨b, rfl⟩
section
variable {w : World} {s₀ : Shared} {mg mb : Str → Option Value} {A : Around} {E : Value → Shared → Prop} {s : Shared} {n : Nat} {h₀ : Heap} {L : Addr} {m : Str → Option Value} {news : List (Addr × Obj)} {Q : Value → Shared → Prop}
theorem off_all {h₀ h : Heap} {L a : Addr} {news : List (Addr × Obj)} (N : News h₀ L h news) (hn : h.get? a = none) : ∀ p ∈ news, p.1 ≠ a := fun p hp q => by
  have := (N p hp).1
  rw [q, hn] at this; cases this
theorem nothing_call2 (g : Gd w s₀ mg mb h₀) (F : Fr h₀ L s.heap m) (N : News h₀ L s.heap news) (r : Room A (n + 1))
    (h : ∀ a (vs : List Value) e h' tk, Fr h₀ L h' m → News h₀ L h' ((a, W.listOf vs.toArray e) :: news) → IntsAre vs b1L → (∀ p ∈ news, p.1 ≠ a) → Q (.ref a) { s with heap := h', toks := tk }) : wpAny (model pw w) A (call (.ref 90) []) Q E s :=
  wpAny_call (nothing_spec (g.keeps F.keep) r fun a vs e h' tk k hn ho hI => h a vs e h' tk (fr_stays F k) (news_new F N k hn ho) hI (off_all N hn))
theorem store_nothing {a D1 : Addr} {oa oD o1 : Obj} {x1 x2 : Addr × Obj} {u : Option Value} {v : Value} {Q : Unit → Shared → Prop} (F : Fr h₀ L s.heap m) (N : News h₀ L s.heap [(a, oa), x1, x2, (D1, oD), (L + 1, o1)]) (offa : ∀ p ∈ [x1, x2, (D1, oD), (L + 1, o1)], p.1 ≠ a) (offD : ∀ p ∈ [] ++ [(L + 1, o1)], p.1 ≠ D1) (d : o1.data = .cell u)
    (h : ∀ h' o', Fr h₀ L h' m → News h₀ L h' [(a, oa), (D1, oD), (L + 1, o')] → o'.data = .cell (some v) → Q () { s with heap := h' }) :
    wpAny (model pw w) A (storeName (envOfC (nameOf 9) (scopeOf 9) L 95 (.ref 94)) (Str.ofString "nothing") v) Q E s := by
  have na := N (a, oa) (.head _)
  have nD := N (D1, oD) (.tail _ (.tail _ (.tail _ (.head _))))
  have nc := N (L + 1, o1) (.tail _ (.tail _ (.tail _ (.tail _ (.head _)))))
  refine wpAny_storeName_cell (c := L + 1) (v₀ := u) (by rfl) (by rfl) (by rfl) ⟨o1, nc.1, d⟩ fun h' hc hs => ?_
  obtain ⟨o', e', d'⟩ := hc
  have k : ∀ b o, b ≠ L + 1 → s.heap.get? b = some o → h'.get? b = some o := fun b o hb q => hs.extBut b o hb q
  refine h h' o' ⟨F.ns.at' fun o q => k _ o (Nat.ne_of_lt (Nat.lt_succ_self _)) q, fun b o q => k b o (fun z => by have := nc.2.2; rw [z] at q; dsimp only at this; rw [this] at q; cases q) (F.keep b o q), F.above⟩ ?_ d'
  intro p hp
  rcases List.mem_cons.mp hp with rfl | hp
  · exact ⟨k _ _ (Ne.symm (offa (L + 1, o1) (.tail _ (.tail _ (.tail _ (.head _)))))) na.1, na.2⟩
  rcases List.mem_cons.mp hp with rfl | hp
  · exact ⟨k _ _ (Ne.symm (offD (L + 1, o1) (.head _))) nD.1, nD.2⟩
  rcases List.mem_cons.mp hp with rfl | hp
  · exact ⟨e', nc.2⟩
  · nomatch hp
end
local macro_rules | `(tactic| walk_at "compareOp In") => `(tactic| refine in_list_ints (News.isList (by assumption) (by k_mem)) (by assumption) ?_)
local macro_rules | `(tactic| walk_at "storeName") => `(tactic| (refine store_nothing (by assumption) (by assumption) (by assumption) (by assumption) (by assumption) ?_; intro h' o' F' N' d'; dsimp only))
local macro_rules | `(tactic| walk_at "compareOp NotEq ref ref") => `(tactic| (refine ne_texts (xs := []) (News.isList (by assumption) (by k_mem)) (News.isList (by assumption) (by k_mem)) .nil .nil (Nat.lt_of_le_of_lt (Nat.le_add_right _ _) (Room.units (by assumption))) ?_; dsimp only))
local macro_rules | `(tactic| walk_at "call ref") => `(tactic| first
  | (refine nothing_call2 (by assumption) (by assumption) (by assumption) (by assumption) ?_; intro a' vs' e' h' tk' F' N' hI' off'; dsimp only)
  | (refine b1_call (by assumption) (by assumption) (by assumption) (by assumption) ?_; intro h' tk' F' N'; dsimp only))
set_option maxHeartbeats 1000000 in
theorem held_spec {w : World} {s₀ : Shared} {mg mb : Str → Option Value} {A : Around} {s : Shared} {n : Nat} {R : Result → Shared → Prop} (g : Gd w s₀ mg mb s.heap) (r : Room A (n + 2)) (x : Str) (t : Tok) (hx : x.length ≤ 4000)
    (hR : ∀ h' tk, s.heap.StaysIn h' → R (.ok (.ret (.bool true))) { s with heap := h', toks := tk }) :
    codeAny (model pw w) A (.call (.ref 95) ⟨[.str x t], []⟩) R s := by
  w_on
  refine g.open ?_
  intro KX X V GL T B TE TW _ _ M
  refine call_defC (i := 9) (c := 94) (o := o95 w.params) (pm := .str (Str.ofString "law_ny0220_01") 2223) (binds := [(Str.ofString "text", .str x t)]) g r (by kernel_rfl) (by kernel_rfl) (by kernel_rfl) (by kernel_rfl) (by kernel_rfl) (by kernel_rfl) (by decide +kernel) ?_
  intro h₁ tk cells F N0 Y rA
  have e : cellsFrom (s.heap.objs.size + 1) (scopeOf 9).names [] = [(Str.ofString "nothing", s.heap.objs.size + 1)] := by rfl
  rw [e] at Y
  obtain ⟨o1, rfl, d1⟩ := Y.one
  clear Y e
  show wpAny _ _ (execs (_ :: _) _) _ _ _
  k_fold
  repeat ((fail_if_success (with_reducible show wpAny _ _ (exec (.Assign _ (.ListComp _ _ _ _) _) _) _ _ _)); first | walk1 | (dsimp only; walk1))
  refine comp_ledA' (by assumption : Fr s.heap s.heap.objs.size _ _) (boolF fun c => inB1 c) (by with_unfolding_all rfl) (by with_unfolding_all rfl) (by decide) (by rfl) (by decide) (by rfl) (by rfl) (by rfl) (by rfl) ?_
  repeat ((fail_if_success (with_reducible show wpAny _ _ (pyIter _) _ _ _)); first | walk1 | (dsimp only; walk1))
  refine laid_text rA.handled (by assumption) (by assumption) ?_
  intro I h' LD
  refine ⟨I, _, _, _, rfl, ?_, LD, elts_plain ?_, ?_⟩
  · rw [sizeLine_eq]; exact Nat.le_trans hx (by decide)
  · intro C D oC oI oD i v m₂ ob h tk E' hi hP hC hx2 F' N'
    obtain ⟨c, u, _, rfl⟩ := hP
    repeat' ((fail_if_success (with_reducible show EltEnd _ _ _ _ _ _ _ _ _ _ _)); first | walk1 | (dsimp only; walk1))
    exact eltEnd0 (by assumption) (by assumption) ⟨rfl, c, u, rfl, rfl⟩
  · intro D1 h' tk ys e ob vs hl hv hB F' N' off
    obtain ⟨rfl, rfl⟩ := bools_of hB hl hv
    clear hB hl hv
    dsimp only [List.nil_append] at N'
    repeat ((fail_if_success (with_reducible show wpAny _ _ (eval (.ListComp _ _ _ _) _) _ _ _)); first | walk1 | (dsimp only; walk1))
    refine comp_led' (by assumption : Fr s.heap s.heap.objs.size _ _) noneF (by with_unfolding_all rfl) (by decide) (by rfl) (by decide) (by rfl) ?_
    repeat ((fail_if_success (with_reducible show wpAny _ _ (pyIter _) _ _ _)); first | walk1 | (dsimp only; walk1))
    refine laid_list rA.handled (by assumption) (by assumption) (list_in (by k_mem)) ?_
    intro I2 h2 LD2
    refine ⟨I2, _, _, _, rfl, ?_, LD2, elts_test ?_, ?_⟩
    · rw [sizeLine_eq]; simpa [Str.length] using Nat.le_trans hx (by decide)
    · intro C D oC oI oD i v m₂ ob h tk E' hi hP hC hx2 F' N'
      obtain ⟨b, rfl⟩ := bool_at hP
      repeat' ((fail_if_success (with_reducible show EltEnd _ _ _ _ _ _ _ _ _ _ _)); first | walk1 | (dsimp only; walk1))
      exact eltEnd0 (by assumption) (by assumption) ⟨rfl, rfl⟩
    · intro D2 h2 tk2 ys2 e2 ob2 vs2 hl2 hv2 hB2 F2 N2 off2
      obtain ⟨rfl, rfl⟩ := built_none hB2
      clear hB2 hl2 hv2
      dsimp only [List.nil_append] at N2
      repeat' ((fail_if_success (with_reducible show wpAny _ _ (eval (.ListComp _ _ _ _) _) _ _ _)); first | walk1 | (dsimp only; walk1))
      refine comp_led' (by assumption : Fr s.heap s.heap.objs.size _ _) (boolF fun c => b1L.any fun y => y == (c : Int)) (by with_unfolding_all rfl) (by decide) (by rfl) (by decide) (by rfl) ?_
      repeat ((fail_if_success (with_reducible show wpAny _ _ (pyIter _) _ _ _)); first | walk1 | (dsimp only; walk1))
      refine laid_text rA.handled (by assumption) (by assumption) ?_
      intro I3 h3 LD3
      refine ⟨I3, _, _, _, rfl, ?_, LD3, elts_plain2 ?_, ?_⟩
      · rw [sizeLine_eq]; exact Nat.le_trans hx (by decide)
      · intro C D oC oI oD i v m₂ ob h tk E' hi hP hC hx2 F' N'
        obtain ⟨c, u, _, rfl⟩ := hP
        simp only [List.cons_append, List.nil_append] at N'
        repeat' ((fail_if_success (with_reducible show EltEnd _ _ _ _ _ _ _ _ _ _ _)); first | walk1 | (dsimp only; walk1))
        exact eltEnd0 (by assumption) (by assumption) ⟨rfl, c, u, rfl, rfl⟩
      · intro D3 h3 tk3 ys3 e3 ob3 vs3 hl3 hv3 hB3 F3 N3 off3
        obtain ⟨rfl, rfl⟩ := bools_of hB3 hl3 hv3
        clear hB3 hl3 hv3
        dsimp only [List.nil_append] at N3
        repeat' ((fail_if_success (with_reducible show wpAny _ _ (compareOp _ _ _) _ _ _)); first | walk1 | (dsimp only; walk1))
        have eb : (fun c : Nat => b1L.any fun y => y == (c : Int)) = fun c : Nat => inB1 (c : Int) := funext fun c => (inB1_any c).symm
        rw [eb] at N3
        exact eq_bools (bs := x.cps.toList.map fun c : Nat => inB1 (c : Int)) (News.isList N3 (.tail _ (.tail _ (.head _)))) (News.isList N3 (.head _)) (Nat.lt_of_le_of_lt (Nat.le_add_right _ _) rA.units) (hR _ _ (Fr.keep F3))
end
section
section
variable {prog : Program} {w : World} {A : Around} {E : Value → Shared → Prop} {s : Shared} {env : Env} {h₀ : Heap} {L : Addr} {body : List Stmt} {Q : Flow → Shared → Prop}
/-- how a turn of a loop with an unpacking target ends -/
def TurnEnd {σ : Type} (h₀ : Heap) (L : Addr) (led : List (Addr × Obj)) (ps : σ → List (Str × Value)) (Inv : σ → Prop) (s : Shared) (f : Flow) (s₃ : Shared) : Prop :=
  f = .next ∧ ∃ c h' tk' m', s₃ = { s with heap := h', toks := tk' } ∧ Fr h₀ L h' m' ∧ News h₀ L h' led ∧ (∀ p ∈ ps c, m' p.1 = some p.2) ∧ Inv c
theorem pairLoop {σ : Type} {elts : List Expr} {x1} {pt : Pos} {a : Addr} {its : Array Value} {base : List (Addr × Obj)} {m₀ : Str → Option Value} (ps : σ → List (Str × Value)) (Inv : Nat → σ → Prop) (c₀ : σ)
    (hh : A.handled = none) (F : Fr h₀ L s.heap m₀) (N : News h₀ L s.heap base) (hl : ∀ h', News h₀ L h' base → h'.IsList a its) (hr : ∀ (i : Nat) (v : Value), its[i]? = some v → ∃ T, v = .ref T) (hk : ∀ p ∈ ps c₀, m₀ p.1 = some p.2) (hj : Inv 0 c₀)
    (turn : ∀ (i : Nat) (v : Value) c u h tk I oI E', its[i]? = some v → Inv i c → Fr h₀ L h (kstB u (ps c)) → News h₀ L h ((I, oI) :: base) →
      wpAny (model prog w) A (assign (.Tuple elts x1 pt) env v) (fun _ s₂ => wpAny (model prog w) A (execs body env) (TurnEnd h₀ L ((I, oI) :: base) ps (Inv (i + 1)) s) E' s₂) E' { s with heap := h, toks := tk })
    (done : ∀ c u h tk, Inv its.size c → Fr h₀ L h (kstB u (ps c)) → News h₀ L h base → Q .next { s with heap := h, toks := tk }) :
    wpAny (model prog w) A (pyIter (.ref a)) (fun it s₂ => codeAny (model prog w) A (.forLoop (.Tuple elts x1 pt) it body [] env) (fun r s' => match r with | .ok f => Q f s' | .error e => cameBackBy (model prog w) A env E e s') s₂) E s := by
  have hls := hl _ N
  obtain ⟨ol, hol, _⟩ := id hls
  have hne : a ≠ s.heap.objs.size := Nat.ne_of_lt (Heap.lt_size hol)
  refine wpAny_pyIter_list hls ?_
  generalize hI : s.heap.objs.size = I at hne
  have nI : h₀.get? I = none := hI ▸ next_is_new F
  have hIL : I ≠ L := hI ▸ Ne.symm (Nat.ne_of_lt F.ns.lt)
  have offI : ∀ p ∈ base, p.1 ≠ I := fun p hp => hI ▸ Nat.ne_of_lt (Heap.lt_size (N p hp).1)
  have W := Walks.list (prog := prog) (w := w) hh I a hne its
  have w1 : ∀ b : Addr, b ≠ I → b ∉ [I] := fun b hb => by simpa using hb
  have keepF : ∀ {ha hb : Heap} {m : Str → Option Value}, Fr h₀ L ha m → (∀ b o, b ≠ I → ha.get? b = some o → hb.get? b = some o) → Fr h₀ L hb m := fun F' k =>
    ⟨F'.ns.at' fun o e => k _ o (Ne.symm hIL) e, fun b o e => k b o (fun q => by rw [q, nI] at e; cases e) (F'.keep b o e), F'.above⟩
  have keepN : ∀ {ha hb : Heap}, News h₀ L ha base → (∀ b o, b ≠ I → ha.get? b = some o → hb.get? b = some o) → News h₀ L hb base := fun N' k p hp => ⟨k _ _ (offI p hp) (N' p hp).1, (N' p hp).2⟩
  have N₁ : ∀ o, News h₀ L (s.heap.push o) base := fun o p hp => ⟨Heap.get?_push_of_some _ (N p hp).1, (N p hp).2⟩
  refine codeAny_forLoop_any
    (fun k s' => ∃ h' tk m' i c, s' = { s with heap := h', toks := tk } ∧ h'.IsListIter I a i ∧ Fr h₀ L h' m' ∧ News h₀ L h' base ∧ (∀ p ∈ ps c, m' p.1 = some p.2) ∧ Inv i c ∧ i ≤ its.size ∧ k = its.size + 1 - i) ?_ (its.size + 1)
    ⟨_, _, m₀, 0, c₀, rfl, ⟨_, hI ▸ Heap.get?_push_size _ rfl, rfl, rfl⟩, F.push _, N₁ _, hk, hj, Nat.zero_le _, rfl⟩
  rintro k s' ⟨H, tk, m', i, c, rfl, hit, F', N', hk', hJ, hi, rfl⟩
  by_cases hlt : i < its.size
  · refine W.item i _ _ _ hlt ⟨hit, hl _ N'⟩ fun v h₁ tk₁ hPv hst₁ hk₁ => ?_
    have k₁ : ∀ b o, b ≠ I → H.get? b = some o → h₁.get? b = some o := fun b o hb e => hk₁ b o (w1 b hb) e
    obtain ⟨T, rfl⟩ := hr i v hPv
    obtain ⟨oI, eI, rI⟩ := id hst₁.1
    refine wpAny_letOwnedTupleGo_listiter hst₁.1 ?_
    have F₁ := keepF F' k₁
    have N₁ := keepN N' k₁
    refine wpAny_mono (turn i _ c m' h₁ tk₁ I oI _ hPv hJ (by rw [kstB_of hk']; exact F₁) (fun p hp => ?_)) (fun _ s₂ h₂ => wpAny_mono h₂ (fun f s₃ h₃ => ?_) fun _ _ e => e) fun _ _ e => e
    · rcases List.mem_cons.mp hp with rfl | hp
      · exact ⟨eI, hIL, nI⟩
      · exact N₁ p hp
    · obtain ⟨rfl, c', h', tk', m₂, rfl, F₃, N₃, k₃, j₃⟩ := h₃
      exact ⟨its.size + 1 - (i + 1), by omega, h', tk', m₂, i + 1, c', rfl, ⟨oI, (N₃ _ (.head _)).1, rI⟩, F₃, fun p hp => N₃ p (.tail _ hp), k₃, j₃, hlt, rfl⟩
  · have hin : i = its.size := by omega
    subst hin
    refine W.done _ _ _ ⟨hit, hl _ N'⟩ fun h₁ tk₁ hk₁ => wpAny_execs_nil ?_
    have k₁ : ∀ b o, b ≠ I → H.get? b = some o → h₁.get? b = some o := fun b o hb e => hk₁ b o (w1 b hb) e
    exact done c m' h₁ tk₁ hJ (by rw [kstB_of hk']; exact keepF F' k₁) (keepN N' k₁)
end
end
section
/-- what tokens spell, split at their commas -/
def tkStep (f : Nat → Str) (p : List Str × Str) : Tk → List Str × Str
  | .sign c => (p.1, p.2 ++ f c)
  | .quote => (p.1, p.2 ++ ⟨#[34]⟩)
  | .comma => (p.1 ++ [p.2], ⟨#[]⟩)
  | .esc => p
def one (c : Nat) : Str := ⟨#[c]⟩
def tkRun (f : Nat → Str) (ts : List Tk) : List Str × Str := ts.foldl (tkStep f) ([], ⟨#[]⟩)
def cut (p : List Str × Str) : List Str := if p.2 == ⟨#[]⟩ then p.1 else p.1 ++ [p.2]
theorem parts_cut (x : Str) : partsS x = cut (spRun 57344 x) := by
  unfold partsS cut
  rw [str_e0, split_fold, str_nil]
  dsimp only
  rw [List.getLast?_concat, List.dropLast_concat]
  by_cases h : (spRun 57344 x).2 = ⟨#[]⟩
  · rw [h, if_pos (by simp), if_pos (by simp)]
  · rw [if_neg (by simpa using h), if_neg (by simpa using h)]
theorem items_cut (x : Str) : itemsS x = (cut (spRun 57344 x)).map Txt.strip := by
  unfold itemsS
  rw [parts_cut]
theorem parse_cut (x : Str) : parseS x = (cut ((paRun x.cps.toList).rs, (paRun x.cps.toList).p)).map Txt.strip := rfl
/-- a sign that is none of the law's two marks -/
def Tk.good : Tk → Prop
  | .sign c => c ≠ 57344 ∧ c ≠ 57345
  | _ => True
theorem next_good {a b : St} {t : Tk} (h : a.next t = some b) : t.good := by
  cases t with
  | sign c =>
    by_cases h0 : c = 57344
    · subst h0; cases a <;> cases h
    · by_cases h1 : c = 57345
      · subst h1; cases a <;> cases h
      · exact ⟨h0, h1⟩
  | _ => trivial
theorem run_cons {a b : St} {t : Tk} {r : List Tk} (h : a.run (t :: r) = some b) : ∃ m, a.next t = some m ∧ m.run r = some b := by
  change (a.next t).bind _ = some b at h
  cases q : a.next t with
  | none => rw [q] at h; cases h
  | some m => rw [q] at h; exact ⟨m, rfl, h⟩
theorem run_good : ∀ {ts : List Tk} {a b : St}, a.run ts = some b → ∀ t ∈ ts, t.good
  | [], _, _, _, t, ht => by cases ht
  | x :: r, a, b, h, t, ht => by
    obtain ⟨m, h1, h2⟩ := run_cons h
    rcases List.mem_cons.mp ht with rfl | ht
    · exact next_good h1
    · exact run_good h2 t ht
theorem told_run : ∀ (ts : List Tk) (p : List Str × Str), (∀ t ∈ ts, t.good) → ((ts.map Tk.told).filter (· != 57345)).foldl (spStep 57344) p = ts.foldl (tkStep one) p
  | [], _, _ => rfl
  | t :: r, p, h => by
    have ih := fun p => told_run r p fun t ht => h t (.tail _ ht)
    have hg := h t (.head _)
    rw [List.map_cons, List.foldl_cons]
    cases t with
    | esc => exact ih p
    | comma => exact ih _
    | quote => exact ih _
    | sign c =>
      have h1 : (c != 57345) = true := bne_iff_ne.mpr hg.2
      have h2 : (c == 57344) = false := beq_eq_false_iff_ne.mpr hg.1
      show ((c :: r.map Tk.told).filter _).foldl _ _ = _
      rw [List.filter_cons_of_pos (p := fun x => x != 57345) h1, List.foldl_cons, ih]
      unfold spStep
      rw [h2]
      rfl
theorem mk_toList (x : Str) : (⟨x.cps.toList.toArray⟩ : Str) = x := rfl
theorem meant_run : ∀ (ts : List Tk) (p : List Str × Str), (∀ t ∈ ts, t.good) → (ts.flatMap Tk.meant).foldl (spStep 57344) p = ts.foldl (tkStep prepS) p
  | [], _, _ => rfl
  | t :: r, p, h => by
    have ih := fun p => meant_run r p fun t ht => h t (.tail _ ht)
    have hg := h t (.head _)
    rw [List.flatMap_cons, List.foldl_cons, List.foldl_append, ih]
    congr 1
    cases t with
    | esc => rfl
    | comma => rfl
    | quote => rfl
    | sign c => exact sp_free 57344 _ p (prep_marks (by decide) hg.1)
def St.b : St → Bool
  | .esc => true
  | _ => false
def St.q : St → Bool
  | .out => false
  | _ => true
theorem pa_out : ∀ (l : List Nat) (rs : List Str) (p : Str), 34 ∉ l → 44 ∉ l → l.foldl paStep ⟨rs, p, false, false⟩ = ⟨rs, p ++ ⟨l.toArray⟩, false, false⟩
  | [], rs, p, _, _ => by rw [List.foldl_nil]; rw [show p ++ (⟨([] : List Nat).toArray⟩ : Str) = p from str_app_nil0 p]
  | c :: r, rs, p, h1, h2 => by
    have k1 : (c == 34) = false := beq_eq_false_iff_ne.mpr fun e => h1 (e ▸ .head _)
    have k2 : (c == 44) = false := beq_eq_false_iff_ne.mpr fun e => h2 (e ▸ .head _)
    have e : paStep ⟨rs, p, false, false⟩ c = ⟨rs, p ++ ⟨#[c]⟩, false, false⟩ := by simp [paStep, k1, k2]
    rw [List.foldl_cons, e, pa_out r _ _ (fun m => h1 (.tail _ m)) fun m => h2 (.tail _ m), show p ++ ⟨#[c]⟩ ++ ⟨r.toArray⟩ = p ++ ⟨(c :: r).toArray⟩ from str_ext (by simp [cps_app])]
theorem pa_inq : ∀ (l : List Nat) (rs : List Str) (p : Str), 34 ∉ l → 92 ∉ l → l.foldl paStep ⟨rs, p, false, true⟩ = ⟨rs, p ++ ⟨l.toArray⟩, false, true⟩
  | [], rs, p, _, _ => by rw [List.foldl_nil]; rw [show p ++ (⟨([] : List Nat).toArray⟩ : Str) = p from str_app_nil0 p]
  | c :: r, rs, p, h1, h2 => by
    have k1 : (c == 34) = false := beq_eq_false_iff_ne.mpr fun e => h1 (e ▸ .head _)
    have k2 : (c == 92) = false := beq_eq_false_iff_ne.mpr fun e => h2 (e ▸ .head _)
    have e : paStep ⟨rs, p, false, true⟩ c = ⟨rs, p ++ ⟨#[c]⟩, false, true⟩ := by simp [paStep, k1, k2]
    rw [List.foldl_cons, e, pa_inq r _ _ (fun m => h1 (.tail _ m)) fun m => h2 (.tail _ m), show p ++ ⟨#[c]⟩ ++ ⟨r.toArray⟩ = p ++ ⟨(c :: r).toArray⟩ from str_ext (by simp [cps_app])]
/-- the stricter machine: behind an escape no sign of B.1 -/
def St.next2 (a : St) (t : Tk) : Option St := match a, t with
  | .esc, .sign c => if inB1 c then none else St.next .esc (.sign c)
  | a, t => a.next t
def St.run2 : St → List Tk → Option St
  | s, [] => some s
  | s, t :: r => (s.next2 t).bind fun s' => s'.run2 r
theorem run2_append : ∀ (t u : List Tk) (a : St), a.run2 (t ++ u) = (a.run2 t).bind fun b => b.run2 u
  | [], _, _ => rfl
  | x :: t, u, a => by
    show (a.next2 x).bind _ = ((a.next2 x).bind _).bind _
    cases a.next2 x with
    | none => rfl
    | some b => exact run2_append t u b
theorem run2_cons {a b : St} {t : Tk} {r : List Tk} (h : a.run2 (t :: r) = some b) : ∃ m, a.next2 t = some m ∧ m.run2 r = some b := by
  change (a.next2 t).bind _ = some b at h
  cases q : a.next2 t with
  | none => rw [q] at h; cases h
  | some m => rw [q] at h; exact ⟨m, rfl, h⟩
theorem next_out {c : Nat} {m : St} (h : St.next .out (.sign c) = some m) : m = .out ∧ c ≠ 34 ∧ c ≠ 44 := by
  change (if c == 34 || c == 44 || c == 57344 || c == 57345 then none else some St.out) = some m at h
  split at h
  · cases h
  · rename_i k
    cases h
    simp at k
    exact ⟨rfl, k.1.1.1, k.1.1.2⟩
theorem next_inq {c : Nat} {m : St} (h : St.next .inq (.sign c) = some m) : m = .inq ∧ c ≠ 34 ∧ c ≠ 92 := by
  change (if c == 34 || c == 92 || c == 57344 || c == 57345 then none else some St.inq) = some m at h
  split at h
  · cases h
  · rename_i k
    cases h
    simp at k
    exact ⟨rfl, k.1.1.1, k.1.1.2⟩
theorem next_esc {c : Nat} {m : St} (h : St.next .esc (.sign c) = some m) : (inB1 c = true ∧ m = .esc) ∨ (inB1 c = false ∧ m = .inq) := by
  change (if c == 57344 || c == 57345 then none else if inB1 c then some St.esc else some St.inq) = some m at h
  split at h
  · cases h
  · split at h
    · cases h; exact .inl ⟨by assumption, rfl⟩
    · cases h
      rename_i k
      exact .inr ⟨by simpa using k, rfl⟩
theorem sent_run : ∀ (ts : List Tk) (a b : St) (p : List Str × Str), a.run2 ts = some b → (ts.map Tk.sent).foldl paStep ⟨p.1, p.2, a.b, a.q⟩ = ⟨(ts.foldl (tkStep one) p).1, (ts.foldl (tkStep one) p).2, b.b, b.q⟩
  | [], a, b, p, h => by cases h; rfl
  | t :: r, a, b, p, h => by
    obtain ⟨m, h1, h2⟩ := run2_cons h
    have ih := fun p => sent_run r m b p h2
    rw [List.map_cons, List.foldl_cons, List.foldl_cons, ← ih]
    congr 1
    cases t with
    | comma => cases a <;> cases h1; rfl
    | quote => cases a <;> cases h1 <;> rfl
    | esc => cases a <;> cases h1; rfl
    | sign c =>
      cases a with
      | out =>
        obtain ⟨rfl, k1, k2⟩ := next_out h1
        simp [paStep, St.b, St.q, tkStep, one, Tk.sent, k1, k2]
      | inq =>
        obtain ⟨rfl, k1, k2⟩ := next_inq h1
        simp [paStep, St.b, St.q, tkStep, one, Tk.sent, k1, k2]
      | esc =>
        change (if inB1 c then none else St.next .esc (.sign c)) = some m at h1
        split at h1
        · cases h1
        · rename_i k
          rcases next_esc h1 with ⟨k', _⟩ | ⟨_, rfl⟩
          · exact absurd k' k
          · simp [paStep, St.b, St.q, tkStep, one, Tk.sent]
theorem prep_nil {c : Nat} (h : inB1 c = true) : prepS c = ⟨#[]⟩ := by unfold prepS; rw [h]; rfl
theorem prep_run : ∀ (ts : List Tk) (a b : St) (p : List Str × Str), a.run ts = some b → ((ts.map Tk.sent).flatMap fun c => (prepS c).cps.toList).foldl paStep ⟨p.1, p.2, a.b, a.q⟩ = ⟨(ts.foldl (tkStep prepS) p).1, (ts.foldl (tkStep prepS) p).2, b.b, b.q⟩
  | [], a, b, p, h => by cases h; rfl
  | t :: r, a, b, p, h => by
    obtain ⟨m, h1, h2⟩ := run_cons h
    have ih := fun p => prep_run r m b p h2
    rw [List.map_cons, List.flatMap_cons, List.foldl_append, List.foldl_cons, ← ih]
    congr 1
    cases t with
    | comma =>
      show (prepS 44).cps.toList.foldl _ _ = _
      rw [prep_mark 44 (by decide)]
      cases a <;> cases h1; rfl
    | quote =>
      show (prepS 34).cps.toList.foldl _ _ = _
      rw [prep_mark 34 (by decide)]
      cases a <;> cases h1 <;> rfl
    | esc =>
      show (prepS 92).cps.toList.foldl _ _ = _
      rw [prep_mark 92 (by decide)]
      cases a <;> cases h1; rfl
    | sign c =>
      show (prepS c).cps.toList.foldl _ _ = _
      cases a with
      | out =>
        obtain ⟨rfl, k1, k2⟩ := next_out h1
        exact pa_out _ _ _ (prep_marks (by decide) k1) (prep_marks (by decide) k2)
      | inq =>
        obtain ⟨rfl, k1, k2⟩ := next_inq h1
        exact pa_inq _ _ _ (prep_marks (by decide) k1) (prep_marks (by decide) k2)
      | esc =>
        rcases next_esc h1 with ⟨k, rfl⟩ | ⟨k, rfl⟩
        · have e : tkStep prepS p (.sign c) = p := by show (p.1, p.2 ++ prepS c) = p; rw [prep_nil k, str_app_nil0]
          rw [e, prep_nil k]
          rfl
        · show _ = (⟨p.1, p.2 ++ prepS c, false, true⟩ : Pr)
          have hne := prep_some k
          have h3 : c ≠ 34 → 34 ∉ (prepS c).cps.toList := prep_marks (by decide)
          have h9 : c ≠ 92 → 92 ∉ (prepS c).cps.toList := prep_marks (by decide)
          have e3 : c = 34 → (prepS c).cps.toList = [c] := fun e => by rw [e]; exact prep_mark 34 (by decide)
          have e9 : c = 92 → (prepS c).cps.toList = [c] := fun e => by rw [e]; exact prep_mark 92 (by decide)
          have em : p.2 ++ prepS c = p.2 ++ ⟨(prepS c).cps.toList.toArray⟩ := rfl
          rw [em]
          generalize (prepS c).cps.toList = l at *
          match l, hne with
          | x :: y, _ =>
            have f : paStep ⟨p.1, p.2, true, true⟩ x = ⟨p.1, p.2 ++ ⟨#[x]⟩, false, true⟩ := rfl
            have g : p.2 ++ ⟨#[x]⟩ ++ ⟨y.toArray⟩ = p.2 ++ ⟨(x :: y).toArray⟩ := str_ext (by simp [cps_app])
            rw [List.foldl_cons]
            show y.foldl paStep (paStep ⟨p.1, p.2, true, true⟩ x) = _
            rw [f, ← g]
            by_cases c3 : c = 34
            · cases e3 c3
              exact congrArg (fun z => (⟨p.1, z, false, true⟩ : Pr)) (str_app_nil0 _).symm
            · by_cases c9 : c = 92
              · cases e9 c9
                exact congrArg (fun z => (⟨p.1, z, false, true⟩ : Pr)) (str_app_nil0 _).symm
              · exact pa_inq _ _ _ (fun m => h3 c3 (.tail _ m)) fun m => h9 c9 (.tail _ m)
end
section
def Tk.slash : Tk → Bool
  | .esc => true
  | .sign c => c == 92
  | _ => false
def Tk.b1 : Tk → Bool
  | .sign c => inB1 c
  | _ => false
def mvT (p : List Tk × List Tk × List Tk) (t : Tk) : List Tk × List Tk × List Tk :=
  if t.slash then (p.1, p.2.1, p.2.2 ++ [t]) else if t.b1 then (p.1, p.2.1 ++ [t], p.2.2) else (p.1 ++ (p.2.1 ++ p.2.2 ++ [t]), [], [])
def mvTs (ts : List Tk) : List Tk × List Tk × List Tk := ts.foldl mvT ([], [], [])
def movedT (ts : List Tk) : List Tk := if (mvTs ts).2.2 = [] then (mvTs ts).1 else (mvTs ts).1 ++ (mvTs ts).2.1 ++ (mvTs ts).2.2
def spell (g : Tk → Nat) (ts : List Tk) : Str := ⟨(ts.map g).toArray⟩
theorem spell_app (g : Tk → Nat) (a b : List Tk) : spell g (a ++ b) = spell g a ++ spell g b := str_ext (by simp [spell, cps_app])
theorem spell_mv (g : Tk → Nat) (h1 : ∀ t : Tk, t.good → (g t == 92 || g t == 57345) = t.slash) (h2 : ∀ t : Tk, t.good → inB1 (g t) = t.b1) :
    ∀ (ts : List Tk) (p : List Tk × List Tk × List Tk), (∀ t ∈ ts, t.good) → (ts.map g).foldl mvStep (spell g p.1, spell g p.2.1, spell g p.2.2) = (spell g (ts.foldl mvT p).1, spell g (ts.foldl mvT p).2.1, spell g (ts.foldl mvT p).2.2)
  | [], _, _ => rfl
  | t :: r, p, h => by
    have hg := h t (.head _)
    have ih := fun p => spell_mv g h1 h2 r p fun t ht => h t (.tail _ ht)
    rw [List.map_cons, List.foldl_cons, List.foldl_cons, ← ih]
    congr 1
    unfold mvStep mvT
    rw [h1 t hg, h2 t hg]
    split
    · dsimp only; rw [spell_app]; rfl
    · split
      · dsimp only; rw [spell_app]; rfl
      · dsimp only; rw [spell_app, spell_app, spell_app]; rfl
theorem moved_spell (g : Tk → Nat) (h1 : ∀ t : Tk, t.good → (g t == 92 || g t == 57345) = t.slash) (h2 : ∀ t : Tk, t.good → inB1 (g t) = t.b1) (ts : List Tk) (h : ∀ t ∈ ts, t.good) :
    movedS (spell g ts) = spell g (movedT ts) := by
  have e : mvRun (spell g ts).cps.toList = (spell g (mvTs ts).1, spell g (mvTs ts).2.1, spell g (mvTs ts).2.2) := spell_mv g h1 h2 ts ([], [], []) h
  unfold movedS movedT
  rw [e]
  dsimp only
  generalize mvTs ts = p
  by_cases q : p.2.2 = []
  · rw [if_pos q, q, if_pos (by rfl)]
  · rw [if_neg q, spell_app, spell_app, if_neg]
    intro k
    apply q
    have k : (spell g p.2.2).cps.toList = [] := by rw [beq_iff_eq.mp k]
    simpa [spell] using k
theorem moved_sent (ts : List Tk) (h : ∀ t ∈ ts, t.good) : movedS (sentS ts) = sentS (movedT ts) := by
  refine moved_spell Tk.sent ?_ ?_ ts h
  · intro t hg
    cases t with
    | sign c =>
      have : (c == 57345) = false := beq_eq_false_iff_ne.mpr hg.2
      show (c == 92 || c == 57345) = (c == 92)
      rw [this, Bool.or_false]
    | _ => rfl
  · intro t hg
    cases t with
    | sign c => rfl
    | _ => decide
theorem moved_told (ts : List Tk) (h : ∀ t ∈ ts, t.good) : movedS (toldS ts) = toldS (movedT ts) := by
  refine moved_spell Tk.told ?_ ?_ ts h
  · intro t hg
    cases t with
    | sign c =>
      have : (c == 57345) = false := beq_eq_false_iff_ne.mpr hg.2
      show (c == 92 || c == 57345) = (c == 92)
      rw [this, Bool.or_false]
    | _ => rfl
  · intro t hg
    cases t with
    | sign c => rfl
    | _ => decide
theorem b1_plain {c : Nat} (h : inB1 c = true) : c ≠ 34 ∧ c ≠ 44 ∧ c ≠ 92 ∧ c ≠ 57344 ∧ c ≠ 57345 := by
  refine ⟨?_, ?_, ?_, ?_, ?_⟩ <;> (rintro rfl; revert h; decide)
theorem next_b1 {a : St} {t : Tk} (h : t.b1 = true) : a.next t = some a := by
  cases t with
  | sign c =>
    obtain ⟨h1, h2, h3, h4, h5⟩ := b1_plain h
    have h : inB1 c = true := h
    cases a <;> simp [St.next, h1, h2, h3, h4, h5, h]
  | _ => cases h
theorem next2_of {a : St} {t : Tk} (h : a = .esc → t.b1 = false) : a.next2 t = a.next t := by
  cases a with
  | esc =>
    cases t with
    | sign c =>
      have : inB1 c = false := h rfl
      show (if inB1 c then none else _) = _
      rw [this, if_neg Bool.false_ne_true]
    | _ => rfl
  | _ => rfl
theorem run2_b1 : ∀ (ts : List Tk) (a : St), a ≠ .esc → (∀ t ∈ ts, t.b1 = true) → a.run2 ts = some a
  | [], _, _, _ => rfl
  | t :: r, a, h, k => by
    show (a.next2 t).bind _ = _
    rw [next2_of (fun e => absurd e h), next_b1 (k t (.head _))]
    exact run2_b1 r a h fun t ht => k t (.tail _ ht)
theorem slash_b1 {t : Tk} (h : t.slash = true) : t.b1 = false := by
  cases t with
  | sign c =>
    have : c = 92 := beq_iff_eq.mp h
    subst this
    decide
  | _ => rfl
theorem run2_slash : ∀ (ts : List Tk) (a : St), (∀ t ∈ ts, t.slash = true) → a.run2 ts = a.run ts
  | [], _, _ => rfl
  | t :: r, a, k => by
    show (a.next2 t).bind _ = (a.next t).bind _
    rw [next2_of fun _ => slash_b1 (k t (.head _))]
    cases a.next t with
    | none => rfl
    | some m => exact run2_slash r m fun t ht => k t (.tail _ ht)
/-- what stands while the signs of B.1 are moved -/
structure MvI (p : List Tk × List Tk × List Tk) (s₀ cur : St) : Prop where
  done : St.run2 .out p.1 = some s₀
  ne : s₀ ≠ .esc
  held : ∀ t ∈ p.2.1, t.b1 = true
  sl : ∀ t ∈ p.2.2, t.slash = true
  run : s₀.run p.2.2 = some cur
  last : p.1 = [] ∨ ∃ u t, p.1 = u ++ [t] ∧ t.b1 = false
theorem run_snoc {ts : List Tk} {t : Tk} {a b c : St} (h : a.run ts = some b) (k : b.next t = some c) : a.run (ts ++ [t]) = some c := by
  rw [run_append, h]
  show (b.next t).bind _ = _
  rw [k]
  rfl
theorem next_ne_esc {a b : St} {t : Tk} (h : a.next t = some b) (k1 : t.slash = false) (k2 : t.b1 = false) : b ≠ .esc := by
  cases t with
  | esc => cases k1
  | comma => cases a <;> cases h; exact St.noConfusion
  | quote => cases a <;> cases h <;> exact St.noConfusion
  | sign c =>
    cases a with
    | out => rw [(next_out h).1]; exact St.noConfusion
    | inq => rw [(next_inq h).1]; exact St.noConfusion
    | esc =>
      rcases next_esc h with ⟨q, _⟩ | ⟨_, rfl⟩
      · have k2 : inB1 c = false := k2
        rw [q] at k2; cases k2
      · exact St.noConfusion
theorem mv_keep : ∀ (ts : List Tk) (p : List Tk × List Tk × List Tk) (s₀ cur b : St), MvI p s₀ cur → cur.run ts = some b → ∃ s₁, MvI (ts.foldl mvT p) s₁ b
  | [], p, s₀, cur, b, I, h => by cases h; exact ⟨s₀, I⟩
  | t :: r, p, s₀, cur, b, I, h => by
    obtain ⟨m, h1, h2⟩ := run_cons h
    rw [List.foldl_cons]
    unfold mvT
    split
    · rename_i ks
      refine mv_keep r _ s₀ m b ⟨I.done, I.ne, I.held, ?_, run_snoc I.run h1, I.last⟩ h2
      intro x hx
      rcases List.mem_append.mp hx with hx | hx
      · exact I.sl x hx
      · rw [List.mem_singleton.mp hx]; exact ks
    · split
      · rename_i kb
        rw [next_b1 kb] at h1
        cases h1
        refine mv_keep r _ s₀ cur b ⟨I.done, I.ne, ?_, I.sl, I.run, I.last⟩ h2
        intro x hx
        rcases List.mem_append.mp hx with hx | hx
        · exact I.held x hx
        · rw [List.mem_singleton.mp hx]; exact kb
      · rename_i ks kb
        have ks : t.slash = false := by simpa using ks
        have kb : t.b1 = false := by simpa using kb
        refine mv_keep r _ m m b ⟨?_, next_ne_esc h1 ks kb, (fun x hx => by cases hx), (fun x hx => by cases hx), rfl, .inr ⟨p.1 ++ (p.2.1 ++ p.2.2), t, by simp, kb⟩⟩ h2
        show St.run2 .out (p.1 ++ (p.2.1 ++ p.2.2 ++ [t])) = some m
        rw [run2_append, I.done]
        show s₀.run2 (p.2.1 ++ p.2.2 ++ [t]) = some m
        rw [run2_append, run2_append, run2_b1 _ _ I.ne I.held]
        show (s₀.run2 p.2.2).bind _ = some m
        rw [run2_slash _ _ I.sl, I.run]
        show (cur.next2 t).bind _ = some m
        rw [next2_of fun _ => kb, h1]
        rfl
theorem moved_ok {ts : List Tk} {b : St} (h : St.run .out ts = some b) : St.run2 .out (movedT ts) = some b ∧ (movedT ts = [] ∨ ∃ u t, movedT ts = u ++ [t] ∧ t.b1 = false) := by
  obtain ⟨s₁, I⟩ := mv_keep ts ([], [], []) .out .out b ⟨rfl, St.noConfusion, (fun x hx => by cases hx), (fun x hx => by cases hx), rfl, .inl rfl⟩ h
  change MvI (mvTs ts) s₁ b at I
  unfold movedT
  by_cases q : (mvTs ts).2.2 = []
  · rw [if_pos q]
    have := I.run
    rw [q] at this
    cases this
    exact ⟨I.done, I.last⟩
  · rw [if_neg q]
    refine ⟨?_, .inr ?_⟩
    · rw [run2_append, run2_append, I.done]
      show ((s₁.run2 _).bind _) = _
      rw [run2_b1 _ _ I.ne I.held]
      show s₁.run2 _ = _
      rw [run2_slash _ _ I.sl, I.run]
    · refine ⟨(mvTs ts).1 ++ (mvTs ts).2.1 ++ (mvTs ts).2.2.dropLast, (mvTs ts).2.2.getLast q, ?_, slash_b1 (I.sl _ (List.getLast_mem q))⟩
      rw [List.append_assoc _ _ [_], List.dropLast_concat_getLast]
def nb (t : Tk) : Bool := !t.b1
theorem filt_b1 {l : List Tk} (h : ∀ t ∈ l, t.b1 = true) : l.filter nb = [] := by
  rw [List.filter_eq_nil_iff]
  intro t ht
  simp [nb, h t ht]
theorem mv_filt : ∀ (ts : List Tk) (p : List Tk × List Tk × List Tk), (∀ t ∈ p.2.1, t.b1 = true) → (∀ t ∈ (ts.foldl mvT p).2.1, t.b1 = true) ∧ ((ts.foldl mvT p).1 ++ (ts.foldl mvT p).2.2).filter nb = (p.1 ++ p.2.2).filter nb ++ ts.filter nb
  | [], p, h => ⟨h, by simp⟩
  | t :: r, p, h => by
    rw [List.foldl_cons]
    unfold mvT
    split
    · rename_i ks
      obtain ⟨h1, h2⟩ := mv_filt r (p.1, p.2.1, p.2.2 ++ [t]) h
      refine ⟨h1, h2.trans ?_⟩
      rw [← List.append_assoc, List.filter_append _ [t], List.append_assoc, ← List.filter_append]
      rfl
    · split
      · rename_i kb
        obtain ⟨h1, h2⟩ := mv_filt r (p.1, p.2.1 ++ [t], p.2.2) (by
          intro x hx
          rcases List.mem_append.mp hx with hx | hx
          · exact h x hx
          · rw [List.mem_singleton.mp hx]; exact kb)
        refine ⟨h1, h2.trans ?_⟩
        rw [List.filter_cons_of_neg (by simp [nb, kb])]
      · obtain ⟨h1, h2⟩ := mv_filt r (p.1 ++ (p.2.1 ++ p.2.2 ++ [t]), [], []) (fun x hx => by cases hx)
        refine ⟨h1, h2.trans ?_⟩
        dsimp only
        simp only [List.append_nil, List.filter_append, filt_b1 h, List.nil_append, List.append_assoc]
        rw [← List.filter_append]
        rfl
theorem moved_filt (ts : List Tk) : (movedT ts).filter nb = ts.filter nb := by
  obtain ⟨h1, h2⟩ := mv_filt ts ([], [], []) (fun x hx => by cases hx)
  change ∀ t ∈ (mvTs ts).2.1, t.b1 = true at h1
  change ((mvTs ts).1 ++ (mvTs ts).2.2).filter nb = ts.filter nb at h2
  rw [← h2]
  unfold movedT
  split
  · rename_i q; rw [q, List.append_nil]
  · rw [List.filter_append, List.filter_append, filt_b1 h1, List.append_nil, List.filter_append]
theorem run_filt : ∀ (ts : List Tk) (p : List Str × Str), ts.foldl (tkStep prepS) p = (ts.filter nb).foldl (tkStep prepS) p
  | [], _ => rfl
  | t :: r, p => by
    rw [List.foldl_cons]
    by_cases h : t.b1 = true
    · rw [List.filter_cons_of_neg (by simp [nb, h])]
      have e : tkStep prepS p t = p := by
        cases t with
        | sign c => show (p.1, p.2 ++ prepS c) = p; rw [prep_nil h, str_app_nil0]
        | _ => cases h
      rw [e]
      exact run_filt r p
    · rw [List.filter_cons_of_pos (by simp [nb, h]), List.foldl_cons]
      exact run_filt r _
theorem prepared_app (x y : Str) : preparedS (x ++ y) = preparedS x ++ preparedS y := str_ext (by simp [preparedS, cps_app])
theorem prepared_one (c : Nat) : preparedS ⟨#[c]⟩ = prepS c := str_ext (by simp [preparedS])
theorem prepared_nil : preparedS ⟨#[]⟩ = ⟨#[]⟩ := rfl
def pm (p : List Str × Str) : List Str × Str := (p.1.map preparedS, preparedS p.2)
theorem run_pm : ∀ (ts : List Tk) (p : List Str × Str), ts.foldl (tkStep prepS) (pm p) = pm (ts.foldl (tkStep one) p)
  | [], _ => rfl
  | t :: r, p => by
    rw [List.foldl_cons, List.foldl_cons, ← run_pm r]
    congr 1
    cases t with
    | sign c => show (_, _) = (_, preparedS (p.2 ++ one c)); rw [prepared_app]; unfold one; rw [prepared_one]; rfl
    | quote =>
      show (_, _) = (_, preparedS (p.2 ++ ⟨#[34]⟩))
      rw [prepared_app, prepared_one, show prepS 34 = ⟨#[34]⟩ from str_ext (prep_mark 34 (by decide))]
      rfl
    | comma => show (_, _) = ((p.1 ++ [p.2]).map preparedS, _); rw [List.map_append]; rfl
    | esc => rfl
theorem nil_of_app {x y : Str} (h : x ++ y = ⟨#[]⟩) : x = ⟨#[]⟩ ∧ y = ⟨#[]⟩ := by
  have := congrArg (fun z => z.cps.toList) h
  simp [cps_app] at this
  exact ⟨str_ext (by simp [this.1]), str_ext (by simp [this.2])⟩
theorem open_some : ∀ (ts : List Tk) (a b : St) (p : List Str × Str), a.run ts = some b → b ≠ .out → (a ≠ .out → p.2 ≠ ⟨#[]⟩) → (ts.foldl (tkStep prepS) p).2 ≠ ⟨#[]⟩
  | [], a, b, p, h, hb, k => by cases h; exact k hb
  | t :: r, a, b, p, h, hb, k => by
    obtain ⟨m, h1, h2⟩ := run_cons h
    rw [List.foldl_cons]
    refine open_some r m b _ h2 hb fun hm => ?_
    cases t with
    | comma => cases a <;> cases h1; exact absurd rfl hm
    | quote => intro q; have := (nil_of_app q).2; cases this
    | esc => cases a <;> cases h1; exact k St.noConfusion
    | sign c =>
      intro q
      refine k ?_ (nil_of_app q).1
      rintro rfl
      exact hm (next_out h1).1
theorem cut_pm {q : List Str × Str} (h : preparedS q.2 = ⟨#[]⟩ → q.2 = ⟨#[]⟩) : cut (pm q) = (cut q).map preparedS := by
  unfold cut pm
  by_cases k : q.2 = ⟨#[]⟩
  · rw [if_pos (beq_iff_eq.mpr k), if_pos (by rw [k]; rfl)]
  · rw [if_neg (fun e => k (beq_iff_eq.mp e)), if_neg (fun e => k (h (beq_iff_eq.mp e)))]
    simp
theorem strip_prep (x : Str) : Txt.strip (preparedS (Txt.strip x)) = Txt.strip (preparedS x) := by
  refine str_ext ?_
  rw [strip_list, strip_list]
  have e : ∀ y : Str, (preparedS y).cps.toList = y.cps.toList.flatMap fun c => (prepS c).cps.toList := fun y => rfl
  rw [e, e, strip_list]
  obtain ⟨a, b, h, ha, hb⟩ := strip_parts x.cps.toList
  have white : ∀ l : List Nat, (∀ c ∈ l, Unicode.isSpace c = true) → ∀ c ∈ l.flatMap (fun c => (prepS c).cps.toList), Unicode.isSpace c = true := by
    intro l hl c hc
    obtain ⟨d, hd, hc⟩ := List.mem_flatMap.mp hc
    rw [prep_space (hl d hd)] at hc
    rw [List.mem_singleton.mp hc]
    exact hl d hd
  conv => rhs; rw [h]
  rw [List.flatMap_append, List.flatMap_append, strip_pad _ _ _ (white a ha) (white b hb)]
theorem law1 {ts : List Tk} {b : St} (h : St.run .out ts = some b) : parseS (movedS (sentS ts)) = (cut (tkRun one (movedT ts))).map Txt.strip ∧ itemsS (Txt.replace (movedS (toldS ts)) (Str.ofString "\ue001") (Str.ofString "")) = (cut (tkRun one (movedT ts))).map Txt.strip := by
  have hg := run_good h
  have hm := (moved_ok h).1
  have hg2 : ∀ t ∈ movedT ts, t.good := by
    intro t ht
    by_cases q : t.b1 = true
    · cases t with
      | sign c => exact ⟨(b1_plain q).2.2.2.1, (b1_plain q).2.2.2.2⟩
      | _ => trivial
    · have : t ∈ (movedT ts).filter nb := List.mem_filter.mpr ⟨ht, by simp [nb, q]⟩
      rw [moved_filt] at this
      exact hg t (List.mem_filter.mp this).1
  constructor
  · rw [moved_sent ts hg, parse_cut]
    have := sent_run (movedT ts) .out b ([], ⟨#[]⟩) hm
    have e : paRun (sentS (movedT ts)).cps.toList = ⟨(tkRun one (movedT ts)).1, (tkRun one (movedT ts)).2, b.b, b.q⟩ := this
    rw [e]
  · rw [moved_told ts hg, items_cut, str_e1, str_nil]
    have e : spRun 57344 (Txt.replace (toldS (movedT ts)) ⟨#[57345]⟩ ⟨#[]⟩) = tkRun one (movedT ts) := by
      unfold spRun
      rw [replace_strikes]
      exact told_run (movedT ts) ([], ⟨#[]⟩) hg2
    rw [e]
theorem law2 {ts : List Tk} {b : St} (h : St.run .out ts = some b) : parseS (preparedS (sentS ts)) = itemsS (meantS ts) ∧ itemsS (meantS ts) = (cut (tkRun prepS ts)).map Txt.strip := by
  have e2 : itemsS (meantS ts) = (cut (tkRun prepS ts)).map Txt.strip := by
    rw [items_cut]
    have e : spRun 57344 (meantS ts) = tkRun prepS ts := meant_run ts ([], ⟨#[]⟩) (run_good h)
    rw [e]
  refine ⟨?_, e2⟩
  rw [e2, parse_cut]
  have e : paRun (preparedS (sentS ts)).cps.toList = ⟨(tkRun prepS ts).1, (tkRun prepS ts).2, b.b, b.q⟩ := prep_run ts .out b ([], ⟨#[]⟩) h
  rw [e]
theorem law3 {ts : List Tk} {b : St} (h : St.run .out ts = some b) : (parseS (movedS (sentS ts))).map (fun x => Txt.strip (preparedS x)) = itemsS (meantS ts) := by
  rw [(law1 h).1, (law2 h).2, List.map_map]
  have e : ((fun x => Txt.strip (preparedS x)) ∘ Txt.strip) = Txt.strip ∘ preparedS := funext fun x => strip_prep x
  have e1 : tkRun prepS ts = pm (tkRun one (movedT ts)) := by
    unfold tkRun
    rw [run_filt, ← moved_filt, ← run_filt, ← run_pm]
    rfl
  rw [e, e1, cut_pm, List.map_map]
  rw [show preparedS (tkRun one (movedT ts)).2 = (tkRun prepS ts).2 by rw [e1]; rfl]
  obtain ⟨hm, hl⟩ := moved_ok h
  intro q
  rcases hl with hl | ⟨u, t, hl, hb⟩
  · rw [hl]; rfl
  · have e3 : tkRun prepS ts = (u ++ [t]).foldl (tkStep prepS) ([], ⟨#[]⟩) := by
      unfold tkRun
      rw [run_filt, ← moved_filt, ← run_filt, hl]
    rw [e3, List.foldl_append] at q
    rw [hl]
    show ((u ++ [t]).foldl (tkStep one) ([], ⟨#[]⟩)).2 = _
    rw [List.foldl_append]
    cases t with
    | comma => rfl
    | quote => have := (nil_of_app q).2; cases this
    | sign c =>
      have := (nil_of_app q).2
      exact absurd (by rw [this]) (prep_some hb)
    | esc =>
      exfalso
      rw [hl] at hm
      rw [run2_append] at hm
      cases hu : St.run2 .out u with
      | none => rw [hu] at hm; cases hm
      | some m =>
        rw [hu] at hm
        change (m.next2 .esc).bind _ = some b at hm
        have hbe : b = .esc := by cases m <;> cases hm; rfl
        have := open_some ts .out b ([], ⟨#[]⟩) h (by rw [hbe]; exact St.noConfusion) (fun k => absurd rfl k)
        apply this
        show (tkRun prepS ts).2 = _
        rw [e3, List.foldl_append]
        exact q
end
section
def pairO (k : Int) (t : Tok) (a : Addr) : Obj := { cls := .type "tuple", data := .seq #[.int k t, .ref a] }
/-- a piece's object: a tuple or a list of its three texts -/
def Three (o : Obj) (X Y Z : Str) : Prop := ∃ u v z, o = tup3 X Y Z u v z ∨ ∃ e, o = W.listOf #[.str X u, .str Y v, .str Z z] e
def signsL : List Str := (b1L.flatMap fun k : Int => [(⟨#[k.toNat]⟩ : Str)]) ++ [Str.ofString "", Str.ofString ""]
structure Hd where
  x : Str
  y : Str
  z : Str
  tx : Tok
  ty : Tok
  tz : Tok
def forH : Stmt := ((bodyOf 19).drop 2).headD default
def tgtH : Expr := match forH with | .For t _ _ _ _ => t | _ => .Tuple [] 0 default
def bodyH : List Stmt := match forH with | .For _ _ b _ _ => b | _ => []
abbrev envH (L : Addr) : Env := envOf (nameOf 19) (scopeOf 19) L 157 (.ref 156)
def ItemOk (base : List (Addr × Obj)) (more : Prop) (v : Value) : Prop := ∃ T k t a o X Y Z b, v = .ref T ∧ (T, pairO k t a) ∈ base ∧ (a, o) ∈ base ∧ Three o X Y Z ∧ Fits 8 .out b X Y Z ∧ (more → b = .out)
def hdPs (Dz : Addr) (c : Hd) : List (Str × Value) := [(Str.ofString "signs", .ref Dz), (Str.ofString "sent", .str c.x c.tx), (Str.ofString "told", .str c.y c.ty), (Str.ofString "meant", .str c.z c.tz)]
def hdInv (n : Nat) (i : Nat) (c : Hd) : Prop := ∃ b, Fits (9 * i) .out b c.x c.y c.z ∧ (i < n → b = .out)
theorem strs_at {vs : List Value} {xs : List Str} (h : StrsAre vs xs) : ∀ i : Nat, i < xs.length → ∃ t, vs[i]? = some (.str (xs.getD i Str.empty) t) := by
  induction h with
  | nil => intro i hi; simp at hi
  | cons y t _ ih =>
    intro i hi
    cases i with
    | zero => exact ⟨t, rfl⟩
    | succ i =>
      obtain ⟨t, e⟩ := ih i (by simpa using hi)
      exact ⟨t, by simpa using e⟩
theorem signs_ok : ∀ i : Nat, i < 29 → signsL.getD i Str.empty = ⟨#[]⟩ ∨ ∃ c, signsL.getD i Str.empty = ⟨#[c]⟩ ∧ inB1 (c : Nat) = true := by
  have h : ∀ i : Nat, i < 29 → (signsL.getD i Str.empty == ⟨#[]⟩ || ((signsL.getD i Str.empty).length == 1 && inB1 ((signsL.getD i Str.empty).cps.getD 0 0 : Nat))) = true := by decide +kernel
  intro i hi
  have q := h i hi
  generalize signsL.getD i Str.empty = z at q ⊢
  rw [Bool.or_eq_true] at q
  rcases q with q | q
  · exact .inl (beq_iff_eq.mp q)
  · rw [Bool.and_eq_true] at q
    obtain ⟨⟨l⟩⟩ := z
    obtain ⟨q1, q2⟩ := q
    have : l.length = 1 := by simpa [Str.length] using q1
    match l, this with
    | [c], _ => exact .inr ⟨c, rfl, by simpa using q2⟩
theorem item_signs {w : World} {A : Around} {E : Value → Shared → Prop} {s : Shared} {h₀ : Heap} {L a : Addr} {news : List (Addr × Obj)} {Q : Value → Shared → Prop} {value slice : Expr} {zs : List Value} {k : Int} {tk : Tok} (N : News h₀ L s.heap news) (hm : (a, W.listOf zs.toArray 0) ∈ news) (hS : StrsAre zs signsL)
    (h : ∀ z t, z = signsL.getD (k.fmod 29).toNat Str.empty → z.length ≤ 1 → Q (.str z t) s)
    (hs : subscripted slice false (.ref a) (.int (k.fmod 29) tk) = operate [.ref a, .int (k.fmod 29) tk] (getItem (.ref a) (.int (k.fmod 29) tk)) := by with_unfolding_all rfl) :
    wpAny (model pw w) A (subscriptTail value slice (.ref a) (.int (k.fmod 29) tk)) Q E s := by
  have hl : s.heap.IsList a zs.toArray := News.isList N hm
  have hr := fmod_range k (k := 29) (by decide)
  have h29 : signsL.length = 29 := by decide +kernel
  obtain ⟨t, e⟩ := strs_at hS (k.fmod 29).toNat (by omega)
  refine tail_any hl.typeIs slot_list_getitem.lookup (wpAny_getItem_list hl hr.1 (by omega) (x := .str _ t) (by simpa using e) (h _ t rfl ?_)) hs
  rcases signs_ok (k.fmod 29).toNat (by omega) with q | ⟨c, q, _⟩
  · rw [q]; decide
  · rw [q]; exact Nat.le_refl 1
section
variable {w : World} {A : Around} {E : Value → Shared → Prop} {s : Shared} {h₀ : Heap} {L a : Addr} {news : List (Addr × Obj)} {Q : Value → Shared → Prop} {value slice : Expr} {o : Obj} {X Y Z : Str} {u v z : Tok} {tk : Tok}
theorem item_three (j : Nat) (y : Value) (hj : j < 3) (hy : [Value.str X u, .str Y v, .str Z z][j]? = some y) (N : News h₀ L s.heap news) (hm : (a, o) ∈ news) (ho : o = tup3 X Y Z u v z ∨ ∃ e, o = W.listOf #[.str X u, .str Y v, .str Z z] e) (h : Q y s)
    (hs : subscripted slice false (.ref a) (.int (j : Int) tk) = operate [.ref a, .int (j : Int) tk] (getItem (.ref a) (.int (j : Int) tk))) :
    wpAny (model pw w) A (subscriptTail value slice (.ref a) (.int (j : Int) tk)) Q E s := by
  rcases ho with rfl | ⟨e, rfl⟩
  · refine item_tupleT (l := [Value.str X u, .str Y v, .str Z z]) (j := j) (News.isTup N hm) (by omega) (by omega) ?_ hy h hs
    match j, hj with
    | 0, _ => rfl
    | 1, _ => rfl
    | 2, _ => rfl
  · have hl : s.heap.IsList a #[.str X u, .str Y v, .str Z z] := News.isList N hm
    refine tail_any hl.typeIs slot_list_getitem.lookup (wpAny_getItem_list hl (by omega) (by omega) (x := y) (by simpa using hy) h) hs
theorem item_t0 (N : News h₀ L s.heap news) (hm : (a, o) ∈ news) (ho : o = tup3 X Y Z u v z ∨ ∃ e, o = W.listOf #[.str X u, .str Y v, .str Z z] e) (h : Q (.str X u) s)
    (hs : subscripted slice false (.ref a) (.int 0 tk) = operate [.ref a, .int 0 tk] (getItem (.ref a) (.int 0 tk)) := by with_unfolding_all rfl) :
    wpAny (model pw w) A (subscriptTail value slice (.ref a) (.int 0 tk)) Q E s := item_three 0 _ (by decide) rfl N hm ho h hs
theorem item_t1 (N : News h₀ L s.heap news) (hm : (a, o) ∈ news) (ho : o = tup3 X Y Z u v z ∨ ∃ e, o = W.listOf #[.str X u, .str Y v, .str Z z] e) (h : Q (.str Y v) s)
    (hs : subscripted slice false (.ref a) (.int 1 tk) = operate [.ref a, .int 1 tk] (getItem (.ref a) (.int 1 tk)) := by with_unfolding_all rfl) :
    wpAny (model pw w) A (subscriptTail value slice (.ref a) (.int 1 tk)) Q E s := item_three 1 _ (by decide) rfl N hm ho h hs
theorem item_t2 (N : News h₀ L s.heap news) (hm : (a, o) ∈ news) (ho : o = tup3 X Y Z u v z ∨ ∃ e, o = W.listOf #[.str X u, .str Y v, .str Z z] e) (h : Q (.str Z z) s)
    (hs : subscripted slice false (.ref a) (.int 2 tk) = operate [.ref a, .int 2 tk] (getItem (.ref a) (.int 2 tk)) := by with_unfolding_all rfl) :
    wpAny (model pw w) A (subscriptTail value slice (.ref a) (.int 2 tk)) Q E s := item_three 2 _ (by decide) rfl N hm ho h hs
theorem add_b {x y : Str} {t t' : Tok} {n k : Nat} (hx : x.length ≤ n) (hy : y.length ≤ k) (hn : n + k ≤ 1000) (h : ∀ J tj q, J = x ++ y → J.length ≤ n + k → Q (.str J tj) { s with toks := q }) : wpAny (model pw w) A (binaryOp .Add (.str x t) (.str y t')) Q E s :=
  PyProof.Rows.add_str (fun tj q => h _ tj q rfl (by rw [Str.length_append]; omega)) (by rw [sizeLine_eq]; omega)
theorem iadd_b {x y : Str} {t t' : Tok} {n k : Nat} (hx : x.length ≤ n) (hy : y.length ≤ k) (hn : n + k ≤ 1000) (h : ∀ J tj q, J = x ++ y → Q (.str J tj) { s with toks := q }) : wpAny (model pw w) A (inplaceOp .Add (.str x t) (.str y t')) Q E s :=
  PyProof.Rows.iadd_str (fun tj q => h _ tj q rfl) (by rw [sizeLine_eq]; omega)
end
theorem storeInt {w : World} {A : Around} {E : Value → Shared → Prop} {s : Shared} {h₀ : Heap} {L : Addr} {m : Str → Option Value} {news : List (Addr × Obj)} {x : Str} {k : Int} {t : Tok} {Q : Unit → Shared → Prop} (F : Fr h₀ L s.heap m) (N : News h₀ L s.heap news) (hx : (envH L).kindOf x = some .local)
    (h : ∀ t' h' tk, Fr h₀ L h' (fun y => if y = x then some (.int k t') else m y) → News h₀ L h' news → Q () { s with heap := h', toks := tk }) : wpAny (model pw w) A (storeName (envH L) x (.int k t)) Q E s := by
  refine wpAny_storeName_local hx (show s.heap.Ns L m from F.ns) (fun h' hn hs => ?_) (by rfl)
  have up : ∀ b o, b ≠ L → s.heap.get? b = some o → h'.get? b = some o := fun b o hb q => hs.extBut b o hb q
  exact h t h' _ ⟨hn, fun b o q => up b o (Nat.ne_of_lt (Nat.lt_of_lt_of_le (Heap.lt_size q) F.above)) (F.keep b o q), F.above⟩ fun p hp => ⟨up _ _ (N p hp).2.1 (N p hp).1, (N p hp).2⟩
end
section
section
variable {w : World} {A : Around} {E : Value → Shared → Prop} {s : Shared} {h₀ : Heap} {L a Dz : Addr} {news : List (Addr × Obj)} {m : Str → Option Value}
theorem nmH {x : Str} {v : Value} {pos : Pos} {Q : Value → Shared → Prop} (F : Fr h₀ L s.heap m) (hm : m x = some v) (h : Q v s) (hl : (envH L).kindOf x = some .local) (hd : (x == ("__debug__" : Str)) = false) : wpAny (model pw w) A (eval (.Name x pos) (envH L)) Q E s :=
  wpAny_Name (wpAny_loadName_local (by rfl) hl (show s.heap.Ns L m from F.ns) hm h) hd
theorem ldH {x : Str} {v : Value} {Q : Value → Shared → Prop} (F : Fr h₀ L s.heap m) (hm : m x = some v) (h : Q v s) (hl : (envH L).kindOf x = some .local) : wpAny (model pw w) A (loadName (envH L) x) Q E s :=
  wpAny_loadName_local (by rfl) hl (show s.heap.Ns L m from F.ns) hm h
theorem stHd {x : Str} {v : Value} {Q : Unit → Shared → Prop} (F : Fr h₀ L s.heap m) (N : News h₀ L s.heap news) (hx : (envH L).kindOf x = some .local)
    (h : ∀ h' tk, Fr h₀ L h' (fun y => if y = x then some v else m y) → News h₀ L h' news → Q () { s with heap := h', toks := tk }) : wpAny (model pw w) A (storeName (envH L) x v) Q E s := by
  refine wpAny_storeName_local hx (show s.heap.Ns L m from F.ns) (fun h' hn hs => ?_) (by rfl)
  have up : ∀ b o, b ≠ L → s.heap.get? b = some o → h'.get? b = some o := fun b o hb q => hs.extBut b o hb q
  exact h h' _ ⟨hn, fun b o q => up b o (Nat.ne_of_lt (Nat.lt_of_lt_of_le (Heap.lt_size q) F.above)) (F.keep b o q), F.above⟩ fun p hp => ⟨up _ _ (N p hp).2.1 (N p hp).1, (N p hp).2⟩
end
theorem chain3 {cx a b e z J1 J2 J3 : Str} (h1 : J3 = cx ++ J2) (h2 : J2 = J1 ++ b) (h3 : J1 = a ++ z) (h4 : z = e) : J3 = cx ++ (a ++ e ++ b) := by rw [h1, h2, h3, h4]
def stmtH (i : Nat) : Stmt := (bodyH.drop i).headD default
local macro_rules | `(tactic| walk_at "eval Name") => `(tactic| k_dflt (refine nmH (by assumption) (by assumption) ?_ (by rfl) (by decide)))
local macro_rules | `(tactic| walk_at "loadName") => `(tactic| k_dflt (refine ldH (by assumption) (by assumption) ?_ (by rfl)))
local macro_rules | `(tactic| walk_at "storeName") => `(tactic| (k_dflt (refine stHd (by assumption) (by assumption) (by rfl) ?_); intro h' tk' F' N'; dsimp only))
local macro_rules | `(tactic| walk_at "subscriptTail") => `(tactic| first
  | ((with_reducible show wpAny _ _ (subscriptTail _ (Expr.BinOp _ _ _ _) _ _) _ _ _); refine item_signs (by assumption) (by k_mem) (by assumption) ?_; intro z' t' hz' lz'; dsimp only)
  | ((with_reducible show wpAny _ _ (subscriptTail _ (Expr.Constant _ _ _) _ _) _ _ _); first | ((with_reducible show wpAny _ _ (subscriptTail _ _ _ (Value.int 0 _)) _ _ _); refine item_t0 (by assumption) (by k_mem) (by assumption) ?_) | ((with_reducible show wpAny _ _ (subscriptTail _ _ _ (Value.int 1 _)) _ _ _); refine item_t1 (by assumption) (by k_mem) (by assumption) ?_) | ((with_reducible show wpAny _ _ (subscriptTail _ _ _ (Value.int 2 _)) _ _ _); refine item_t2 (by assumption) (by k_mem) (by assumption) ?_)))
local macro_rules | `(tactic| walk_at "binaryOp Add str str") => `(tactic| (refine add_b (by first | exact Nat.le_trans (by assumption) (by assumption) | assumption) (by first | exact Nat.le_trans (by assumption) (by assumption) | assumption) (by decide) ?_; intro J' t' q' hJ' lJ'; dsimp only))
local macro_rules | `(tactic| walk_at "inplaceOp Add str str") => `(tactic| (refine iadd_b (by first | exact Nat.le_trans (by assumption) (by assumption) | assumption) (by first | exact Nat.le_trans (by assumption) (by assumption) | assumption) (by decide) ?_; intro J' t' q' hJ'; dsimp only))
set_option maxHeartbeats 1000000 in
theorem st_sent {w : World} {s₀ : Shared} {mg mb : Str → Option Value} {A : Around} {E : Value → Shared → Prop} {s : Shared} {h₀ : Heap} {L a Dz : Addr} {m : Str → Option Value} {Q : Flow → Shared → Prop} {news : List (Addr × Obj)} {zs : List Value} {o : Obj} {X Y Z cx : Str} {u v z tx t tp : Tok} {k p : Int}
    (g : Gd w s₀ mg mb h₀) (F : Fr h₀ L s.heap m) (N : News h₀ L s.heap ((a, o) :: (Dz, W.listOf zs.toArray 0) :: news)) (hS : StrsAre zs signsL) (ho : o = tup3 X Y Z u v z ∨ ∃ e, o = W.listOf #[.str X u, .str Y v, .str Z z] e)
    (h1 : m (Str.ofString "three") = some (.ref a)) (h2 : m (Str.ofString "signs") = some (.ref Dz)) (h3 : m (Str.ofString "n") = some (.int k t)) (h4 : m (Str.ofString "place") = some (.int p tp)) (h5 : m (Str.ofString "sent") = some (.str cx tx)) (lX : X.length ≤ 8) (lx : cx.length ≤ 99) (hp0 : 0 ≤ p) (hp1 : p ≤ X.length)
    (hQ : ∀ J t' h' tk, Fr h₀ L h' (fun y => if y = Str.ofString "sent" then some (.str J t') else m y) → J = cx ++ (Txt.slice X none (some p) ++ signsL.getD (k.fmod 29).toNat Str.empty ++ Txt.slice X (some p) none) → News h₀ L h' ((a, o) :: (Dz, W.listOf zs.toArray 0) :: news) → Q .next { s with heap := h', toks := tk }) :
    wpAny (model pw w) (A.deeper (envH L)) (exec (stmtH 1) (envH L)) Q E s := by
  w_on
  refine g.open ?_
  intro KX X_ V GL T B TE TW _ _ M
  show wpAny _ _ (exec (.AugAssign _ _ _ _) _) _ _ _
  repeat' (first | walk1 | (dsimp only; walk1))
  exact hQ _ _ _ _ (by assumption) (chain3 (by assumption) (by assumption) (by assumption) (by assumption)) (by assumption)
set_option maxHeartbeats 1000000 in
theorem st_told {w : World} {s₀ : Shared} {mg mb : Str → Option Value} {A : Around} {E : Value → Shared → Prop} {s : Shared} {h₀ : Heap} {L a Dz : Addr} {m : Str → Option Value} {Q : Flow → Shared → Prop} {news : List (Addr × Obj)} {zs : List Value} {o : Obj} {X Y Z cx : Str} {u v z tx t tp : Tok} {k p : Int}
    (g : Gd w s₀ mg mb h₀) (F : Fr h₀ L s.heap m) (N : News h₀ L s.heap ((a, o) :: (Dz, W.listOf zs.toArray 0) :: news)) (hS : StrsAre zs signsL) (ho : o = tup3 X Y Z u v z ∨ ∃ e, o = W.listOf #[.str X u, .str Y v, .str Z z] e)
    (h1 : m (Str.ofString "three") = some (.ref a)) (h2 : m (Str.ofString "signs") = some (.ref Dz)) (h3 : m (Str.ofString "n") = some (.int k t)) (h4 : m (Str.ofString "place") = some (.int p tp)) (h5 : m (Str.ofString "told") = some (.str cx tx)) (lX : Y.length ≤ 8) (lx : cx.length ≤ 99) (hp0 : 0 ≤ p) (hp1 : p ≤ Y.length)
    (hQ : ∀ J t' h' tk, Fr h₀ L h' (fun y => if y = Str.ofString "told" then some (.str J t') else m y) → J = cx ++ (Txt.slice Y none (some p) ++ signsL.getD (k.fmod 29).toNat Str.empty ++ Txt.slice Y (some p) none) → News h₀ L h' ((a, o) :: (Dz, W.listOf zs.toArray 0) :: news) → Q .next { s with heap := h', toks := tk }) :
    wpAny (model pw w) (A.deeper (envH L)) (exec (stmtH 2) (envH L)) Q E s := by
  w_on
  refine g.open ?_
  intro KX X_ V GL T B TE TW _ _ M
  show wpAny _ _ (exec (.AugAssign _ _ _ _) _) _ _ _
  repeat' (first | walk1 | (dsimp only; walk1))
  exact hQ _ _ _ _ (by assumption) (chain3 (by assumption) (by assumption) (by assumption) (by assumption)) (by assumption)
set_option maxHeartbeats 1000000 in
theorem st_meant {w : World} {s₀ : Shared} {mg mb : Str → Option Value} {A : Around} {E : Value → Shared → Prop} {s : Shared} {h₀ : Heap} {L a Dz : Addr} {m : Str → Option Value} {Q : Flow → Shared → Prop} {news : List (Addr × Obj)} {zs : List Value} {o : Obj} {X Y Z cx : Str} {u v z tx t tp : Tok} {k p : Int}
    (g : Gd w s₀ mg mb h₀) (F : Fr h₀ L s.heap m) (N : News h₀ L s.heap ((a, o) :: (Dz, W.listOf zs.toArray 0) :: news)) (hS : StrsAre zs signsL) (ho : o = tup3 X Y Z u v z ∨ ∃ e, o = W.listOf #[.str X u, .str Y v, .str Z z] e)
    (h1 : m (Str.ofString "three") = some (.ref a)) (h2 : m (Str.ofString "signs") = some (.ref Dz)) (h3 : m (Str.ofString "n") = some (.int k t)) (h4 : m (Str.ofString "place") = some (.int p tp)) (h5 : m (Str.ofString "meant") = some (.str cx tx)) (lX : Z.length ≤ 32) (lx : cx.length ≤ 396)
    (hQ : ∀ J t' h' tk, Fr h₀ L h' (fun y => if y = Str.ofString "meant" then some (.str J t') else m y) → J = cx ++ Z → News h₀ L h' ((a, o) :: (Dz, W.listOf zs.toArray 0) :: news) → Q .next { s with heap := h', toks := tk }) :
    wpAny (model pw w) (A.deeper (envH L)) (exec (stmtH 3) (envH L)) Q E s := by
  w_on
  refine g.open ?_
  intro KX X_ V GL T B TE TW _ _ M
  show wpAny _ _ (exec (.AugAssign _ _ _ _) _) _ _ _
  repeat' (first | walk1 | (dsimp only; walk1))
  exact hQ _ _ _ _ (by assumption) (by assumption) (by assumption)
set_option maxHeartbeats 1000000 in
theorem st_place {w : World} {s₀ : Shared} {mg mb : Str → Option Value} {A : Around} {E : Value → Shared → Prop} {s : Shared} {h₀ : Heap} {L a Dz : Addr} {m : Str → Option Value} {Q : Flow → Shared → Prop} {news : List (Addr × Obj)} {zs : List Value} {o : Obj} {X Y Z : Str} {u v z t : Tok} {k : Int}
    (g : Gd w s₀ mg mb h₀) (F : Fr h₀ L s.heap m) (N : News h₀ L s.heap ((a, o) :: (Dz, W.listOf zs.toArray 0) :: news)) (hS : StrsAre zs signsL) (ho : o = tup3 X Y Z u v z ∨ ∃ e, o = W.listOf #[.str X u, .str Y v, .str Z z] e)
    (h1 : m (Str.ofString "three") = some (.ref a)) (h2 : m (Str.ofString "signs") = some (.ref Dz)) (h3 : m (Str.ofString "n") = some (.int k t)) (lX : X.length ≤ 8)
    (hQ : ∀ t' h' tk, Fr h₀ L h' (fun y => if y = Str.ofString "place" then some (.int ((k.fmod 11).fmod (X.length + 1)) t') else m y) → News h₀ L h' ((a, o) :: (Dz, W.listOf zs.toArray 0) :: news) → Q .next { s with heap := h', toks := tk }) :
    wpAny (model pw w) (A.deeper (envH L)) (exec (stmtH 0) (envH L)) Q E s := by
  w_on
  refine g.open ?_
  intro KX X_ V GL T B TE TW _ _ M
  show wpAny _ _ (exec (.Assign _ _ _) _) _ _ _
  repeat' (first | walk1 | (dsimp only; walk1))
  exact hQ _ _ _ (by assumption) (by assumption)
end
section
local macro_rules | `(tactic| walk_at "assign Tuple") => `(tactic| (refine unpackN_ (by assumption) (by assumption) (News.isTup (by assumption) (by k_mem)) (Room.handled (by assumption)) (by exact rfl) (by exact rfl) ?_; intro h' F' N'))
local macro_rules | `(tactic| walk_at "storeName") => `(tactic| (k_dflt (refine stHd (by assumption) (by assumption) (by rfl) ?_); intro h' tk' F' N'; dsimp only))
theorem slice_to {x : Str} {p : Int} (h0 : 0 ≤ p) (h1 : p ≤ x.length) : (Txt.slice x none (some p)).cps.toList = x.cps.toList.take p.toNat := by
  rw [eq_of_beq (slice_closes_toL h0 h1)]
  simp
theorem slice_from {x : Str} {p : Int} (h0 : 0 ≤ p) (h1 : p ≤ x.length) : (Txt.slice x (some p) none).cps.toList = x.cps.toList.drop p.toNat := by
  rw [eq_of_beq (slice_closes_fromL h0 h1 rfl)]
  show (x.cps.toList.drop p.toNat).take ((x.length : Int) - p).toNat = _
  refine List.take_of_length_le ?_
  have : x.cps.toList.length = x.length := by simp [Str.length]
  rw [List.length_drop]
  omega
theorem fits_turn {n : Nat} {b : St} {X Y Z z : Str} {p : Int} (h : Fits n .out b X Y Z) (h0 : 0 ≤ p) (h1 : p ≤ X.length) (hz : z = ⟨#[]⟩ ∨ ∃ c, z = ⟨#[c]⟩ ∧ inB1 (c : Nat) = true) :
    Fits (n + 1) .out b (Txt.slice X none (some p) ++ z ++ Txt.slice X (some p) none) (Txt.slice Y none (some p) ++ z ++ Txt.slice Y (some p) none) Z := by
  have h2 : p ≤ Y.length := by rw [← h.lens.2.2.2]; exact h1
  obtain ⟨ts, rfl, rfl, rfl, hr, hl⟩ := h
  rcases hz with rfl | ⟨c, rfl, hc⟩
  · refine ⟨ts, str_ext ?_, str_ext ?_, rfl, hr, by omega⟩
    · rw [cps_app, cps_app, slice_to h0 h1, slice_from h0 h1]; simp
    · rw [cps_app, cps_app, slice_to h0 h2, slice_from h0 h2]; simp
  · refine ⟨ts.take p.toNat ++ (.sign c :: ts.drop p.toNat), str_ext ?_, str_ext ?_, str_ext ?_, ?_, ?_⟩
    · rw [cps_app, cps_app, slice_to h0 h1, slice_from h0 h1]; simp [sentS, Tk.sent]
    · rw [cps_app, cps_app, slice_to h0 h2, slice_from h0 h2]; simp [toldS, Tk.told]
    · have e : ts.flatMap Tk.meant = (ts.take p.toNat).flatMap Tk.meant ++ (ts.drop p.toNat).flatMap Tk.meant := by rw [← List.flatMap_append, List.take_append_drop]
      have e2 : Tk.meant (.sign c) = [] := by show (prepS c).cps.toList = []; rw [prep_nil hc]
      show ts.flatMap Tk.meant = (ts.take p.toNat ++ (.sign c :: ts.drop p.toNat)).flatMap Tk.meant
      rw [List.flatMap_append, List.flatMap_cons, e2, List.nil_append, e]
    · rw [run_append]
      have hr' : St.run .out (ts.take p.toNat ++ ts.drop p.toNat) = some b := by rw [List.take_append_drop]; exact hr
      rw [run_append] at hr'
      cases q : St.run .out (ts.take p.toNat) with
      | none => rw [q] at hr'; cases hr'
      | some m =>
        rw [q] at hr'
        show (m.next (.sign c)).bind _ = some b
        rw [next_b1 (t := .sign c) hc]
        exact hr'
    · rw [List.length_append, List.length_cons, List.length_take, List.length_drop]; omega
def up (m : Str → Option Value) (x : Str) (v : Value) : Str → Option Value := fun y => if y = x then some v else m y
theorem up_eq {m : Str → Option Value} {x : Str} {v : Value} : up m x v x = some v := if_pos rfl
theorem up_ne {m : Str → Option Value} {x z : Str} {v v' : Value} (h : z ≠ x) (k : m z = some v') : up m x v z = some v' := (if_neg h).trans k
section
variable {w : World} {A : Around} {E : Value → Shared → Prop} {s : Shared} {h₀ : Heap} {L a T : Addr} {news : List (Addr × Obj)} {m : Str → Option Value} {k : Int} {t : Tok}
theorem st_tgt {elts : List Expr} {x1} {pt : Pos} {Q : Unit → Shared → Prop} (he : tgtH = .Tuple elts x1 pt) (hh : A.handled = none) (F : Fr h₀ L s.heap m) (N : News h₀ L s.heap news) (hT : (T, pairO k t a) ∈ news)
    (h : ∀ h' tk, Fr h₀ L h' (up (up m (Str.ofString "n") (.int k t)) (Str.ofString "three") (.ref a)) → News h₀ L h' news → Q () { s with heap := h', toks := tk }) :
    wpAny (model pw w) A (assign (.Tuple elts x1 pt) (envH L) (.ref T)) Q E s := by
  cases he
  dsimp only [pairO] at hT
  refine unpackN_ F N (News.isTup N hT) hh (by exact rfl) (by exact rfl) ?_
  intro h' F' N'
  w_on
  repeat' (first | walk1 | (dsimp only; walk1))
  exact h _ _ (by assumption) (by assumption)
end
set_option maxHeartbeats 3000000 in
theorem header_loop {w : World} {s₀ : Shared} {mg mb : Str → Option Value} {A : Around} {E : Value → Shared → Prop} {s : Shared} {n : Nat} {h₀ : Heap} {L D Dz : Addr} {m₀ : Str → Option Value} {Q : Flow → Shared → Prop} {base : List (Addr × Obj)} {its : Array Value} {zs : List Value} {c₀ : Hd}
    (g : Gd w s₀ mg mb h₀) (r : Room (A.deeper (envH L)) (n + 1)) (F : Fr h₀ L s.heap m₀) (N : News h₀ L s.heap base) (hD : (D, W.listOf its 0) ∈ base) (hZ : (Dz, W.listOf zs.toArray 0) ∈ base) (hS : StrsAre zs signsL) (hk : ∀ p ∈ hdPs Dz c₀, m₀ p.1 = some p.2) (h0 : Fits 0 .out .out c₀.x c₀.y c₀.z)
    (hit : ∀ (i : Nat) (v : Value), its[i]? = some v → ItemOk base (i + 1 < its.size) v) (hsz : its.size ≤ 11)
    (hQ : ∀ c b u h' tk, Fits 200 .out b c.x c.y c.z → Fr h₀ L h' (kstB u (hdPs Dz c)) → Q .next { s with heap := h', toks := tk }) :
    wpAny (model pw w) (A.deeper (envH L)) (pyIter (.ref D)) (fun it s₂ => codeAny (model pw w) (A.deeper (envH L)) (.forLoop tgtH it bodyH [] (envH L)) (fun r s' => match r with | .ok f => Q f s' | .error e => cameBackBy (model pw w) (A.deeper (envH L)) (envH L) E e s') s₂) E s := by
  obtain ⟨elts, x1, pt, he⟩ : ∃ elts x1 pt, tgtH = .Tuple elts x1 pt := ⟨_, _, _, rfl⟩
  have hb : bodyH = [stmtH 0, stmtH 1, stmtH 2, stmtH 3] := rfl
  rw [he, hb]
  refine pairLoop (σ := Hd) (hdPs Dz) (hdInv its.size) c₀ r.handled F N (fun h' N' => News.isList N' hD) ?_ hk ⟨_, h0, fun _ => rfl⟩ ?_ ?_
  · intro i v hv
    obtain ⟨T, _, _, _, _, _, _, _, _, rfl, _⟩ := hit i v hv
    exact ⟨T, rfl⟩
  · rintro i v ⟨cx, cy, cz, tx, ty, tz⟩ u h tk I oI E' hv ⟨b, hF, hb⟩ F1 N1
    obtain ⟨T, k, t, a, o, X1, Y1, Z1, b1, rfl, hT, ha, ⟨u1, v1, z1, ho⟩, hf, hb1⟩ := hit i v hv
    dsimp only at hF
    have k1 : kstB u (hdPs Dz ⟨cx, cy, cz, tx, ty, tz⟩) (Str.ofString "signs") = some (.ref Dz) := by rfl
    have k2 : kstB u (hdPs Dz ⟨cx, cy, cz, tx, ty, tz⟩) (Str.ofString "sent") = some (.str cx tx) := by rfl
    have k3 : kstB u (hdPs Dz ⟨cx, cy, cz, tx, ty, tz⟩) (Str.ofString "told") = some (.str cy ty) := by rfl
    have k4 : kstB u (hdPs Dz ⟨cx, cy, cz, tx, ty, tz⟩) (Str.ofString "meant") = some (.str cz tz) := by rfl
    generalize kstB u (hdPs Dz ⟨cx, cy, cz, tx, ty, tz⟩) = m at F1 k1 k2 k3 k4
    have N2 : News h₀ L h ((a, o) :: (Dz, W.listOf zs.toArray 0) :: (I, oI) :: base) := by
      intro p hp
      rcases List.mem_cons.mp hp with rfl | hp
      · exact N1 _ (.tail _ ha)
      rcases List.mem_cons.mp hp with rfl | hp
      · exact N1 _ (.tail _ hZ)
      · exact N1 _ hp
    have hi11 : i < its.size := by
      by_cases q : i < its.size
      · exact q
      · rw [Array.getElem?_eq_none (by omega)] at hv; cases hv
    have lX : X1.length ≤ 8 := hf.lens.1
    have lY : Y1.length ≤ 8 := hf.lens.2.1
    have lZ : Z1.length ≤ 32 := hf.lens.2.2.1
    have lXY : X1.length = Y1.length := hf.lens.2.2.2
    have lx : cx.length ≤ 99 := by have := hF.lens; omega
    have ly : cy.length ≤ 99 := by have := hF.lens; omega
    have lz : cz.length ≤ 396 := by have := hF.lens; omega
    refine st_tgt he r.handled F1 N2 (.tail _ (.tail _ (.tail _ hT))) fun h1 t1 F2 N3 => ?_
    refine cons_tk fun t2 => ?_
    refine st_place (t := t) (u := u1) (v := v1) (z := z1) g F2 N3 hS ho up_eq (up_ne (by decide +kernel) (up_ne (by decide +kernel) k1)) (up_ne (by decide +kernel) up_eq) lX fun tp h2 t3 F3 N4 => ?_
    have hp := fmod_range (k.fmod 11) (k := X1.length + 1) (by omega)
    generalize (k.fmod 11).fmod (X1.length + 1) = p at F3 hp
    refine cons_tk fun t4 => ?_
    refine st_sent (t := t) (u := u1) (v := v1) (z := z1) (m := up (up (up m (Str.ofString "n") (.int k t)) (Str.ofString "three") (.ref a)) (Str.ofString "place") (.int p tp)) g F3 N4 hS ho (up_ne (by decide +kernel) up_eq) (up_ne (by decide +kernel) (up_ne (by decide +kernel) (up_ne (by decide +kernel) k1))) (up_ne (by decide +kernel) (up_ne (by decide +kernel) up_eq)) up_eq (up_ne (by decide +kernel) (up_ne (by decide +kernel) (up_ne (by decide +kernel) k2))) lX lx hp.1 (by omega) fun J1 tj1 h3 t5 F4 hJ1 N5 => ?_
    refine cons_tk fun t6 => ?_
    refine st_told (t := t) (u := u1) (v := v1) (z := z1) (m := up (up (up (up m (Str.ofString "n") (.int k t)) (Str.ofString "three") (.ref a)) (Str.ofString "place") (.int p tp)) (Str.ofString "sent") (.str J1 tj1)) g F4 N5 hS ho (up_ne (by decide +kernel) (up_ne (by decide +kernel) up_eq)) (up_ne (by decide +kernel) (up_ne (by decide +kernel) (up_ne (by decide +kernel) (up_ne (by decide +kernel) k1)))) (up_ne (by decide +kernel) (up_ne (by decide +kernel) (up_ne (by decide +kernel) up_eq))) (up_ne (by decide +kernel) up_eq) (up_ne (by decide +kernel) (up_ne (by decide +kernel) (up_ne (by decide +kernel) (up_ne (by decide +kernel) k3)))) lY ly hp.1 (by omega) fun J2 tj2 h4 t7 F5 hJ2 N6 => ?_
    refine cons_tk fun t8 => ?_
    refine st_meant (t := t) (u := u1) (v := v1) (z := z1) (p := p) (tp := tp) (m := up (up (up (up (up m (Str.ofString "n") (.int k t)) (Str.ofString "three") (.ref a)) (Str.ofString "place") (.int p tp)) (Str.ofString "sent") (.str J1 tj1)) (Str.ofString "told") (.str J2 tj2)) g F5 N6 hS ho (up_ne (by decide +kernel) (up_ne (by decide +kernel) (up_ne (by decide +kernel) up_eq))) (up_ne (by decide +kernel) (up_ne (by decide +kernel) (up_ne (by decide +kernel) (up_ne (by decide +kernel) (up_ne (by decide +kernel) k1))))) (up_ne (by decide +kernel) (up_ne (by decide +kernel) (up_ne (by decide +kernel) (up_ne (by decide +kernel) up_eq)))) (up_ne (by decide +kernel) (up_ne (by decide +kernel) up_eq)) (up_ne (by decide +kernel) (up_ne (by decide +kernel) (up_ne (by decide +kernel) (up_ne (by decide +kernel) (up_ne (by decide +kernel) k4))))) lZ lz fun J3 tj3 h5 t9 F6 hJ3 N7 => ?_
    refine wpAny_execs_nil ?_
    have hz := signs_ok (k.fmod 29).toNat (by have := fmod_range k (k := 29) (by decide); omega)
    have hbo : b = .out := hb hi11
    subst hbo
    have hT := fits_turn hf hp.1 (by omega) hz
    refine ⟨rfl, ⟨J1, J2, J3, tj1, tj2, tj3⟩, h5, t9, _, rfl, F6, fun p hp => N7 p (.tail _ (.tail _ hp)), ?_, b1, ?_, fun q => hb1 q⟩
    · intro q hq
      change q ∈ [(Str.ofString "signs", Value.ref Dz), (Str.ofString "sent", .str J1 tj1), (Str.ofString "told", .str J2 tj2), (Str.ofString "meant", .str J3 tj3)] at hq
      rcases List.mem_cons.mp hq with rfl | hq
      · exact up_ne (z := Str.ofString "signs") (by decide +kernel) (up_ne (by decide +kernel) (up_ne (by decide +kernel) (up_ne (by decide +kernel) (up_ne (by decide +kernel) (up_ne (by decide +kernel) k1)))))
      rcases List.mem_cons.mp hq with rfl | hq
      · exact up_ne (z := Str.ofString "sent") (by decide +kernel) (up_ne (by decide +kernel) up_eq)
      rcases List.mem_cons.mp hq with rfl | hq
      · exact up_ne (z := Str.ofString "told") (by decide +kernel) up_eq
      · rw [List.mem_singleton.mp hq]; exact up_eq
    · have := hF.append hT
      dsimp only
      rw [hJ1, hJ2, hJ3]
      exact this.le (by omega)
  · intro c u h tk hI F1 N1
    obtain ⟨b, hF, _⟩ := hI
    exact hQ c b u h tk (hF.le (by omega)) F1
end
section
def IntV (v : Value) (k : Int) : Prop := ∃ t, v = .int k t
def chrF (v : Value) (l : List Value) (obs : List (Addr × Obj)) : Prop := obs = [] ∧ ∃ k t u, v = .int k t ∧ l = [.str ⟨#[k.toNat]⟩ u]
theorem chrF_ok : ∀ v c l obs, chrF v l obs → IntV v c → obs = [] ∧ StrsAre l ((fun k : Int => [⟨#[k.toNat]⟩]) c) := by
  rintro v c l obs ⟨rfl, k, t, u, rfl, rfl⟩ ⟨u', e⟩
  cases e
  exact ⟨rfl, .cons _ _ .nil⟩
theorem ints_of {vs0 : List Value} {ns : List Int} {vs : List Value} (hi : IntsAre vs0 ns) (hl : vs.length = vs0.toArray.size) (h : ∀ (j : Nat) v, vs[j]? = some v → vs0.toArray[j]? = some v) : vs = vs0 ∧ Paired IntV vs ns := by
  have e : vs = vs0 := by
    refine List.ext_getElem? fun j => ?_
    cases q : vs[j]? with
    | some v => simpa using (h j v q).symm
    | none =>
      have : vs.length ≤ j := by simpa using q
      have : vs0.length ≤ j := by simp at hl; omega
      exact (List.getElem?_eq_none this).symm
  refine ⟨e, ?_⟩
  rw [e]
  clear e h hl
  induction hi with
  | nil => exact .nil
  | cons n t _ ih => exact .cons ⟨t, rfl⟩ ih
theorem int_at {vs : List Value} {ns : List Int} (h : IntsAre vs ns) : ∀ {i : Nat} {v : Value}, vs[i]? = some v → ∃ k t, v = .int k t ∧ k ∈ ns := by
  induction h with
  | nil => intro i v e; simp at e
  | cons n t _ ih =>
    intro i v e
    cases i with
    | zero => simp at e; exact ⟨n, t, e.symm, .head _⟩
    | succ i =>
      obtain ⟨k, t, e, hm⟩ := ih (i := i) (v := v) (by simpa using e)
      exact ⟨k, t, e, .tail _ hm⟩
theorem b1_range : ∀ k ∈ b1L, 0 ≤ k ∧ k ≤ 1114111 := by decide
section
variable {w : World} {s₀ : Shared} {mg mb : Str → Option Value} {A : Around} {E : Value → Shared → Prop} {s : Shared} {n : Nat} {h₀ : Heap} {L : Addr} {m : Str → Option Value} {news : List (Addr × Obj)} {Q : Value → Shared → Prop}
theorem add_signs {l D1 : Addr} {ys : List Value} {e : Nat} {t1 t2 : Tok} (F : Fr h₀ L s.heap m) (N : News h₀ L s.heap ((l, W.listOf #[.str (Str.ofString "") t1, .str (Str.ofString "") t2] 0) :: (D1, W.listOf ys.toArray e) :: news)) (hS : StrsAre ys (b1L.flatMap fun k : Int => [(⟨#[k.toNat]⟩ : Str)]))
    (h : ∀ D (zs : List Value) h', Fr h₀ L h' m → News h₀ L h' [(D, W.listOf zs.toArray 0)] → StrsAre zs signsL → Q (.ref D) { s with heap := h' }) :
    wpAny (model pw w) A (binaryOp .Add (.ref D1) (.ref l)) Q E s := by
  refine add_arrays F N (News.isList N (.tail _ (.head _))) (News.isList N (.head _)) (fun h' F' N' => ?_) ?_
  · refine h _ _ h' F' (news_head N') ?_
    exact strs_append hS (.cons _ _ (.cons _ _ .nil))
  · have : ys.length = 27 := by rw [hS.length]; decide +kernel
    rw [sizeLine_eq, List.size_toArray, this]
    show 27 + 2 ≤ 16777216
    decide
theorem piece_call {k : Int} {t : Tok} (g : Gd w s₀ mg mb h₀) (F : Fr h₀ L s.heap m) (N : News h₀ L s.heap news) (r : Room A (n + 4))
    (h : ∀ a X Y Z u v z h' tk o, Fr h₀ L h' m → News h₀ L h' ((a, o) :: news) → (∀ p ∈ news, p.1 ≠ a) → (o = tup3 X Y Z u v z ∨ ∃ e, o = W.listOf #[.str X u, .str Y v, .str Z z] e) → Fits 8 .out .out X Y Z → Q (.ref a) { s with heap := h', toks := tk }) : wpAny (model pw w) A (call (.ref 145) [.int k t]) Q E s :=
  wpAny_call (piece_spec (g.keeps F.keep) r k t fun a X Y Z u v z h' tk o kk hn ho hd hf => h a X Y Z u v z h' tk o (fr_stays F kk) (news_new F N kk hn ho) (off_all N hn) hd hf)
theorem tail_call {k : Int} {t : Tok} (g : Gd w s₀ mg mb h₀) (F : Fr h₀ L s.heap m) (N : News h₀ L s.heap news) (r : Room A (n + 2))
    (h : ∀ a X Y Z u v z h' tk, Fr h₀ L h' m → News h₀ L h' ((a, tup3 X Y Z u v z) :: news) → (∀ p ∈ news, p.1 ≠ a) → (∃ b, Fits 6 .out b X Y Z) → Q (.ref a) { s with heap := h', toks := tk }) : wpAny (model pw w) A (call (.ref 152) [.int k t]) Q E s :=
  wpAny_call (tail_spec (g.keeps F.keep) r k t fun a X Y Z u v z h' tk kk hn ho hf => h a X Y Z u v z h' tk (fr_stays F kk) (news_new F N kk hn ho) (off_all N hn) hf)
end
def pieceF (_ : Value) (l : List Value) (obs : List (Addr × Obj)) : Prop := ∃ k t a D X Y Z o, l = [.ref D] ∧ obs = [(D, pairO k t a), (a, o)] ∧ Three o X Y Z ∧ Fits 8 .out .out X Y Z
theorem newPair_led {w : World} {A : Around} {E : Value → Shared → Prop} {s : Shared} {h₀ : Heap} {L : Addr} {m : Str → Option Value} {news : List (Addr × Obj)} {Q : Value → Shared → Prop} {k : Int} {t : Tok} {a : Addr} (F : Fr h₀ L s.heap m) (N : News h₀ L s.heap news)
    (h : ∀ D h', Fr h₀ L h' m → News h₀ L h' ((D, pairO k t a) :: news) → (∀ p ∈ news, p.1 ≠ D) → Q (.ref D) { s with heap := h' }) : wpAny (model pw w) A (newTuple [.int k t, .ref a]) Q E s :=
  newTuple_N F N (fun h' F' N' => h _ h' F' N' (off_all N (fresh_of (Nat.le_refl _)))) (by rw [sizeLine_eq]; show 2 ≤ 16777216; decide)
theorem eltEnd2 {h₀ : Heap} {L : Addr} {m : Str → Option Value} {s₂ : Shared} {C I D : Addr} {oC oI oD : Obj} {p q : Addr × Obj} {base : List (Addr × Obj)} {G : List (Addr × Obj) → Prop} {h' : Heap} {tk : Nat} (F : Fr h₀ L h' m) (N : News h₀ L h' (p :: q :: (C, oC) :: (I, oI) :: (D, oD) :: base))
    (offq : ∀ r ∈ (C, oC) :: (I, oI) :: (D, oD) :: base, r.1 ≠ q.1) (offp : ∀ r ∈ q :: (C, oC) :: (I, oI) :: (D, oD) :: base, r.1 ≠ p.1) (g : G [p, q]) :
    EltEnd h₀ L m s₂ C I D [(C, oC), (I, oI), (D, oD)] base G { s₂ with heap := h', toks := tk } := by
  refine ⟨[p, q], h', tk, g, rfl, fun r hr => ?_, F, fun r hr => N r ?_⟩
  · rcases List.mem_cons.mp hr with rfl | hr
    · exact ⟨Ne.symm (offp _ (.tail _ (.head _))), Ne.symm (offp _ (.tail _ (.tail _ (.head _)))), Ne.symm (offp _ (.tail _ (.tail _ (.tail _ (.head _)))))⟩
    · rw [List.mem_singleton.mp hr]
      exact ⟨Ne.symm (offq _ (.head _)), Ne.symm (offq _ (.tail _ (.head _))), Ne.symm (offq _ (.tail _ (.tail _ (.head _))))⟩
  · simp only [List.cons_append, List.nil_append, List.mem_cons] at hr ⊢
    rcases hr with h | h | h | h | h | h
    · exact .inr (.inr (.inl h))
    · exact .inr (.inr (.inr (.inl h)))
    · exact .inr (.inr (.inr (.inr (.inl h))))
    · exact .inl h
    · exact .inr (.inl h)
    · exact .inr (.inr (.inr (.inr (.inr h))))
theorem built_len {vs ys : List Value} {ob : List (Addr × Obj)} (h : Built pieceF vs ys ob) : ys.length = vs.length := by
  induction h with
  | nil => rfl
  | snoc _ hv ih =>
    obtain ⟨k, t, a, D, X, Y, Z, o, rfl, _⟩ := hv
    simp [ih]
section
variable {w : World} {A : Around} {E : Value → Shared → Prop} {s : Shared} {h₀ : Heap} {L : Addr} {m : Str → Option Value} {news : List (Addr × Obj)} {Q : Value → Shared → Prop}
theorem add_pairs {l D2 T : Addr} {ys : List Value} {e e' : Nat} (F : Fr h₀ L s.heap m) (N : News h₀ L s.heap ((l, W.listOf #[.ref T] e') :: news)) (hm : (D2, W.listOf ys.toArray e) ∈ news) (hlen : ys.length ≤ 10)
    (h : ∀ D h', Fr h₀ L h' m → News h₀ L h' ((D, W.listOf (ys ++ [Value.ref T]).toArray 0) :: (l, W.listOf #[.ref T] e') :: news) → Q (.ref D) { s with heap := h' }) :
    wpAny (model pw w) A (binaryOp .Add (.ref D2) (.ref l)) Q E s := by
  refine add_arrays F N (News.isList N (.tail _ hm)) (News.isList N (.head _)) (fun h' F' N' => h _ h' F' N') ?_
  rw [sizeLine_eq, List.size_toArray]
  show ys.length + 1 ≤ 16777216
  omega
end
local macro_rules | `(tactic| walk_at "newTuple") => `(tactic| (refine newPair_led (by assumption) (by assumption) ?_; intro D' h' F' N' offD'; dsimp only))
local macro_rules | `(tactic| walk_at "binaryOp Add ref ref") => `(tactic| first
  | (refine add_signs (by assumption) (by assumption) (by assumption) ?_; intro D' zs' h' F' N' hZ'; dsimp only)
  | (refine add_pairs (by assumption) (by assumption) (by k_mem) (by assumption) ?_; intro D' h' F' N'; dsimp only))
local macro_rules | `(tactic| walk_at "call builtin:chr") => `(tactic| refine chr_of_range (b1_range _ (by assumption)).1 (b1_range _ (by assumption)).2 ?_)
local macro_rules | `(tactic| walk_at "call ref") => `(tactic| first
  | (refine nothing_call2 (by assumption) (by assumption) (by assumption) (by assumption) ?_; intro a' vs' e' h' tk' F' N' hI' off'; dsimp only)
  | (refine piece_call (by assumption) (by assumption) (by assumption) (by assumption) ?_; intro a' X' Y' Z' u' v' z' h' tk' o' F' N' off' hd' hf'; dsimp only)
  | (refine tail_call (by assumption) (by assumption) (by assumption) (by assumption) ?_; intro a' X' Y' Z' u' v' z' h' tk' F' N' off' hf'; dsimp only))
theorem header_loop' {w : World} {s₀ : Shared} {mg mb : Str → Option Value} {A : Around} {E : Value → Shared → Prop} {s : Shared} {n : Nat} {h₀ : Heap} {L D Dz : Addr} {m₀ : Str → Option Value} {Q : Flow → Shared → Prop} {base : List (Addr × Obj)} {its : Array Value} {zs : List Value} {c₀ : Hd}
    (g : Gd w s₀ mg mb h₀) (r : Room (A.deeper (envH L)) (n + 1)) (F : Fr h₀ L s.heap m₀) (N : News h₀ L s.heap base) (hk : ∀ p ∈ hdPs Dz c₀, m₀ p.1 = some p.2) (hS : StrsAre zs signsL) (hZ : (Dz, W.listOf zs.toArray 0) ∈ base) (hD : (D, W.listOf its 0) ∈ base) (h0 : Fits 0 .out .out c₀.x c₀.y c₀.z)
    (hit : ∀ (i : Nat) (v : Value), its[i]? = some v → ItemOk base (i + 1 < its.size) v) (hsz : its.size ≤ 11)
    (hQ : ∀ c b u h' tk, Fits 200 .out b c.x c.y c.z → Fr h₀ L h' (kstB u (hdPs Dz c)) → Q .next { s with heap := h', toks := tk }) :
    wpAny (model pw w) (A.deeper (envH L)) (pyIter (.ref D)) (fun it s₂ => codeAny (model pw w) (A.deeper (envH L)) (.forLoop tgtH it bodyH [] (envH L)) (fun r s' => match r with | .ok f => Q f s' | .error e => cameBackBy (model pw w) (A.deeper (envH L)) (envH L) E e s') s₂) E s :=
  header_loop g r F N hD hZ hS hk h0 hit hsz hQ
theorem items_ok {vs ys : List Value} {ob base : List (Addr × Obj)} {T aT : Addr} {k : Int} {t : Tok} {o : Obj} {X Y Z : Str} {b : St} (h : Built pieceF vs ys ob) (hb : ∀ p ∈ ob, p ∈ base) (hT : (T, pairO k t aT) ∈ base) (ha : (aT, o) ∈ base) (ho : Three o X Y Z) (hf : Fits 8 .out b X Y Z) :
    ∀ (i : Nat) (v : Value), (ys ++ [Value.ref T]).toArray[i]? = some v → ItemOk base (i + 1 < (ys ++ [Value.ref T]).toArray.size) v := by
  have hys : ∀ v ∈ ys, ItemOk base True v := by
    induction h with
    | nil => intro v hv; cases hv
    | snoc _ hv ih =>
      intro v hm
      rcases List.mem_append.mp hm with hm | hm
      · exact ih (fun p hp => hb p (List.mem_append.mpr (.inr hp))) v hm
      · obtain ⟨k, t, a, D, X, Y, Z, o, rfl, rfl, h3, hf⟩ := hv
        rw [List.mem_singleton.mp hm]
        exact ⟨D, k, t, a, o, X, Y, Z, .out, rfl, hb _ (List.mem_append.mpr (.inl (.head _))), hb _ (List.mem_append.mpr (.inl (.tail _ (.head _)))), h3, hf, fun _ => rfl⟩
  intro i v hv
  rw [List.getElem?_toArray] at hv
  by_cases q : i < ys.length
  · rw [List.getElem?_append_left q] at hv
    obtain ⟨T', k', t', a', o', X', Y', Z', b', e, h1, h2, h3, h4, h5⟩ := hys v (List.mem_of_getElem? hv)
    exact ⟨T', k', t', a', o', X', Y', Z', b', e, h1, h2, h3, h4, fun _ => h5 trivial⟩
  · rw [List.getElem?_append_right (by omega)] at hv
    have : i - ys.length = 0 := by
      by_cases z : i - ys.length = 0
      · exact z
      · rw [List.getElem?_eq_none (by simp; omega)] at hv; cases hv
    rw [this] at hv
    cases hv
    refine ⟨T, k, t, aT, o, X, Y, Z, b, rfl, hT, ha, ho, hf, fun w => ?_⟩
    rw [List.size_toArray, List.length_append] at w
    simp at w
    omega
set_option maxHeartbeats 1000000 in
theorem header_spec {w : World} {s₀ : Shared} {mg mb : Str → Option Value} {A : Around} {s : Shared} {n : Nat} {R : Result → Shared → Prop} (g : Gd w s₀ mg mb s.heap) (r : Room A (n + 5)) (a : Addr) (vs : List Value) (ns : List Int) (hl : s.heap.IsList a vs.toArray) (hi : IntsAre vs ns) (hn1 : 1 ≤ ns.length) (hn2 : ns.length ≤ 10)
    (hR : ∀ t X Y Z u v z h' tk, s.heap.StaysIn h' → s.heap.get? t = none → h'.get? t = some (tup3 X Y Z u v z) → (∃ b, Fits 200 .out b X Y Z) → R (.ok (.ret (.ref t))) { s with heap := h', toks := tk }) :
    codeAny (model pw w) A (.call (.ref 157) ⟨[.ref a], []⟩) R s := by
  w_on
  refine g.open ?_
  intro KX X V GL T B TE TW _ _ M
  refine call_def (i := 19) (c := 156) (o := o157 w.params) (pm := .str (Str.ofString "law_ny0220_01") 2223) (binds := [(Str.ofString "numbers", .ref a)]) g r (by kernel_rfl) (by kernel_rfl) (by kernel_rfl) (by kernel_rfl) (by kernel_rfl) (by kernel_rfl) (by decide +kernel) ?_
  intro h₁ F rA
  have N0 : News s.heap s.heap.objs.size h₁ [] := News.nil
  show wpAny _ _ (execs (_ :: _) _) _ _ _
  k_fold
  repeat ((fail_if_success (with_reducible show wpAny _ _ (eval (.ListComp _ _ _ _) _) _ _ _)); first | walk1 | (dsimp only; walk1))
  refine comp_led' (by assumption : Fr s.heap s.heap.objs.size _ _) chrF (by with_unfolding_all rfl) (by decide) (by rfl) (by decide) (by rfl) ?_
  repeat ((fail_if_success (with_reducible show wpAny _ _ (pyIter _) _ _ _)); first | walk1 | (dsimp only; walk1))
  refine laid_list rA.handled (by assumption) (by assumption) (list_in (by k_mem)) ?_
  intro I h' LD
  refine ⟨I, _, _, _, rfl, ?_, LD, elts_plain ?_, ?_⟩
  · rw [sizeLine_eq, List.size_toArray, IntsAre.length (by assumption)]; decide
  · intro C D oC oI oD i v m₂ ob h tk E' hi hP hC hx2 F' N'
    obtain ⟨k, tv, rfl, hk⟩ := int_at (by assumption : IntsAre _ b1L) (by simpa using hP)
    repeat ((fail_if_success (with_reducible show EltEnd _ _ _ _ _ _ _ _ _ _ _)); first | walk1 | (dsimp only; walk1))
    exact eltEnd0 (by assumption) (by assumption) ⟨rfl, _, _, _, rfl, rfl⟩
  · intro D1 h' tk ys e ob vs1 hl1 hv1 hB F' N' off
    obtain ⟨rfl, hS⟩ := built_texts chrF_ok hB _ (ints_of (by assumption) hl1 hv1).2
    clear hB hl1 hv1
    dsimp only [List.nil_append] at N'
    repeat ((fail_if_success (with_reducible show wpAny _ _ (exec (.For _ _ _ _ _) _) _ _ _)); first | walk1 | (dsimp only; walk1))
    refine wpAny_For ?_
    repeat ((fail_if_success (with_reducible show wpAny _ _ (eval (.ListComp _ _ _ _) _) _ _ _)); first | walk1 | (dsimp only; walk1))
    refine comp_led' (by assumption : Fr s.heap s.heap.objs.size _ _) pieceF (by with_unfolding_all rfl) (by decide) (by rfl) (by decide) (by rfl) ?_
    repeat ((fail_if_success (with_reducible show wpAny _ _ (pyIter _) _ _ _)); first | walk1 | (dsimp only; walk1))
    refine laid_list rA.handled (by assumption) (by assumption) (fun h' F' _ => hl.at fun o e => Fr.keep F' _ _ e) ?_
    intro I2 h2 LD2
    refine ⟨I2, _, _, _, rfl, ?_, LD2, elts_plain ?_, ?_⟩
    · rw [sizeLine_eq, List.size_toArray, hi.length]; omega
    · intro C D oC oI oD i v m₂ ob h tk E' hii hP hC hx2 F' N'
      obtain ⟨k, tv, rfl, hk⟩ := int_at hi (by simpa using hP)
      repeat ((fail_if_success (with_reducible show EltEnd _ _ _ _ _ _ _ _ _ _ _)); first | walk1 | (dsimp only; walk1))
      exact eltEnd2 (by assumption) (by assumption) (by assumption) (by assumption) ⟨k, tv, _, _, _, _, _, _, rfl, rfl, ⟨_, _, _, by assumption⟩, by assumption⟩
    · intro D2 h2 tk2 ys2 e2 ob2 vs2 hl2 hv2 hB2 F2 N2 off2
      have hlen2 : ys2.length ≤ 10 := by rw [built_len hB2, hl2, List.size_toArray, hi.length]; exact hn2
      repeat ((fail_if_success (with_reducible show wpAny _ _ (pyIter _) _ _ _)); first | walk1 | (dsimp only; walk1))
      obtain ⟨bT, hfT⟩ := (by assumption : ∃ b, Fits 6 .out b _ _ _)
      refine header_loop' (c₀ := ⟨Str.ofString "", Str.ofString "", Str.ofString "", _, _, _⟩) g rA (by assumption) (by assumption) (four_keys (by rfl) (by rfl) (by rfl) (by rfl)) (by assumption) (.tail _ (.tail _ (.tail _ (.tail _ (.tail _ (List.mem_append.mpr (.inr (.head _)))))))) (by k_mem) fits_nil ?hit ?hsz ?fin
      case hsz => rw [List.size_toArray, List.length_append]; exact Nat.succ_le_succ hlen2
      case hit => exact items_ok hB2 (fun p hp => .tail _ (.tail _ (.tail _ (.tail _ (.tail _ (List.mem_append.mpr (.inl hp))))))) (by k_mem) (by k_mem) ⟨_, _, _, Or.inl rfl⟩ (hfT.le (by decide))
      intro c b u h' tk hf F'
      obtain ⟨x, y, z, tx, ty, tz⟩ := c
      dsimp only [hdPs] at F'
      replace F' : Fr s.heap s.heap.objs.size h' _ := F'
      have N' : News s.heap s.heap.objs.size h' [] := News.nil
      show wpAny _ _ (execs (_ :: _) _) _ _ _
      repeat' (first | walk1 | (dsimp only; walk1))
      exact hR _ _ _ _ _ _ _ _ _ (Fr.keep (by assumption)) (News.fresh (by assumption) (.head _)) (News.get (by assumption) (.head _)) ⟨b, hf⟩
end
section
theorem moved_len {x : Str} {n : Nat} (h : x.length ≤ n) : (movedS x).length ≤ n := by
  have e := mv_len x.cps.toList (⟨#[]⟩, ⟨#[]⟩, ⟨#[]⟩)
  have e0 : (⟨#[]⟩ : Str).length = 0 := rfl
  have e1 : x.cps.toList.length = x.length := by simp [Str.length]
  unfold movedS mvRun
  dsimp only at e ⊢
  rw [e0, e1] at e
  split
  · omega
  · rw [Str.length_append, Str.length_append]; omega
theorem prepared_len {x : Str} {n : Nat} (h : x.length ≤ n) : (preparedS x).length ≤ 4 * n := by
  have e : ∀ l : List Nat, (l.flatMap fun c => (prepS c).cps.toList).length ≤ 4 * l.length := by
    intro l
    induction l with
    | nil => exact Nat.le_refl _
    | cons c r ih =>
      have : (prepS c).cps.toList.length ≤ 4 := by simpa [Str.length] using prep_len c
      rw [List.flatMap_cons, List.length_append, List.length_cons]
      omega
  have := e x.cps.toList
  have e1 : x.cps.toList.length = x.length := by simp [Str.length]
  have e2 : (preparedS x).length = (x.cps.toList.flatMap fun c => (prepS c).cps.toList).length := by simp [preparedS, Str.length]
  omega
theorem strike_len {x : Str} {n : Nat} (h : x.length ≤ n) : (Txt.replace x (Str.ofString "\ue001") (Str.ofString "")).length ≤ n := by
  rw [str_e1, str_nil]
  have e : (Txt.replace x ⟨#[57345]⟩ ⟨#[]⟩).length = (x.cps.toList.filter (· != 57345)).length := by rw [← replace_strikes]; simp [Str.length]
  have e1 : x.cps.toList.length = x.length := by simp [Str.length]
  have := List.length_filter_le (· != 57345) x.cps.toList
  omega
theorem parse_short {x : Str} {n : Nat} (h : x.length ≤ n) : ∀ y ∈ parseS x, y.length ≤ n := by
  have e1 : x.cps.toList.length = x.length := by simp [Str.length]
  have e0 : (⟨#[]⟩ : Str).length = 0 := rfl
  have q := pa_all (n := n) x.cps.toList ⟨[], ⟨#[]⟩, false, false⟩ (fun y hy => by cases hy) (by dsimp only; omega)
  change (∀ y ∈ (paRun x.cps.toList).rs, y.length ≤ n) ∧ (paRun x.cps.toList).p.length ≤ n at q
  intro y hy
  unfold parseS at hy
  dsimp only at hy
  obtain ⟨z, hz, rfl⟩ := List.mem_map.mp hy
  refine Nat.le_trans (len_strip z) ?_
  split at hz
  · exact q.1 z hz
  · rcases List.mem_append.mp hz with hz | hz
    · exact q.1 z hz
    · rw [List.mem_singleton.mp hz]; exact q.2
section
variable {w : World} {s₀ : Shared} {mg mb : Str → Option Value} {A : Around} {E : Value → Shared → Prop} {s : Shared} {n : Nat} {h₀ : Heap} {L : Addr} {m : Str → Option Value} {news : List (Addr × Obj)} {Q : Value → Shared → Prop} {x : Str} {t : Tok}
theorem moved_call (g : Gd w s₀ mg mb h₀) (F : Fr h₀ L s.heap m) (N : News h₀ L s.heap news) (r : Room A (n + 2)) (hp : 1 ≤ s.toks) (hx : x.length ≤ 200)
    (h : ∀ u h' tk, 1 ≤ tk → Fr h₀ L h' m → News h₀ L h' news → (movedS x).length ≤ 200 → Q (.str (movedS x) u) { s with heap := h', toks := tk }) : wpAny (model pw w) A (call (.ref 107) [.str x t]) Q E s := by
  refine wpAny_with_toks hp (wpAny_call (moved_spec (g.keeps F.keep) r x t (by omega) fun u h' tk k hq => ?_))
  exact h u h' tk hq (fr_stays F k) (news_stays N k) (moved_len hx)
theorem parse_call (g : Gd w s₀ mg mb h₀) (F : Fr h₀ L s.heap m) (N : News h₀ L s.heap news) (r : Room A (n + 2)) (hx : x.length ≤ 4000)
    (h : ∀ a (vs : Array Value) e h' tk, Fr h₀ L h' m → News h₀ L h' ((a, W.listOf vs e) :: news) → StrsAre vs.toList (parseS x) → Q (.ref a) { s with heap := h', toks := tk }) : wpAny (model pw w) A (call (.ref 83) [.str x t]) Q E s :=
  wpAny_call (parse_spec (g.keeps F.keep) r x t hx fun a vs e h' tk k hn ho hS => h a vs e h' tk (fr_stays F k) (news_new F N k hn ho) hS)
theorem items_call (g : Gd w s₀ mg mb h₀) (F : Fr h₀ L s.heap m) (N : News h₀ L s.heap news) (r : Room A (n + 2)) (hx : x.length ≤ 4000)
    (h : ∀ a (vs : Array Value) e h' tk, Fr h₀ L h' m → News h₀ L h' ((a, W.listOf vs e) :: news) → StrsAre vs.toList (itemsS x) → Q (.ref a) { s with heap := h', toks := tk }) : wpAny (model pw w) A (call (.ref 112) [.str x t]) Q E s :=
  wpAny_call (items_spec (g.keeps F.keep) r x t hx fun a vs e h' tk k hn ho hS => h a vs e h' tk (fr_stays F k) (news_new F N k hn ho) hS)
theorem prepared_call (g : Gd w s₀ mg mb h₀) (F : Fr h₀ L s.heap m) (N : News h₀ L s.heap news) (r : Room A (n + 2)) (hx : x.length ≤ 200)
    (h : ∀ u h' tk, Fr h₀ L h' m → News h₀ L h' news → (preparedS x).length ≤ 800 → Q (.str (preparedS x) u) { s with heap := h', toks := tk }) : wpAny (model pw w) A (call (.ref 100) [.str x t]) Q E s :=
  wpAny_call (prepared_spec (g.keeps F.keep) r x t (by omega) fun u h' tk k => h u h' tk (fr_stays F k) (news_stays N k) (prepared_len hx))
theorem held_call (g : Gd w s₀ mg mb h₀) (F : Fr h₀ L s.heap m) (N : News h₀ L s.heap news) (r : Room A (n + 2)) (hx : x.length ≤ 200)
    (h : ∀ h' tk, Fr h₀ L h' m → News h₀ L h' news → Q (.bool true) { s with heap := h', toks := tk }) : wpAny (model pw w) A (call (.ref 95) [.str x t]) Q E s :=
  wpAny_call (held_spec (g.keeps F.keep) r x t (by omega) fun h' tk k => h h' tk (fr_stays F k) (news_stays N k))
/-- what the header's three texts come to -/
structure Law (X Y Z : Str) : Prop where
  late : itemsS (Txt.replace (movedS Y) (Str.ofString "\ue001") (Str.ofString "")) = parseS (movedS X)
  early : itemsS Z = parseS (preparedS X)
  last : itemsS Z = (parseS (movedS X)).map fun x => Txt.strip (preparedS x)
  lX : X.length ≤ 200
  lY : Y.length ≤ 200
  lZ : Z.length ≤ 800
theorem law_of {X Y Z : Str} {b : St} (h : Fits 200 .out b X Y Z) : Law X Y Z := by
  have l := h.lens
  obtain ⟨ts, rfl, rfl, rfl, hr, _⟩ := h
  exact ⟨(law1 hr).2.trans (law1 hr).1.symm, (law2 hr).1.symm, (law3 hr).symm, l.1, l.2.1, l.2.2.1⟩
theorem header_call {a : Addr} {vs : List Value} {ns : List Int} (g : Gd w s₀ mg mb h₀) (F : Fr h₀ L s.heap m) (N : News h₀ L s.heap news) (r : Room A (n + 5)) (hl : s.heap.IsList a vs.toArray) (hi : IntsAre vs ns) (hn1 : 1 ≤ ns.length) (hn2 : ns.length ≤ 10)
    (h : ∀ t X Y Z u v z h' tk, Fr h₀ L h' m → News h₀ L h' ((t, tup3 X Y Z u v z) :: news) → Law X Y Z → Q (.ref t) { s with heap := h', toks := tk }) : wpAny (model pw w) A (call (.ref 157) [.ref a]) Q E s :=
  wpAny_call (header_spec (g.keeps F.keep) r a vs ns hl hi hn1 hn2 fun t X Y Z u v z h' tk k hn ho hf => h t X Y Z u v z h' tk (fr_stays F k) (news_new F N k hn ho) (law_of hf.choose_spec))
end
end
section
def prepStripF (v : Value) (l : List Value) (obs : List (Addr × Obj)) : Prop := obs = [] ∧ ∃ x t u, v = .str x t ∧ l = [.str (Txt.strip (preparedS x)) u]
theorem prepStripF_ok : ∀ v c l obs, prepStripF v l obs → TextV v c → obs = [] ∧ StrsAre l ((fun x => [Txt.strip (preparedS x)]) c) := by
  rintro v c l obs ⟨rfl, x, t, u, rfl, rfl⟩ ⟨u', e⟩
  cases e
  exact ⟨rfl, .cons _ _ .nil⟩
theorem flat_map1 {α β : Type} (f : α → β) (l : List α) : (l.flatMap fun x => [f x]) = l.map f := by
  induction l with
  | nil => rfl
  | cons a r ih => rw [List.flatMap_cons, ih]; rfl
theorem parse_count {x : Str} {n : Nat} (h : x.length ≤ n) : (parseS x).length ≤ n + 1 := by
  have q := (pa_len x.cps.toList ⟨[], ⟨#[]⟩, false, false⟩).1
  have e1 : x.cps.toList.length = x.length := by simp [Str.length]
  unfold parseS paRun
  dsimp only [List.length_nil] at q ⊢
  rw [List.length_map]
  split
  · omega
  · rw [List.length_append, List.length_singleton]; omega
theorem strike_any {w : World} {A : Around} {E : Value → Shared → Prop} {s : Shared} {Q : Value → Shared → Prop} {x : Str} {t : Tok} {u : Nat} (hx : x.length ≤ 200) (hu : 1 ≤ u)
    (h : ∀ t' k, (Txt.replace x (Str.ofString "\ue001") (Str.ofString "")).length ≤ 200 → Q (.str (Txt.replace x (Str.ofString "\ue001") (Str.ofString "")) t') { s with toks := k }) :
    wpAny (model pw w) A (call (.builtin "str.replace") [.str x t, .str (Str.ofString "\ue001") u, .str (Str.ofString "") (u + 1)]) Q E s :=
  SC.replaceW (Nat.ne_of_gt hu) (Nat.succ_ne_zero _) (Nat.ne_of_lt (Nat.lt_succ_self _)) (by decide) (Nat.le_trans hx (by decide)) (by decide) fun t' k => h t' k (strike_len hx)
local macro_rules | `(tactic| walk_at "call ref") => `(tactic| first
  | ((with_reducible show wpAny _ _ (call (.ref 157) _) _ _ _); refine header_call (by assumption) (by assumption) (by assumption) (by assumption) (by assumption) (by assumption) (by assumption) (by assumption) ?_; intro a' X' Y' Z' u' v' z' h' tk' F' N' hL'; dsimp only)
  | ((with_reducible show wpAny _ _ (call (.ref 107) _) _ _ _); refine moved_call (by assumption) (by assumption) (by assumption) (by assumption) (by first | exact Nat.le_add_left _ _ | (dsimp only; omega)) (by first | assumption | exact Law.lX (by assumption) | exact Law.lY (by assumption)) ?_; intro u' h' tk' htk' F' N' lm'; dsimp only)
  | ((with_reducible show wpAny _ _ (call (.ref 83) _) _ _ _); refine parse_call (by assumption) (by assumption) (by assumption) (by assumption) (by first | exact Nat.le_trans (by assumption) (by decide)) ?_; intro a' vs' e' h' tk' F' N' hS'; dsimp only)
  | ((with_reducible show wpAny _ _ (call (.ref 112) _) _ _ _); refine items_call (by assumption) (by assumption) (by assumption) (by assumption) (by first | exact Nat.le_trans (by assumption) (by decide) | exact Nat.le_trans (Law.lZ (by assumption)) (by decide)) ?_; intro a' vs' e' h' tk' F' N' hS'; dsimp only)
  | ((with_reducible show wpAny _ _ (call (.ref 100) _) _ _ _); refine prepared_call (by assumption) (by assumption) (by assumption) (by assumption) (by first | assumption | exact Law.lX (by assumption)) ?_; intro u' h' tk' F' N' lp'; dsimp only)
  | ((with_reducible show wpAny _ _ (call (.ref 95) _) _ _ _); refine held_call (by assumption) (by assumption) (by assumption) (by assumption) (by exact Law.lX (by assumption)) ?_; intro h' tk' F' N'; dsimp only))
local macro_rules | `(tactic| walk_at "subscriptTail") => `(tactic| ((with_reducible show wpAny _ _ (subscriptTail _ (Expr.Constant _ _ _) _ _) _ _ _); first | ((with_reducible show wpAny _ _ (subscriptTail _ _ _ (Value.int 0 _)) _ _ _); refine item_t0 (by assumption) (by k_mem) (.inl rfl) ?_) | ((with_reducible show wpAny _ _ (subscriptTail _ _ _ (Value.int 1 _)) _ _ _); refine item_t1 (by assumption) (by k_mem) (.inl rfl) ?_) | ((with_reducible show wpAny _ _ (subscriptTail _ _ _ (Value.int 2 _)) _ _ _); refine item_t2 (by assumption) (by k_mem) (.inl rfl) ?_)))
local macro_rules | `(tactic| walk_at "call builtin:str.replace") => `(tactic| (dsimp only [List.cons_append, List.nil_append]; refine strike_any (by assumption) (by assumption) ?_; intro t' k' ls'; dsimp only))
def lawL : List Stmt := (bodyOf 20).drop 1
abbrev envL (L : Addr) : Env := envOf (nameOf 20) (scopeOf 20) L 162 (.ref 161)
set_option maxHeartbeats 1000000 in
theorem law_rest {w : World} {s₀ : Shared} {mg mb : Str → Option Value} {A : Around} {E : Value → Shared → Prop} {s : Shared} {n : Nat} {h₀ : Heap} {L a t : Addr} {Q : Flow → Shared → Prop} {X Y Z : Str} {u v z : Tok} (g : Gd w s₀ mg mb h₀) (r : Room (A.deeper (envL L)) (n + 5))
    (F : Fr h₀ L s.heap (fun y => if y = Str.ofString "made" then some (.ref t) else [(Str.ofString "script", Value.ref a)].reverse.lookup y)) (N : News h₀ L s.heap [(t, tup3 X Y Z u v z)]) (hL : Law X Y Z)
    (hQ : ∀ h' tk, h₀.StaysIn h' → Q (.ret (.bool true)) { s with heap := h', toks := tk }) : wpAny (model pw w) (A.deeper (envL L)) (execs lawL (envL L)) Q E s := by
  w_on
  refine g.open ?_
  intro KX X_ V GL T B TE TW _ _ M
  show wpAny _ _ (execs (_ :: _) _) _ _ _
  repeat' ((fail_if_success (with_reducible show wpAny _ _ (compareOp _ _ _) _ _ _)); first | walk1 | (dsimp only; walk1))
  refine ne_texts (xs := parseS (movedS X)) (News.isList (by assumption) (by k_mem)) (News.isList (by assumption) (by k_mem)) (by assumption) ?h2 (Nat.lt_of_le_of_lt (Nat.le_add_right _ _) r.units) ?h3
  case h2 => rw [← hL.late]; assumption
  try dsimp only
  repeat' ((fail_if_success (with_reducible show wpAny _ _ (compareOp _ _ _) _ _ _)); first | walk1 | (dsimp only; walk1))
  refine eq_texts (xs := itemsS Z) (News.isList (by assumption) (by k_mem)) (News.isList (by assumption) (by k_mem)) ?h4 (by assumption) (Nat.lt_of_le_of_lt (Nat.le_add_right _ _) r.units) ?h5
  case h4 => rw [hL.early]; assumption
  try dsimp only
  repeat' ((fail_if_success (with_reducible show wpAny _ _ (eval (.ListComp _ _ _ _) _) _ _ _)); first | walk1 | (dsimp only; walk1))
  refine comp_led' (by assumption : Fr h₀ L _ _) prepStripF (by with_unfolding_all rfl) (by decide) (by rfl) (by decide) (by rfl) ?_
  repeat ((fail_if_success (with_reducible show wpAny _ _ (pyIter _) _ _ _)); first | walk1 | (dsimp only; walk1))
  refine laid_list r.handled (by assumption) (by assumption) (list_in (by k_mem)) ?_
  intro I h' LD
  refine ⟨I, _, _, _, rfl, ?_, LD, elts_plain ?_, ?_⟩
  · have hc := (by assumption : StrsAre _ (parseS (movedS X))).length
    rw [Array.length_toList] at hc
    rw [sizeLine_eq, hc]
    exact Nat.le_trans (parse_count (moved_len hL.lX)) (by decide)
  · intro C D oC oI oD i v m₂ ob h tk E' hi hP hC hx2 F' N'
    obtain ⟨y, ty, rfl, ly⟩ := str_at (by assumption) (parse_short (moved_len hL.lX)) (by rw [Array.getElem?_toList]; exact hP)
    repeat ((fail_if_success (with_reducible show EltEnd _ _ _ _ _ _ _ _ _ _ _)); first | walk1 | (dsimp only; walk1))
    exact eltEnd0 (by assumption) (by assumption) ⟨rfl, _, _, _, rfl, rfl⟩
  · intro D h' tk ys e ob vs hl hv hB F' N' off
    obtain ⟨rfl, hS⟩ := built_texts prepStripF_ok hB _ (items_of (by assumption) hl hv)
    repeat ((fail_if_success (with_reducible show wpAny _ _ (compareOp _ _ _) _ _ _)); first | walk1 | (dsimp only; walk1))
    dsimp only [List.nil_append] at N'
    rw [flat_map1, ← hL.last] at hS
    refine eq_texts (xs := itemsS Z) (News.isList N' (.head _)) (News.isList N' (.tail _ (by k_mem))) ?h6 (by assumption) (Nat.lt_of_le_of_lt (Nat.le_add_right _ _) r.units) (hQ _ _ (Fr.keep F'))
    case h6 => rw [List.toList_toArray]; exact hS
set_option maxHeartbeats 1000000 in
theorem law_spec {w : World} {s₀ : Shared} {mg mb : Str → Option Value} {A : Around} {s : Shared} {n : Nat} {R : Result → Shared → Prop} (g : Gd w s₀ mg mb s.heap) (r : Room A (n + 6)) (a : Addr) (vs : List Value) (ns : List Int) (hl : s.heap.IsList a vs.toArray) (hi : IntsAre vs ns) (hn2 : ns.length ≤ 63)
    (hR : ∀ h' tk, s.heap.StaysIn h' → R (.ok (.ret (.bool true))) { s with heap := h', toks := tk }) :
    codeAny (model pw w) A (.call (.ref 162) ⟨[.ref a], []⟩) R s := by
  w_on
  refine g.open ?_
  intro KX X V GL T B TE TW _ _ M
  refine call_def (i := 20) (c := 161) (o := o162 w.params) (pm := .str (Str.ofString "law_ny0220_01") 2223) (binds := [(Str.ofString "script", .ref a)]) g r (by kernel_rfl) (by kernel_rfl) (by kernel_rfl) (by kernel_rfl) (by kernel_rfl) (by kernel_rfl) (by decide +kernel) ?_
  intro h₁ F rA
  have N0 : News s.heap s.heap.objs.size h₁ [] := News.nil
  show wpAny _ _ (execs (_ :: _) _) _ _ _
  k_fold
  repeat' ((fail_if_success (with_reducible show wpAny _ _ (call (.ref 157) _) _ _ _)); first | walk1 | (dsimp only; walk1))
  · refine header_call g (by assumption) (by assumption) rA (News.isList (by assumption) (.head _)) (by assumption) (by rw [List.length_take]; omega) (by rw [List.length_take]; omega) ?_
    intro t' X' Y' Z' u' v' z' h' tk' F' N' hL'
    replace N' := news_head N'
    repeat' ((fail_if_success (with_reducible show wpAny _ _ (execs _ _) _ _ _)); first | walk1 | (dsimp only; walk1))
    exact law_rest g rA (by assumption) (by assumption) hL' hR
  · refine header_call (ns := [170273, 78, 36932669, 63, 2]) g (by assumption) (by assumption) rA (News.isList (by assumption) (.head _)) (.cons _ _ (.cons _ _ (.cons _ _ (.cons _ _ (.cons _ _ .nil))))) (by decide) (by decide) ?_
    intro t' X' Y' Z' u' v' z' h' tk' F' N' hL'
    replace N' := news_head N'
    repeat' ((fail_if_success (with_reducible show wpAny _ _ (execs _ _) _ _ _)); first | walk1 | (dsimp only; walk1))
    exact law_rest g rA (by assumption) (by assumption) hL' hR
end
section
theorem gn_law (P : Params) : nsIn (KF P) mainGlobals (Str.ofString "law") = some (some (.ref 162)) := by kernel_rfl
theorem law_walk : WalkO qv loose0 (XL qv []) hook.says rL.row.toRowW dLaw [] fun f vs => PySem.call f vs := by
  w_on
  intro w s₀ s₁ mg mb G Y fa o pm cd doc dV kV ho hd hcd hD hmg hg args vals as hpre hlay hrd hwl hlo
  have KX := kIn_of Y
  have g : Gd w s₀ mg mb s₁.heap := ⟨G, KX⟩
  wrow_args hpre hlay hrd hwl hlo
  rename IntsAre _ _ => hI
  rename Heap.IsList _ _ _ => hL
  rename ¬ _ < _ => h63
  have e := mg_of KX (Top.g g.G.T) (gn_law w.params)
  have en : dLaw.name = Str.ofString "law" := by kernel_rfl
  rw [en, e] at hmg
  cases hmg
  refine enter_call ?_
  refine law_spec (n := 0) g ⟨rfl, by decide, by decide⟩ _ _ _ hL hI (by omega) fun h' tk k => ?_
  refine GoodW.toG ⟨.inl ⟨_, _, _, rfl, fun _ => rfl, .bool true, ?_, fun _ => ⟨.nil, fun _ hm => nomatch hm⟩⟩, k, rfl, hg⟩
  wrow_post
end
end Mine
end
theorem PySem.Challenge.cw_ny0220_01_holds : PySem.Challenge.rw_ny0220_01.Holds :=
  Mine.hd Mine.law_walk
