import PyProof.Rows.All
import Wide.All
import OpenK.AllK
import KE.KLcTest
import KE.KLam
import KE.KPopAny
import KE.KEqSeq
import KE.KCallBy
import Wide.FinOn
import Lean
import PySem.Challenge.RW_tr0055_02
open PySem PySem.W PySem.Calls PyProof.Rows
set_option Elab.async false
set_option maxRecDepth 100000
set_option linter.all false
set_option compiler.extract_closed false
namespace Mine
/-! A computation that goes through, told for every context that it may stand in: n steps of the top's run. -/
structure Cx where
  p : Program
  w : World
  n₀ : Nat
  ann : Option Value
  b : List Stmt
  en : Env
  q : Pos
def Cx.top (C : Cx) (N : Nat) (s : Shared) (cur : Sem Fin) (pos : Pos) : Option Shared := topRun treeTable C.p C.w C.n₀ C.ann N s ⟨cur, .body C.b C.en, pos, [topFrame C.q]⟩
def LR (C : Cx) {α : Type} (x : Sem α) (s : Shared) (n : Nat) (a : α) (s' : Shared) : Prop :=
  ∀ (K : α → Sem Fin) (H : Value → Sem Fin) (gd : Bool → Bool) (lv : List Value → List Value) (pos : Pos), ∃ pos', ∀ N r,
    C.top N s' (K a) pos' = some r → C.top (n + N) s (x.wrap K H gd lv) pos = some r

section LR
variable {C : Cx} {α β : Type}
theorem top_one {p : Program} {w : World} {n₀ : Nat} {ann : Option Value} {s s' : Shared} {t t' : Thread} (h1 : through t = false) (h2 : stepOk n₀ ann t = true) (h3 : step (denote treeTable) p w s t = .go s' t') {N : Nat} {r : Shared}
    (k : topRun treeTable p w n₀ ann N s' t' = some r) : topRun treeTable p w n₀ ann (N + 1) s t = some r := by
  unfold topRun
  rw [h1, h2, h3]
  exact k
theorem LR.cast {x : Sem α} {s s' : Shared} {n m : Nat} {a : α} (h : LR C x s n a s') (e : n = m) : LR C x s m a s' := e ▸ h
theorem LR.pure {a : α} {s : Shared} : LR C (pure a : Sem α) s 0 a s := fun K H gd lv pos => ⟨pos, fun N r h => by rw [Nat.zero_add]; exact h⟩
theorem LR.bind {x : Sem α} {f : α → Sem β} {s s₁ s₂ : Shared} {n m : Nat} {a : α} {c : β} (h1 : LR C x s n a s₁) (h2 : LR C (f a) s₁ m c s₂) : LR C (x >>= f) s (n + m) c s₂ := fun K H gd lv pos => by
  rw [Sem.bind_eq_wrap', Sem.wrap_wrap]
  obtain ⟨p1, k1⟩ := h1 (fun a => (f a).wrap K H gd lv) (fun e => (Sem.raise e : Sem β).wrap K H gd lv) (fun g => gd (id g)) (fun l => lv (id l)) pos
  obtain ⟨p2, k2⟩ := h2 K H gd lv p1
  exact ⟨p2, fun N r h => by rw [Nat.add_assoc]; exact k1 _ _ (k2 N r h)⟩
theorem LR.onRaise {x : Sem α} {f : Value → Sem Unit} {s s₁ : Shared} {n : Nat} {a : α} (h1 : LR C x s n a s₁) : LR C (x.onRaise f) s n a s₁ := fun K H gd lv pos => by
  rw [Sem.onRaise_eq_wrap, Sem.wrap_wrap]
  exact h1 _ _ _ _ pos
theorem LR.tryCatch {x : Sem α} {f : Value → Sem α} {s s₁ : Shared} {n : Nat} {a : α} (h1 : LR C x s n a s₁) : LR C (x.tryCatch f) s n a s₁ := fun K H gd lv pos => by
  rw [Sem.tryCatch_eq_wrap, Sem.wrap_wrap]
  exact h1 _ _ _ _ pos
theorem LR.keep {x : Sem α} {vs : List Value} {s s₁ : Shared} {n : Nat} {a : α} (h1 : LR C x s n a s₁) : LR C (x.keep vs) s n a s₁ := fun K H gd lv pos => by
  rw [Sem.keep_eq_wrap, Sem.wrap_wrap]
  exact h1 _ _ _ _ pos
theorem LR.holding {x : Sem α} {vs : List Value} {s s₁ : Shared} {n : Nat} {a : α} (h1 : LR C x s n a s₁) : LR C (holding vs x) s n a s₁ := by
  unfold PySem.holding
  split
  · exact h1
  · exact h1.keep
theorem LR.rule {tag : String} {s : Shared} : LR C (rule tag) s 1 () s := fun K H gd lv pos => ⟨pos, fun N r h => by
  obtain ⟨heap, gens, drawn, toks, os⟩ := s
  rw [Nat.add_comm]; exact top_one rfl rfl rfl h⟩
theorem LR.standAt {p : Pos} {s : Shared} : LR C (standAt p) s 1 () s := fun K H gd lv pos => ⟨p, fun N r h => by
  obtain ⟨heap, gens, drawn, toks, os⟩ := s
  rw [Nat.add_comm]; exact top_one rfl rfl rfl h⟩
theorem LR.ask {s : Shared} : LR C ask s 1 ⟨C.p, C.w.params⟩ s := fun K H gd lv pos => ⟨pos, fun N r h => by
  obtain ⟨heap, gens, drawn, toks, os⟩ := s
  rw [Nat.add_comm]; exact top_one rfl rfl rfl h⟩
theorem LR.fresh {s : Shared} : LR C fresh s 1 s.toks { s with toks := s.toks + 1 } := fun K H gd lv pos => ⟨pos, fun N r h => by
  obtain ⟨heap, gens, drawn, toks, os⟩ := s
  rw [Nat.add_comm]; exact top_one rfl rfl rfl h⟩
theorem LR.alloc {s : Shared} {o : Obj} : LR C (alloc o) s 1 s.heap.objs.size { s with heap := s.heap.push o } := fun K H gd lv pos => ⟨pos, fun N r h => by
  obtain ⟨heap, gens, drawn, toks, os⟩ := s
  rw [Nat.add_comm]; exact top_one rfl rfl rfl h⟩
theorem LR.loadPart {s : Shared} {a : Addr} {pt : Option Value} {o : Obj} (ho : s.heap.get? a = some o) : LR C (loadPart a pt) s 1 o s := fun K H gd lv pos => ⟨pos, fun N r h => by
  obtain ⟨heap, gens, drawn, toks, os⟩ := s
  rw [Nat.add_comm]
  refine top_one rfl rfl ?_ h
  show (match heap.get? a with | some o => _ | none => _) = _
  rw [show heap.get? a = some o from ho]
  rfl⟩
theorem LR.load {s : Shared} {a : Addr} {o : Obj} (ho : s.heap.get? a = some o) : LR C (load a) s 1 o s := LR.loadPart ho
theorem LR.updatePart {s : Shared} {a : Addr} {pt : Option Value} {f : Obj → Obj} {o : Obj} (ho : s.heap.get? a = some o) (hn : Nat.ble C.n₀ a = true) : LR C (updatePart a pt f) s 1 () { s with heap := s.heap.update a f } := fun K H gd lv pos => ⟨pos, fun N r h => by
  obtain ⟨heap, gens, drawn, toks, os⟩ := s
  rw [Nat.add_comm]
  refine top_one rfl ?_ ?_ h
  · show (true && (Nat.ble C.n₀ a || a == mainNs || a == cStatics || C.ann == some (.ref a))) = true
    rw [hn]; rfl
  · show (if (heap.get? a).isSome then _ else _) = _
    rw [show heap.get? a = some o from ho]
    rfl⟩
theorem LR.mkInt {s : Shared} {i : Int} : LR C (mkInt i) s 1 (.int i s.toks) { s with toks := s.toks + 1 } := LR.bind (f := fun t => (Pure.pure (Value.int i t) : Sem Value)) LR.fresh LR.pure
theorem LR.mkText {s : Shared} {x : Str} : LR C (mkText x) s 1 (.str x s.toks) { s with toks := s.toks + 1 } := LR.bind (f := fun t => (Pure.pure (Value.str x t) : Sem Value)) LR.fresh LR.pure

/-! the hash of an int -/
theorem den_hash_call (k : Int) (t : Tok) : denote treeTable (.call (.builtin "int.__hash__") ⟨[.int k t], []⟩) = .pure (.again (.builtin "int.__hash__" ⟨[.int k t], []⟩)) := by kernel_rfl
theorem den_hash (k : Int) (t : Tok) : denote treeTable (.builtin "int.__hash__" ⟨[.int k t], []⟩) = .fresh (fun t' => .pure (.done (.ret (.int (rawHash k) t')))) := by kernel_rfl
theorem LR.hash_call {s : Shared} {k : Int} {t : Tok} : LR C (call (.builtin "int.__hash__") [.int k t]) s 4 (.int (rawHash k) s.toks) { s with toks := s.toks + 1 } := fun K H gd lv pos => ⟨pos, fun N r h => by
  obtain ⟨heap, gens, drawn, toks, os⟩ := s
  rw [Nat.add_comm]
  refine top_one (N := N + 3) (t' := ⟨denote treeTable (.call (.builtin "int.__hash__") ⟨[.int k t], []⟩), .call (.builtin "int.__hash__") ⟨[.int k t], []⟩, pos, _⟩) rfl rfl rfl ?_
  rw [den_hash_call]
  refine top_one (N := N + 2) (t' := ⟨denote treeTable (.builtin "int.__hash__" ⟨[.int k t], []⟩), .builtin "int.__hash__" ⟨[.int k t], []⟩, pos, _⟩) rfl (by kernel_rfl) rfl ?_
  rw [den_hash]
  refine top_one (N := N + 1) rfl (by kernel_rfl) rfl ?_
  exact top_one rfl (by kernel_rfl) rfl h⟩
theorem LR.specialOf {s : Shared} {k : Int} {t : Tok} : LR C (specialOf (.int k t) "__hash__") s 0 (some (.builtin "int.__hash__")) s := by
  have e : PySem.specialOf (.int k t) "__hash__" = Pure.pure (some (.builtin "int.__hash__")) := slot_int_hash.lookup
  rw [e]; exact LR.pure
theorem LR.bound {s : Shared} {k : Int} {t : Tok} : LR C (bindSpecialIfBound? (.int k t) "__hash__") s 1 (some (.builtin "int.__hash__", [.int k t])) s := by
  unfold bindSpecialIfBound?
  have hb : LR C (do return some (← bindSpecial (.builtin "int.__hash__") (.int k t)) : Sem (Option (Value × List Value))) s 0 (some (.builtin "int.__hash__", [.int k t])) s := by
    rw [slot_int_hash.bind]; exact LR.pure.bind LR.pure
  refine LR.specialOf.bind (m := 1) ?_
  refine LR.ask.bind (m := 0) ?_
  show LR C (if _ then _ else _) _ _ _ _
  split
  · exact hb
  · exact hb.tryCatch
theorem LR.pyHash {s : Shared} {k : Int} {t : Tok} : LR C (pyHash (.int k t)) s 5 (hashInt k) { s with toks := s.toks + 1 } := by
  have hr := rawHash_range k
  unfold PySem.pyHash
  refine LR.bind (n := 0) (m := 5) (a := ()) (s₁ := s) ?_ (LR.specialOf.bind (m := 5) ?_)
  · have hv : [Value.int k t].any Value.onHeap = false := rfl
    rw [cRoomFor, if_neg (by rw [hv]; exact Bool.false_ne_true)]; exact LR.pure
  · show LR C (if (some (Value.builtin "int.__hash__") == some Value.none) = true then _ else _) _ _ _ _
    rw [if_neg (by rw [beq_builtin_none]; exact Bool.false_ne_true)]
    refine LR.specialOf.bind (m := 5) ?_
    show LR C (callSpecialIfBoundUnlessNone? (.int k t) "__hash__" _ >>= _) _ _ _ _
    refine LR.bind (n := 5) (m := 0) (a := some (.int (rawHash k) s.toks)) (s₁ := { s with toks := s.toks + 1 }) ?_ ?_
    · unfold callSpecialIfBoundUnlessNone?
      refine LR.holding ?_
      refine LR.bound.bind (m := 4) ?_
      show LR C (if (Value.builtin "int.__hash__" == Value.none) = true then _ else _) _ _ _ _
      rw [if_neg (by decide)]
      exact LR.hash_call.bind (m := 0) LR.pure
    · show LR C (if (decide (-(2 : Int) ^ 63 ≤ rawHash k) && decide (rawHash k < 2 ^ 63)) = true then _ else _) _ _ _ _
      rw [if_pos (by rw [decide_eq_true hr.1, decide_eq_true hr.2]; rfl)]
      exact LR.pure

/-! heaps as lists -/
def hp (l : Life) (L : List Obj) : Heap := ⟨L.toArray, l⟩
def dO (es : List DictEntry) (n : Nat) : Obj := ⟨.type "dict", none, .dict es.toArray n, #[]⟩
theorem dO_free (es : List DictEntry) (n : Nat) : (dO es n).isFreed = false := rfl
theorem hp_size (l : Life) (L : List Obj) : (hp l L).objs.size = L.length := by simp [hp]
theorem hp_push (l : Life) (L : List Obj) (o : Obj) : (hp l L).push o = hp l (L ++ [o]) := by simp [hp, Heap.push]
theorem hp_get (l : Life) (A B : List Obj) (x : Obj) (hx : x.isFreed = false) : (hp l (A ++ x :: B)).get? A.length = some x := by
  have e : (hp l (A ++ x :: B)).objs[A.length]? = some x := by simp [hp]
  obtain ⟨c, d, dt, sl⟩ := x
  unfold Heap.get?
  rw [e]
  cases dt <;> first | rfl | (simp [Obj.isFreed] at hx)
theorem hp_upd (l : Life) (A B : List Obj) (x : Obj) (f : Obj → Obj) : (hp l (A ++ x :: B)).update A.length f = hp l (A ++ f x :: B) := by
  have e : (A ++ x :: B).toArray.modify A.length f = (A ++ f x :: B).toArray := by
    apply Array.ext_getElem?
    intro i
    rw [Array.getElem?_modify]
    simp only [List.getElem?_toArray]
    by_cases h : A.length = i
    · subst h; simp
    · rw [if_neg h]
      by_cases h2 : i < A.length
      · rw [List.getElem?_append_left h2, List.getElem?_append_left h2]
      · rw [List.getElem?_append_right (by omega), List.getElem?_append_right (by omega)]
        have : i - A.length = (i - A.length - 1) + 1 := by omega
        rw [this, List.getElem?_cons_succ, List.getElem?_cons_succ]
  show Heap.mk ((A ++ x :: B).toArray.modify A.length f) l = _
  rw [e]; rfl
def Sh (h : Heap) (g : Array GenState) (d : Drawn) (t : Nat) (os : OsState) : Shared := ⟨h, g, d, t, os⟩

section
variable {l : Life} {A B : List Obj} {es : List DictEntry} {n : Nat} {g : Array GenState} {dr : Drawn} {tk : Nat} {os : OsState}
theorem LR.entries {pt : Option Value} : LR C (dictEntries A.length pt) (Sh (hp l (A ++ dO es n :: B)) g dr tk os) 1 es.toArray (Sh (hp l (A ++ dO es n :: B)) g dr tk os) := by
  unfold dictEntries
  exact LR.bind (n := 1) (m := 0) (LR.loadPart (hp_get l A B _ (dO_free es n))) LR.pure
theorem LR.epoch {pt : Option Value} : LR C (dictEpoch A.length pt) (Sh (hp l (A ++ dO es n :: B)) g dr tk os) 1 n (Sh (hp l (A ++ dO es n :: B)) g dr tk os) := by
  unfold dictEpoch
  exact LR.bind (n := 1) (m := 0) (LR.loadPart (hp_get l A B _ (dO_free es n))) LR.pure
theorem LR.put {pt : Option Value} {e : DictEntry} (hn : Nat.ble C.n₀ A.length = true) (hz : es.length < 1000000) :
    LR C (updateDictKeys A.length (·.push e) pt) (Sh (hp l (A ++ dO es n :: B)) g dr tk os) 3 () (Sh (hp l (A ++ dO (es ++ [e]) (n + 1) :: B)) g dr tk os) := by
  unfold updateDictKeys
  refine LR.bind (n := 1) (m := 2) (LR.loadPart (hp_get l A B _ (dO_free es n))) ?_
  show LR C (PySem.updatePart A.length pt (Obj.mapDictKeys (·.push e)) >>= fun _ => lookBehind A.length pt) _ _ _ _
  have hu : (hp l (A ++ dO es n :: B)).update A.length (Obj.mapDictKeys (·.push e)) = hp l (A ++ dO (es ++ [e]) (n + 1) :: B) := by
    rw [hp_upd]
    have : Obj.mapDictKeys (·.push e) (dO es n) = dO (es ++ [e]) (n + 1) := by
      show Obj.mk _ _ (Data.dict (es.toArray.push e) (n + 1)) _ = _
      rw [List.push_toArray]; rfl
    rw [this]
  refine LR.bind (n := 1) (m := 1) (a := ()) (s₁ := Sh (hp l (A ++ dO (es ++ [e]) (n + 1) :: B)) g dr tk os) ?_ ?_
  · have := LR.updatePart (C := C) (s := Sh (hp l (A ++ dO es n :: B)) g dr tk os) (a := A.length) (pt := pt) (f := Obj.mapDictKeys (·.push e)) (hp_get l A B _ (dO_free es n)) hn
    rw [show (Sh (hp l (A ++ dO es n :: B)) g dr tk os).heap = hp l (A ++ dO es n :: B) from rfl, hu] at this
    exact this
  · unfold lookBehind
    refine LR.bind (n := 1) (m := 0) (LR.loadPart (hp_get l A B _ (dO_free (es ++ [e]) (n + 1)))) ?_
    have hp' : (dO (es ++ [e]) (n + 1)).data.pastItsLine = none := by
      show (if ((es ++ [e]).toArray.size > sizeLine + 1) then _ else _) = none
      rw [if_neg]
      rw [List.size_toArray, List.length_append, sizeLine_eq]
      simp only [List.length_cons, List.length_nil]
      omega
    rw [hp']
    exact LR.pure
theorem places_none {es : List DictEntry} {h : Int} (ha : ∀ e ∈ es, e.hash ≠ h) : placesWithHash es.toArray.size (fun i => es.toArray[i]?.map (·.hash)) h = [] := by
  unfold placesWithHash
  rw [List.filter_eq_nil_iff]
  intro i hi hq
  have hlt : i < es.length := by simpa using hi
  simp only [List.getElem?_toArray, List.getElem?_eq_getElem hlt, Option.map_some] at hq
  have hq' : es[i].hash = h := by simpa using hq
  exact ha _ (List.getElem_mem hlt) hq'
theorem LR.find_none {k : Int} {t : Tok} {h : Int} (ha : ∀ e ∈ es, e.hash ≠ h) :
    LR C (dictFind A.length (.int k t) h) (Sh (hp l (A ++ dO es n :: B)) g dr tk os) 1 none (Sh (hp l (A ++ dO es n :: B)) g dr tk os) := by
  unfold dictFind
  refine LR.holding ?_
  refine LR.bind (n := 1) (m := 0) LR.entries ?_
  show LR C (if ((Value.int k t) :: ((placesWithHash es.toArray.size (fun i => es.toArray[i]?.map (·.hash)) h).filterMap fun i => es.toArray[i]?.map (·.key))).all carriedByValue = true then
    dictWalkPlain A.length (.int k t) h es.toArray (placesWithHash es.toArray.size (fun i => es.toArray[i]?.map (·.hash)) h) else _) _ _ _ _
  rw [places_none ha]
  show LR C (dictWalkPlain A.length (.int k t) h es.toArray []) _ _ _ _
  exact LR.pure
theorem LR.setHashed {k : Int} {t : Tok} {h : Int} {v : Value} (ha : ∀ e ∈ es, e.hash ≠ h) (hn : Nat.ble C.n₀ A.length = true) (hz : es.length < 1000000) :
    LR C (dictSetHashed A.length (.int k t) h v) (Sh (hp l (A ++ dO es n :: B)) g dr tk os) 5 () (Sh (hp l (A ++ dO (es ++ [⟨h, .int k t, v⟩]) (n + 1) :: B)) g dr tk os) := by
  unfold dictSetHashed
  refine LR.holding ?_
  refine LR.bind (n := 1) (m := 4) (LR.find_none ha) ?_
  exact LR.bind (n := 1) (m := 3) LR.rule (LR.put hn hz)
theorem LR.set {k : Int} {t : Tok} {v : Value} (ha : ∀ e ∈ es, e.hash ≠ hashInt k) (hn : Nat.ble C.n₀ A.length = true) (hz : es.length < 1000000) :
    LR C (dictSet A.length (.int k t) v) (Sh (hp l (A ++ dO es n :: B)) g dr tk os) 10 () (Sh (hp l (A ++ dO (es ++ [⟨hashInt k, .int k t, v⟩]) (n + 1) :: B)) g dr (tk + 1) os) := by
  unfold dictSet
  refine LR.holding ?_
  exact LR.bind (n := 5) (m := 5) LR.pyHash (LR.setHashed ha hn hz)
theorem LR.merge1 {k : Int} {t : Tok} {h : Int} {v : Value} (ha : ∀ e ∈ es, e.hash ≠ h) (hn : Nat.ble C.n₀ A.length = true) (hz : es.length < 1000000) :
    LR C (dictPut A.length h (.int k t) v) (Sh (hp l (A ++ dO es n :: B)) g dr tk os) 4 () (Sh (hp l (A ++ dO (es ++ [⟨h, .int k t, v⟩]) (n + 1) :: B)) g dr tk os) := by
  unfold dictPut
  exact LR.bind (n := 1) (m := 3) (LR.find_none ha) (LR.put hn hz)
end

/-! the display of a long dict of written ints and strs -/
def rowAt (tk : Nat) (x : Int × Str) : DictEntry := ⟨hashInt x.1, .int x.1 tk, .str x.2 (tk + 1)⟩
def rowsAt : Nat → List (Int × Str) → List DictEntry
  | _, [] => []
  | tk, x :: r => rowAt tk x :: rowsAt (tk + 3) r
def keyT (x : Int × Str) : Sem Value := PySem.mkInt x.1
def valT (pos : Pos) (x : Int × Str) : Sem Value := do let v ← PySem.mkText x.2; PySem.standAt pos; Pure.pure v
def pairT (pos : Pos) (x : Int × Str) : Sem Value × Sem Value := (keyT x, valT pos x)
def Apart (es : List DictEntry) (R : List (Int × Str)) : Prop := (∀ e ∈ es, ∀ x ∈ R, e.hash ≠ hashInt x.1) ∧ R.Pairwise fun x y => hashInt x.1 ≠ hashInt y.1
theorem rowsAt_length : ∀ (R : List (Int × Str)) (tk : Nat), (rowsAt tk R).length = R.length
  | [], _ => rfl
  | _ :: r, tk => by rw [rowsAt, List.length_cons, List.length_cons, rowsAt_length r]
theorem Apart.tail {es : List DictEntry} {x : Int × Str} {R : List (Int × Str)} (h : Apart es (x :: R)) (tk : Nat) : Apart (es ++ [rowAt tk x]) R := by
  refine ⟨fun e he y hy => ?_, (List.pairwise_cons.mp h.2).2⟩
  rcases List.mem_append.mp he with he | he
  · exact h.1 e he y (.tail _ hy)
  · obtain rfl := List.mem_singleton.mp he
    exact (List.pairwise_cons.mp h.2).1 y hy
section
variable {l : Life} {A B : List Obj} {g : Array GenState} {dr : Drawn} {os : OsState}
theorem LR.valT {pos : Pos} {x : Int × Str} {s : Shared} : LR C (valT pos x) s 2 (.str x.2 s.toks) { s with toks := s.toks + 1 } :=
  LR.bind (n := 1) (m := 1) LR.mkText (LR.bind (n := 1) (m := 0) LR.standAt LR.pure)
theorem LR.subTurn {pos : Pos} {x : Int × Str} {es : List DictEntry} {n tk : Nat} (ha : ∀ e ∈ es, e.hash ≠ hashInt x.1) (hn : Nat.ble C.n₀ A.length = true) (hz : es.length < 1000000) :
    LR C (do
      let k ← (pairT pos x).1
      let vv ← PySem.holding [k] (pairT pos x).2
      PySem.holding [k, vv] (dictSet A.length k vv)
      Pure.pure (ForInStep.yield PUnit.unit) : Sem (ForInStep PUnit)) (Sh (hp l (A ++ dO es n :: B)) g dr tk os) 13 (ForInStep.yield PUnit.unit) (Sh (hp l (A ++ dO (es ++ [rowAt tk x]) (n + 1) :: B)) g dr (tk + 3) os) := by
  refine LR.bind (n := 1) (m := 12) LR.mkInt ?_
  refine LR.bind (n := 2) (m := 10) (LR.holding LR.valT) ?_
  exact LR.bind (n := 10) (m := 0) (LR.holding (LR.set ha hn hz)) LR.pure
theorem LR.subLoop {pos : Pos} : ∀ (R : List (Int × Str)) (es : List DictEntry) (n tk : Nat), Apart es R → Nat.ble C.n₀ A.length = true → es.length + R.length < 1000000 →
    LR C (forIn (R.map (pairT pos)) PUnit.unit fun (kv : Sem Value × Sem Value) (_ : PUnit) => (do
        let k ← kv.1
        let vv ← PySem.holding [k] kv.2
        PySem.holding [k, vv] (dictSet A.length k vv)
        Pure.pure (ForInStep.yield PUnit.unit) : Sem (ForInStep PUnit))) (Sh (hp l (A ++ dO es n :: B)) g dr tk os) (13 * R.length) PUnit.unit
      (Sh (hp l (A ++ dO (es ++ rowsAt tk R) (n + R.length) :: B)) g dr (tk + 3 * R.length) os)
  | [], es, n, tk, _, _, _ => by
    rw [rowsAt, List.append_nil]
    exact LR.pure
  | x :: r, es, n, tk, ha, hn, hz => by
    rw [List.map_cons, List.forIn_cons]
    have t := LR.subTurn (C := C) (l := l) (A := A) (B := B) (g := g) (dr := dr) (os := os) (pos := pos) (x := x) (es := es) (n := n) (tk := tk) (fun e he => ha.1 e he x (.head _)) hn (by rw [List.length_cons] at hz; omega)
    have ih := LR.subLoop (pos := pos) r (es ++ [rowAt tk x]) (n + 1) (tk + 3) (ha.tail tk) hn (by rw [List.length_append, List.length_singleton]; rw [List.length_cons] at hz; omega)
    have e1 : (es ++ [rowAt tk x]) ++ rowsAt (tk + 3) r = es ++ rowsAt tk (x :: r) := by rw [rowsAt, List.append_assoc]; rfl
    rw [e1] at ih
    have e2 : n + 1 + r.length = n + (x :: r).length := by rw [List.length_cons]; omega
    have e3 : tk + 3 + 3 * r.length = tk + 3 * (x :: r).length := by rw [List.length_cons]; omega
    rw [e2, e3] at ih
    have e4 : 13 + 13 * r.length = 13 * (x :: r).length := by rw [List.length_cons]; omega
    exact LR.cast (LR.bind (n := 13) (m := 13 * r.length) t ih) e4
end


/-- one chunk laid into the dict so far -/
def chunkIn (hnd : Addr → Addr → Value → Sem Unit) (run : List (Sem Value × Sem Value)) : Option Addr → Sem (Option Addr)
  | none => do return some (← subDict run)
  | some d => do
    let sub ← PySem.holding [.ref d] (subDict run)
    (PySem.holding [.ref d, .ref sub] (mergeMapping d (.ref sub) false)).onRaise (hnd d sub)
    return some d
abbrev DispS := Option Addr × List (Sem Value × Sem Value)
structure DispBy (hnd : Addr → Addr → Value → Sem Unit) (body : (Option (Sem Value) × Sem Value) → DispS → Sem (ForInStep DispS)) (after : DispS → Sem Value) : Prop where
  some_ : ∀ k v m run, body (some k, v) ⟨m, run⟩ = if (run ++ [(k, v)]).length == 17 then (chunkIn hnd (run ++ [(k, v)]) m >>= fun m' => Pure.pure (.yield ⟨m', []⟩)) else Pure.pure (.yield ⟨m, run ++ [(k, v)]⟩)
  after_ : ∀ m x r, after ⟨m, x :: r⟩ = (chunkIn hnd (x :: r) m >>= fun r => match r with | some d => Pure.pure (.ref d) | none => newDict)
def dispHnd (d _sub : Addr) (x : Value) : Sem Unit := do let _ ← PySem.holding [.ref d, x] (runValue (.builtin "proto.let_go" {}))
theorem disp_parts (items : List (Option (Sem Value) × Sem Value)) : ∃ body after, DispBy dispHnd body after ∧ dictDisplay items = (forIn items (⟨none, []⟩ : DispS) body >>= after) := by
  refine' ⟨_, _, And.intro (DispBy.mk ?h1 ?h2) ?h3⟩
  case h3 => delta dictDisplay; exact rfl
  case h1 => intro k v m run; cases m <;> cases run <;> rfl
  case h2 => intro m x r; cases m <;> rfl

section
variable {l : Life} {A S : List Obj} {g : Array GenState} {dr : Drawn} {os : OsState}
theorem sub_list (A S : List Obj) (x y : Obj) : A ++ x :: (S ++ [y]) = (A ++ x :: S) ++ y :: [] := by simp
/-- the heap while a chunk F lies ready behind -/
def mid (l : Life) (A S : List Obj) (es : List DictEntry) (n : Nat) (F : List DictEntry) (m : Nat) : Heap := hp l (A ++ dO es n :: (S ++ [dO F m]))
theorem LR.subEntries {es F : List DictEntry} {n m tk : Nat} {pt : Option Value} : LR C (dictEntries (A ++ dO es n :: S).length pt) (Sh (mid l A S es n F m) g dr tk os) 1 F.toArray (Sh (mid l A S es n F m) g dr tk os) := by
  unfold mid; rw [sub_list]; exact LR.entries
theorem LR.subEpoch {es F : List DictEntry} {n m tk : Nat} {pt : Option Value} : LR C (dictEpoch (A ++ dO es n :: S).length pt) (Sh (mid l A S es n F m) g dr tk os) 1 m (Sh (mid l A S es n F m) g dr tk os) := by
  unfold mid; rw [sub_list]; exact LR.epoch
theorem LR.subType {es F : List DictEntry} {n m tk : Nat} : LR C (typeOf (.ref (A ++ dO es n :: S).length)) (Sh (mid l A S es n F m) g dr tk os) 1 (.type "dict") (Sh (mid l A S es n F m) g dr tk os) := by
  have hg : (mid l A S es n F m).get? (A ++ dO es n :: S).length = some (dO F m) := by unfold mid; rw [sub_list]; exact hp_get _ _ _ _ (dO_free F m)
  exact LR.bind (n := 1) (m := 0) (LR.loadPart hg) LR.pure
theorem LR.mergeTurn {es F : List DictEntry} {n m tk d a : Nat} (hd : d = A.length) (ha' : a = (A ++ dO es n :: S).length) {k : Int} {t : Tok} {v : Value} {h : Int} (ha : ∀ e ∈ es, e.hash ≠ h) (hn : Nat.ble C.n₀ A.length = true) (hz : es.length < 1000000)
    {i : Nat} (hi : F[i]? = some ⟨h, .int k t, v⟩) :
    LR C (do
      let es' ← dictEntries a
      match es'[i]? with
      | some e => do
        PySem.holding [e.key, e.val] (dictPut d e.hash e.key e.val)
        let ep ← dictEpoch a
        if ep != m then do
          PySem.unsupported "dict.changed-during-merge"
          Pure.pure (ForInStep.yield PUnit.unit)
        else Pure.pure (ForInStep.yield PUnit.unit)
      | _ => do
        PySem.unsupported "dict.changed-during-merge"
        Pure.pure (ForInStep.yield PUnit.unit) : Sem (ForInStep PUnit)) (Sh (mid l A S es n F m) g dr tk os) 6 (ForInStep.yield PUnit.unit) (Sh (mid l A S (es ++ [⟨h, .int k t, v⟩]) (n + 1) F m) g dr tk os) := by
  subst hd ha'
  refine LR.bind (n := 1) (m := 5) LR.subEntries ?_
  have hi' : F.toArray[i]? = some ⟨h, .int k t, v⟩ := by simpa using hi
  rw [hi']
  refine LR.bind (n := 4) (m := 1) (a := ()) (LR.holding (LR.merge1 ha hn hz)) ?_
  have hl : (A ++ dO es n :: S).length = (A ++ dO (es ++ [⟨h, .int k t, v⟩]) (n + 1) :: S).length := by simp
  rw [hl]
  refine LR.bind (n := 1) (m := 0) LR.subEpoch ?_
  rw [if_neg (by simp)]
  exact LR.pure
end

def IntRows (F : List DictEntry) : Prop := ∀ e ∈ F, ∃ k t, e.key = .int k t
def Free (es F : List DictEntry) : Prop := (∀ e ∈ es, ∀ f ∈ F, e.hash ≠ f.hash) ∧ F.Pairwise fun x y => x.hash ≠ y.hash
section
variable {l : Life} {A S : List Obj} {g : Array GenState} {dr : Drawn} {os : OsState}
theorem LR.mergeLoop {F : List DictEntry} {m d a tk : Nat} (hd : d = A.length) (hk : IntRows F) (hn : Nat.ble C.n₀ A.length = true) : ∀ (k j : Nat) (es : List DictEntry) (n : Nat), j + k = F.length → a = (A ++ dO es n :: S).length → Free es (F.drop j) → es.length + k < 1000000 →
    LR C (forIn (List.range' j k) PUnit.unit fun i (_ : PUnit) => (do
      let es' ← dictEntries a
      match es'[i]? with
      | some e => do
        PySem.holding [e.key, e.val] (dictPut d e.hash e.key e.val)
        let ep ← dictEpoch a
        if ep != m then do
          PySem.unsupported "dict.changed-during-merge"
          Pure.pure (ForInStep.yield PUnit.unit)
        else Pure.pure (ForInStep.yield PUnit.unit)
      | _ => do
        PySem.unsupported "dict.changed-during-merge"
        Pure.pure (ForInStep.yield PUnit.unit) : Sem (ForInStep PUnit))) (Sh (mid l A S es n F m) g dr tk os) (6 * k) PUnit.unit (Sh (mid l A S (es ++ F.drop j) (n + k) F m) g dr tk os)
  | 0, j, es, n, hj, _, _, _ => by
    have : F.drop j = [] := List.drop_eq_nil_of_le (by omega)
    rw [this, List.append_nil]
    exact LR.pure
  | k + 1, j, es, n, hj, ha, hf, hz => by
    have hlt : j < F.length := by omega
    have hcons : F.drop j = F[j] :: F.drop (j + 1) := List.drop_eq_getElem_cons hlt
    obtain ⟨kk, t, hkey⟩ := hk F[j] (List.getElem_mem hlt)
    have hi : F[j]? = some ⟨F[j].hash, .int kk t, F[j].val⟩ := by
      rw [List.getElem?_eq_getElem hlt]
      congr 1
      rw [← hkey]
    have hval : F[j] = ⟨F[j].hash, .int kk t, F[j].val⟩ := by rw [← hkey]
    rw [List.range'_succ, List.forIn_cons]
    have t1 := LR.mergeTurn (C := C) (l := l) (A := A) (S := S) (g := g) (dr := dr) (os := os) (es := es) (F := F) (n := n) (m := m) (tk := tk) hd ha (k := kk) (t := t) (v := F[j].val) (h := F[j].hash)
      (fun e he => hf.1 e he F[j] (by rw [hcons]; exact .head _)) hn (by omega) hi
    rw [← hval] at t1
    have ha2 : a = (A ++ dO (es ++ [F[j]]) (n + 1) :: S).length := by rw [ha]; simp
    have hf2 : Free (es ++ [F[j]]) (F.drop (j + 1)) := by
      rw [hcons] at hf
      refine ⟨fun e he f hfm => ?_, (List.pairwise_cons.mp hf.2).2⟩
      rcases List.mem_append.mp he with he | he
      · exact hf.1 e he f (.tail _ hfm)
      · obtain rfl := List.mem_singleton.mp he
        exact (List.pairwise_cons.mp hf.2).1 f hfm
    have ih := LR.mergeLoop (a := a) (m := m) (tk := tk) hd hk hn k (j + 1) (es ++ [F[j]]) (n + 1) (by omega) ha2 hf2 (by rw [List.length_append, List.length_singleton]; omega)
    have e1 : (es ++ [F[j]]) ++ F.drop (j + 1) = es ++ F.drop j := by rw [hcons, List.append_assoc]; rfl
    have e2 : n + 1 + k = n + (k + 1) := by omega
    rw [e1, e2] at ih
    exact LR.cast (LR.bind (n := 6) (m := 6 * k) t1 ih) (by omega)
theorem LR.merge {es F : List DictEntry} {n m tk : Nat} (hk : IntRows F) (hn : Nat.ble C.n₀ A.length = true) (hlow : Nat.ble 2 A.length = true) (hne : es ≠ []) (hf : Free es F) (hz : es.length + F.length < 1000000) :
    LR C (mergeMapping A.length (.ref (A ++ dO es n :: S).length) false) (Sh (mid l A S es n F m) g dr tk os) (5 + 6 * F.length) () (Sh (mid l A S (es ++ F) (n + F.length) F m) g dr tk os) := by
  unfold mergeMapping
  refine LR.cast (n := 1 + (1 + (0 + (3 + 6 * F.length)))) (LR.bind (n := 1) (m := 1 + (0 + (3 + 6 * F.length))) (a := true) (s₁ := Sh (mid l A S es n F m) g dr tk os) ?_ ?_) (by omega)
  · unfold isInstance
    refine LR.bind (n := 1) (m := 0) LR.subType ?_
    have : isSubtype (.type "dict") (.type "dict") = Pure.pure true := by rw [isSubtype_type]; kernel_rfl
    rw [this]; exact LR.pure
  rw [if_pos rfl]
  refine LR.bind (n := 1) (m := 0 + (3 + 6 * F.length)) (a := some (.builtin "dict.__iter__")) (s₁ := Sh (mid l A S es n F m) g dr tk os) ?_ ?_
  · unfold PySem.specialOf
    refine LR.bind (n := 1) (m := 0) LR.subType ?_
    rw [PySem.F.slot_dict_iter.lookup]
    exact LR.pure
  refine LR.bind (n := 0) (m := 3 + 6 * F.length) (a := true) (s₁ := Sh (mid l A S es n F m) g dr tk os) ?_ ?_
  · rw [beq_self_eq_true]
    exact LR.pure
  show LR C (if ((A ++ dO es n :: S).length == sysModules) = true then _ else _) _ _ _ _
  have hs : ((A ++ dO es n :: S).length == sysModules) = false := by
    rw [beq_eq_false_iff_ne]
    have := Nat.le_of_ble_eq_true hlow
    intro e
    have e' : (A ++ dO es n :: S).length = 1 := e
    rw [List.length_append] at e'
    omega
  rw [if_neg (by rw [hs]; exact Bool.false_ne_true)]
  refine LR.cast (n := 1 + (2 + 6 * F.length)) (LR.bind (n := 1) (m := 2 + 6 * F.length) (a := es.toArray) (s₁ := Sh (mid l A S es n F m) g dr tk os) LR.entries ?_) (by omega)
  have hemp : es.toArray.isEmpty = false := by cases es with | nil => exact absurd rfl hne | cons _ _ => rfl
  rw [if_neg (by rw [hemp]; exact Bool.false_ne_true)]
  refine LR.cast (n := 1 + (1 + (6 * F.length))) (LR.bind (n := 1) (m := 1 + 6 * F.length) (a := F.toArray) (s₁ := Sh (mid l A S es n F m) g dr tk os) LR.subEntries ?_) (by omega)
  refine LR.bind (n := 1) (m := 6 * F.length) (a := m) (s₁ := Sh (mid l A S es n F m) g dr tk os) LR.subEpoch ?_
  have hl := LR.mergeLoop (C := C) (l := l) (A := A) (S := S) (g := g) (dr := dr) (os := os) (F := F) (m := m) (d := A.length) (a := (A ++ dO es n :: S).length) (tk := tk) rfl hk hn F.length 0 es n (by omega) rfl hf hz
  rw [← List.range_eq_range'] at hl
  rw [List.size_toArray]
  exact LR.bind (n := 6 * F.length) (m := 0) hl LR.pure
end

def rowS (tk : Nat) (x : Int × Str) : DictEntry := ⟨hashInt x.1, .int x.1 tk, .str x.2 (tk + 1)⟩
def rowsS : Nat → List (Int × Str) → List DictEntry
  | _, [] => []
  | tk, x :: r => rowS tk x :: rowsS (tk + 2) r
def valsS : Nat → List (Int × Str) → List (Value × Value)
  | _, [] => []
  | tk, x :: r => (.int x.1 tk, .str x.2 (tk + 1)) :: valsS (tk + 2) r
section
variable {l : Life} {g : Array GenState} {dr : Drawn} {os : OsState} {L : List Obj} {pos : Pos} {tk : Nat}
theorem LR.newD : LR C (PySem.alloc { cls := .type "dict", data := .dict #[] }) (Sh (hp l L) g dr tk os) 1 L.length (Sh (hp l (L ++ [dO [] 0])) g dr tk os) := by
  have h := LR.alloc (C := C) (s := Sh (hp l L) g dr tk os) (o := { cls := .type "dict", data := .dict #[] })
  have e1 : (Sh (hp l L) g dr tk os).heap.objs.size = L.length := hp_size l L
  have e2 : (Sh (hp l L) g dr tk os).heap.push { cls := .type "dict", data := .dict #[] } = hp l (L ++ [dO [] 0]) := hp_push l L _
  rw [e1, e2] at h
  exact h
theorem LR.subLong {R : List (Int × Str)} (hR : 15 < R.length) (hz : R.length < 1000000) (ha : Apart [] R) (hn : Nat.ble C.n₀ L.length = true) :
    LR C (subDict (R.map (pairT pos))) (Sh (hp l L) g dr tk os) (2 + 13 * R.length) L.length (Sh (hp l (L ++ [dO (rowsAt tk R) R.length])) g dr (tk + 3 * R.length) os) := by
  unfold subDict
  refine LR.cast (n := 1 + (1 + 13 * R.length)) (LR.bind (n := 1) (m := 1 + 13 * R.length) LR.newD ?_) (by omega)
  refine LR.bind (n := 1 + 13 * R.length) (m := 0) (a := ()) (LR.holding ?_) LR.pure
  rw [if_neg (by rw [List.length_map]; omega)]
  refine LR.bind (n := 1) (m := 13 * R.length) LR.rule ?_
  have h := LR.subLoop (C := C) (l := l) (A := L) (B := []) (g := g) (dr := dr) (os := os) (pos := pos) R [] 0 tk ha hn (by simpa using hz)
  rw [List.nil_append, Nat.zero_add] at h
  exact LR.bind (n := 13 * R.length) (m := 0) h LR.pure
theorem LR.evalP : ∀ (R : List (Int × Str)) (s : Shared), LR C (evalPairs (R.map (pairT pos))) s (3 * R.length) (valsS s.toks R) { s with toks := s.toks + 2 * R.length }
  | [], s => LR.pure
  | x :: r, s => by
    rw [List.map_cons]
    unfold evalPairs
    have ih := LR.evalP r { s with toks := s.toks + 1 + 1 }
    have e : ({ ({ s with toks := s.toks + 1 + 1 } : Shared) with toks := ({ s with toks := s.toks + 1 + 1 } : Shared).toks + 2 * r.length } : Shared) = { s with toks := s.toks + 2 * (x :: r).length } := by
      rw [List.length_cons]; simp only [Shared.mk.injEq, true_and, and_true]; omega
    rw [e] at ih
    refine LR.cast (n := 1 + (2 + (3 * r.length + 0))) (LR.bind (n := 1) LR.mkInt (LR.bind (n := 2) (LR.holding LR.valT) (LR.bind (n := 3 * r.length) (m := 0) (LR.holding ih) LR.pure))) (by rw [List.length_cons]; omega)
theorem LR.setLoop {A B : List Obj} : ∀ (R : List (Int × Str)) (es : List DictEntry) (n t₀ tk : Nat), Apart es R → Nat.ble C.n₀ A.length = true → es.length + R.length < 1000000 →
    LR C (forIn (valsS t₀ R) PUnit.unit fun (x : Value × Value) (_ : PUnit) => (do
        dictSet A.length x.1 x.2
        Pure.pure (ForInStep.yield PUnit.unit) : Sem (ForInStep PUnit))) (Sh (hp l (A ++ dO es n :: B)) g dr tk os) (10 * R.length) PUnit.unit
      (Sh (hp l (A ++ dO (es ++ rowsS t₀ R) (n + R.length) :: B)) g dr (tk + R.length) os)
  | [], es, n, t₀, tk, _, _, _ => by
    rw [rowsS, List.append_nil]
    exact LR.pure
  | x :: r, es, n, t₀, tk, ha, hn, hz => by
    rw [valsS, List.forIn_cons]
    have t := LR.set (C := C) (l := l) (A := A) (B := B) (g := g) (dr := dr) (os := os) (k := x.1) (t := t₀) (v := .str x.2 (t₀ + 1)) (es := es) (n := n) (tk := tk) (fun e he => ha.1 e he x (.head _)) hn (by rw [List.length_cons] at hz; omega)
    have ih := LR.setLoop (B := B) r (es ++ [rowS t₀ x]) (n + 1) (t₀ + 2) (tk + 1) (ha.tail t₀) hn (by rw [List.length_append, List.length_singleton]; rw [List.length_cons] at hz; omega)
    have e1 : (es ++ [rowS t₀ x]) ++ rowsS (t₀ + 2) r = es ++ rowsS t₀ (x :: r) := by rw [rowsS, List.append_assoc]; rfl
    rw [e1] at ih
    have e2 : n + 1 + r.length = n + (x :: r).length := by rw [List.length_cons]; omega
    have e3 : tk + 1 + r.length = tk + (x :: r).length := by rw [List.length_cons]; omega
    rw [e2, e3] at ih
    exact LR.cast (LR.bind (n := 10) (m := 10 * r.length) (LR.bind (n := 10) (m := 0) t LR.pure) ih) (by rw [List.length_cons]; omega)
theorem LR.subShort {R : List (Int × Str)} (hR : R.length ≤ 15) (ha : Apart [] R) (hn : Nat.ble C.n₀ L.length = true) :
    LR C (subDict (R.map (pairT pos))) (Sh (hp l L) g dr tk os) (1 + 13 * R.length) L.length (Sh (hp l (L ++ [dO (rowsS tk R) R.length])) g dr (tk + 3 * R.length) os) := by
  unfold subDict
  refine LR.bind (n := 1) (m := 13 * R.length) LR.newD ?_
  refine LR.bind (n := 13 * R.length) (m := 0) (a := ()) (LR.holding ?_) LR.pure
  rw [if_pos (by rw [List.length_map]; omega)]
  refine LR.cast (n := 3 * R.length + 10 * R.length) (LR.bind (n := 3 * R.length) (m := 10 * R.length) (LR.evalP R _) (LR.holding ?_)) (by omega)
  have h := LR.setLoop (C := C) (l := l) (A := L) (B := []) (g := g) (dr := dr) (os := os) R [] 0 tk (tk + 2 * R.length) ha hn (by simp; omega)
  rw [List.nil_append, Nat.zero_add, show tk + 2 * R.length + R.length = tk + 3 * R.length by omega] at h
  exact LR.bind (n := 10 * R.length) (m := 0) h LR.pure
end

theorem rowsAt_append : ∀ (c r : List (Int × Str)) (tk : Nat), rowsAt tk (c ++ r) = rowsAt tk c ++ rowsAt (tk + 3 * c.length) r
  | [], r, tk => rfl
  | x :: c, r, tk => by
    rw [List.cons_append, rowsAt, rowsAt, rowsAt_append c r, List.cons_append, List.length_cons]
    congr 3
    omega
theorem mem_rowsAt : ∀ (R : List (Int × Str)) (tk : Nat) (e : DictEntry), e ∈ rowsAt tk R → ∃ x ∈ R, e.hash = hashInt x.1 ∧ ∃ t, e.key = .int x.1 t
  | [], _, _, h => (nomatch h)
  | x :: r, tk, e, h => by
    rw [rowsAt] at h
    rcases List.mem_cons.mp h with rfl | h
    · exact ⟨x, .head _, rfl, _, rfl⟩
    · obtain ⟨y, hy, z⟩ := mem_rowsAt r _ e h
      exact ⟨y, .tail _ hy, z⟩
theorem mem_rowsS : ∀ (R : List (Int × Str)) (tk : Nat) (e : DictEntry), e ∈ rowsS tk R → ∃ x ∈ R, e.hash = hashInt x.1 ∧ ∃ t, e.key = .int x.1 t
  | [], _, _, h => (nomatch h)
  | x :: r, tk, e, h => by
    rw [rowsS] at h
    rcases List.mem_cons.mp h with rfl | h
    · exact ⟨x, .head _, rfl, _, rfl⟩
    · obtain ⟨y, hy, z⟩ := mem_rowsS r _ e h
      exact ⟨y, .tail _ hy, z⟩
theorem rowsS_length : ∀ (R : List (Int × Str)) (tk : Nat), (rowsS tk R).length = R.length
  | [], _ => rfl
  | _ :: r, tk => by rw [rowsS, List.length_cons, List.length_cons, rowsS_length r]
theorem pair_rowsAt : ∀ (R : List (Int × Str)) (tk : Nat), (R.Pairwise fun x y => hashInt x.1 ≠ hashInt y.1) → (rowsAt tk R).Pairwise fun x y => x.hash ≠ y.hash
  | [], _, _ => List.Pairwise.nil
  | x :: r, tk, h => by
    rw [rowsAt]
    refine List.Pairwise.cons (fun e he => ?_) (pair_rowsAt r _ (List.pairwise_cons.mp h).2)
    obtain ⟨y, hy, z, _⟩ := mem_rowsAt r _ e he
    rw [z]
    exact (List.pairwise_cons.mp h).1 y hy
theorem pair_rowsS : ∀ (R : List (Int × Str)) (tk : Nat), (R.Pairwise fun x y => hashInt x.1 ≠ hashInt y.1) → (rowsS tk R).Pairwise fun x y => x.hash ≠ y.hash
  | [], _, _ => List.Pairwise.nil
  | x :: r, tk, h => by
    rw [rowsS]
    refine List.Pairwise.cons (fun e he => ?_) (pair_rowsS r _ (List.pairwise_cons.mp h).2)
    obtain ⟨y, hy, z, _⟩ := mem_rowsS r _ e he
    rw [z]
    exact (List.pairwise_cons.mp h).1 y hy
theorem Apart.left {es : List DictEntry} {c r : List (Int × Str)} (h : Apart es (c ++ r)) : Apart es c := ⟨fun e he x hx => h.1 e he x (List.mem_append_left _ hx), (List.pairwise_append.mp h.2).1⟩
theorem Apart.nil {es : List DictEntry} {c : List (Int × Str)} (h : Apart es c) : Apart [] c := ⟨fun _ he => (nomatch he), h.2⟩
theorem Apart.right {es : List DictEntry} {c r : List (Int × Str)} (h : Apart es (c ++ r)) (tk : Nat) : Apart (es ++ rowsAt tk c) r := by
  refine ⟨fun e he y hy => ?_, (List.pairwise_append.mp h.2).2.1⟩
  rcases List.mem_append.mp he with he | he
  · exact h.1 e he y (List.mem_append_right _ hy)
  · obtain ⟨x, hx, z, _⟩ := mem_rowsAt c tk e he
    rw [z]
    exact (List.pairwise_append.mp h.2).2.2 x hx y hy
theorem Apart.free {es : List DictEntry} {c : List (Int × Str)} (h : Apart es c) (tk : Nat) : Free es (rowsAt tk c) := by
  refine ⟨fun e he f hf => ?_, pair_rowsAt c tk h.2⟩
  obtain ⟨x, hx, z, _⟩ := mem_rowsAt c tk f hf
  rw [z]; exact h.1 e he x hx
theorem Apart.freeS {es : List DictEntry} {c : List (Int × Str)} (h : Apart es c) (tk : Nat) : Free es (rowsS tk c) := by
  refine ⟨fun e he f hf => ?_, pair_rowsS c tk h.2⟩
  obtain ⟨x, hx, z, _⟩ := mem_rowsS c tk f hf
  rw [z]; exact h.1 e he x hx
theorem intRowsAt (R : List (Int × Str)) (tk : Nat) : IntRows (rowsAt tk R) := fun e he => let ⟨x, _, _, t, z⟩ := mem_rowsAt R tk e he; ⟨x.1, t, z⟩
theorem intRowsS (R : List (Int × Str)) (tk : Nat) : IntRows (rowsS tk R) := fun e he => let ⟨x, _, _, t, z⟩ := mem_rowsS R tk e he; ⟨x.1, t, z⟩

section
variable {l : Life} {g : Array GenState} {dr : Drawn} {os : OsState} {A S : List Obj} {pos : Pos} {hnd : Addr → Addr → Value → Sem Unit}
theorem LR.chunk0 {R : List (Int × Str)} {tk : Nat} (hR : 15 < R.length) (hz : R.length < 1000000) (ha : Apart [] R) (hn : Nat.ble C.n₀ A.length = true) :
    LR C (chunkIn hnd (R.map (pairT pos)) none) (Sh (hp l A) g dr tk os) (2 + 13 * R.length) (some A.length) (Sh (hp l (A ++ dO (rowsAt tk R) R.length :: [])) g dr (tk + 3 * R.length) os) :=
  LR.bind (n := 2 + 13 * R.length) (m := 0) (LR.subLong hR hz ha hn) LR.pure
theorem LR.chunkM {run : List (Sem Value × Sem Value)} {es F : List DictEntry} {n m tk tk' k : Nat} (hn : Nat.ble C.n₀ A.length = true) (hlow : Nat.ble 2 A.length = true) (hne : es ≠ []) (hF : IntRows F) (hf : Free es F) (hz : es.length + F.length < 1000000)
    (hs : LR C (subDict run) (Sh (hp l (A ++ dO es n :: S)) g dr tk os) k (A ++ dO es n :: S).length (Sh (hp l ((A ++ dO es n :: S) ++ [dO F m])) g dr tk' os)) :
    LR C (chunkIn hnd run (some A.length)) (Sh (hp l (A ++ dO es n :: S)) g dr tk os) (k + (5 + 6 * F.length)) (some A.length) (Sh (hp l (A ++ dO (es ++ F) (n + F.length) :: (S ++ [dO F m]))) g dr tk' os) := by
  refine LR.bind (n := k) (m := 5 + 6 * F.length) (LR.holding hs) ?_
  refine LR.bind (n := 5 + 6 * F.length) (m := 0) (a := ()) (LR.onRaise (LR.holding ?_)) LR.pure
  rw [show (A ++ dO es n :: S) ++ [dO F m] = A ++ dO es n :: (S ++ [dO F m]) by simp]
  exact LR.merge hF hn hlow hne hf hz
def itemT (pos : Pos) (x : Int × Str) : Option (Sem Value) × Sem Value := (some (keyT x), valT pos x)
variable {body : (Option (Sem Value) × Sem Value) → DispS → Sem (ForInStep DispS)} {after : DispS → Sem Value}
theorem eat (D : DispBy hnd body after) (m : Option Addr) (rest : List (Option (Sem Value) × Sem Value)) : ∀ (Q : List (Int × Str)) (P : List (Sem Value × Sem Value)), P.length + Q.length < 17 →
    (forIn (Q.map (itemT pos) ++ rest) (m, P) body : Sem DispS) = forIn rest (m, P ++ Q.map (pairT pos)) body
  | [], P, _ => by rw [List.map_nil, List.map_nil, List.append_nil, List.nil_append]
  | x :: r, P, h => by
    rw [List.length_cons] at h
    rw [List.map_cons, List.cons_append, List.forIn_cons]
    show (body (some (keyT x), valT pos x) (m, P) >>= _) = _
    rw [D.some_, if_neg (by simp only [List.length_append, List.length_cons, List.length_nil, beq_iff_eq]; omega)]
    show (forIn (r.map (itemT pos) ++ rest) (m, P ++ [(keyT x, valT pos x)]) body : Sem DispS) = _
    rw [eat D m rest r _ (by rw [List.length_append, List.length_singleton]; omega), List.append_assoc]
    rfl
theorem LR.turn (D : DispBy hnd body after) {m m' : Option Addr} {rest : List (Option (Sem Value) × Sem Value)} {c : List (Int × Str)} (hc : c.length = 17) {s s' s'' : Shared} {n₁ n₂ : Nat} {r : DispS}
    (h1 : LR C (chunkIn hnd (c.map (pairT pos)) m) s n₁ m' s') (h2 : LR C (forIn rest (m', []) body) s' n₂ r s'') : LR C (forIn (c.map (itemT pos) ++ rest) (m, []) body) s (n₁ + n₂) r s'' := by
  have hne : c ≠ [] := fun e => by rw [e] at hc; cases hc
  have hsp : c = c.dropLast ++ [c.getLast hne] := (List.dropLast_concat_getLast hne).symm
  have hl : c.dropLast.length = 16 := by rw [List.length_dropLast, hc]
  have hm : c.map (itemT pos) ++ rest = c.dropLast.map (itemT pos) ++ (itemT pos (c.getLast hne) :: rest) := by
    conv => lhs; rw [hsp]
    rw [List.map_append, List.append_assoc]; rfl
  rw [hm, eat D m _ c.dropLast [] (by rw [hl]; decide), List.nil_append, List.forIn_cons]
  show LR C (body (some (keyT (c.getLast hne)), Mine.valT pos (c.getLast hne)) (m, c.dropLast.map (pairT pos)) >>= _) _ _ _ _
  rw [D.some_, if_pos (by simp only [List.length_append, List.length_cons, List.length_nil, beq_iff_eq, List.length_map]; omega)]
  have hp2 : c.dropLast.map (pairT pos) ++ [(keyT (c.getLast hne), Mine.valT pos (c.getLast hne))] = c.map (pairT pos) := by
    conv => rhs; rw [hsp]
    rw [List.map_append]; rfl
  rw [hp2]
  exact LR.bind (n := n₁) (m := n₂) (LR.bind (n := n₁) (m := 0) h1 LR.pure) h2
def subsOf : Nat → List (List (Int × Str)) → List Obj
  | _, [] => []
  | tk, c :: r => dO (rowsAt tk c) c.length :: subsOf (tk + 3 * c.length) r
theorem LR.chunks (D : DispBy hnd body after) (hn : Nat.ble C.n₀ A.length = true) (hlow : Nat.ble 2 A.length = true) {rest : List (Option (Sem Value) × Sem Value)} {last : List (Int × Str)} {s'' : Shared} {n₂ : Nat} {r : DispS} :
    ∀ (cs : List (List (Int × Str))) (es : List DictEntry) (S : List Obj) (tk : Nat), (∀ c ∈ cs, c.length = 17) → es ≠ [] → Apart es (cs.flatten ++ last) → es.length + cs.flatten.length < 1000000 →
      LR C (forIn rest (some A.length, []) body) (Sh (hp l (A ++ dO (es ++ rowsAt tk cs.flatten) (es.length + cs.flatten.length) :: (S ++ subsOf tk cs))) g dr (tk + 3 * cs.flatten.length) os) n₂ r s'' →
      LR C (forIn (cs.flatten.map (itemT pos) ++ rest) (some A.length, []) body) (Sh (hp l (A ++ dO es es.length :: S)) g dr tk os) (330 * cs.length + n₂) r s''
  | [], es, S, tk, _, _, _, _, h => by
    simpa [rowsAt, subsOf] using h
  | c :: cs, es, S, tk, hc, hne, ha, hz, h => by
    have hc17 : c.length = 17 := hc c (.head _)
    rw [List.flatten_cons, List.append_assoc] at ha
    rw [List.flatten_cons, List.length_append] at hz
    rw [List.flatten_cons, List.map_append, List.append_assoc]
    have hL : Nat.ble C.n₀ (A ++ dO es es.length :: S).length = true := by
      have := Nat.le_of_ble_eq_true hn
      exact Nat.ble_eq_true_of_le (by rw [List.length_append]; omega)
    have hsub := LR.subLong (C := C) (l := l) (g := g) (dr := dr) (os := os) (L := A ++ dO es es.length :: S) (pos := pos) (tk := tk) (R := c) (by omega) (by omega) ha.left.nil hL
    have hch := LR.chunkM (C := C) (l := l) (g := g) (dr := dr) (os := os) (A := A) (S := S) (hnd := hnd) (es := es) (F := rowsAt tk c) hn hlow hne (intRowsAt c tk) (ha.left.free tk) (by rw [rowsAt_length]; omega) hsub
    rw [rowsAt_length] at hch
    refine LR.cast (LR.turn D hc17 hch (n₂ := 330 * cs.length + n₂) ?_) (by rw [List.length_cons, hc17]; omega)
    have hlen : es.length + c.length = (es ++ rowsAt tk c).length := by rw [List.length_append, rowsAt_length]
    rw [hlen]
    refine LR.chunks D hn hlow cs (es ++ rowsAt tk c) (S ++ [dO (rowsAt tk c) c.length]) (tk + 3 * c.length) (fun c' h' => hc c' (.tail _ h')) (fun e => hne (List.append_eq_nil_iff.mp e).1) (ha.right tk) (by rw [← hlen]; omega) ?_
    rw [← hlen, List.append_assoc, ← rowsAt_append, List.append_assoc]
    have e1 : es.length + c.length + cs.flatten.length = es.length + (c :: cs).flatten.length := by rw [List.flatten_cons, List.length_append]; omega
    have e2 : tk + 3 * c.length + 3 * cs.flatten.length = tk + 3 * (c :: cs).flatten.length := by rw [List.flatten_cons, List.length_append]; omega
    rw [e1, e2]
    exact h
end

section
variable {l : Life} {g : Array GenState} {dr : Drawn} {os : OsState} {A : List Obj} {pos : Pos}
theorem LR.display {c₀ last : List (Int × Str)} {cs : List (List (Int × Str))} {tk : Nat} (hn : Nat.ble C.n₀ A.length = true) (hlow : Nat.ble 2 A.length = true) (h0 : c₀.length = 17) (hc : ∀ c ∈ cs, c.length = 17) (hl0 : last ≠ []) (hl : last.length ≤ 15)
    (ha : Apart [] (c₀ ++ (cs.flatten ++ last))) (hz : c₀.length + (cs.flatten.length + last.length) < 1000000) :
    LR C (dictDisplay ((c₀ ++ (cs.flatten ++ last)).map (itemT pos))) (Sh (hp l A) g dr tk os) (223 + (330 * cs.length + (6 + 19 * last.length))) (.ref A.length)
      (Sh (hp l (A ++ dO (rowsAt tk (c₀ ++ cs.flatten) ++ rowsS (tk + 3 * (c₀ ++ cs.flatten).length) last) (c₀.length + (cs.flatten.length + last.length)) :: (subsOf (tk + 3 * c₀.length) cs ++ [dO (rowsS (tk + 3 * (c₀ ++ cs.flatten).length) last) last.length]))) g dr (tk + 3 * (c₀.length + (cs.flatten.length + last.length))) os) := by
  obtain ⟨body, after, D, e⟩ := disp_parts ((c₀ ++ (cs.flatten ++ last)).map (itemT pos))
  rw [e]
  have h1 := LR.chunk0 (C := C) (l := l) (g := g) (dr := dr) (os := os) (A := A) (pos := pos) (hnd := dispHnd) (R := c₀) (tk := tk) (by omega) (by omega) ha.left hn
  have hE : Apart (rowsAt tk c₀) (cs.flatten ++ last) := by have := ha.right tk; rwa [List.nil_append] at this
  -- what is left behind the whole chunks
  have hrest : (forIn (last.map (itemT pos)) ((some A.length, []) : DispS) body : Sem DispS) = Pure.pure ((some A.length, last.map (pairT pos)) : DispS) := by
    have := eat (pos := pos) D (some A.length) [] last [] (by simp; omega)
    rw [List.append_nil, List.nil_append] at this
    rw [this]; rfl
  let E := rowsAt tk c₀ ++ rowsAt (tk + 3 * c₀.length) cs.flatten
  have hElen : E.length = c₀.length + cs.flatten.length := by simp only [E, List.length_append, rowsAt_length]
  have h2 := LR.chunks (C := C) (l := l) (g := g) (dr := dr) (os := os) (A := A) (pos := pos) D hn hlow (rest := last.map (itemT pos)) (last := last) (n₂ := 0) (r := (some A.length, last.map (pairT pos)))
    (s'' := Sh (hp l (A ++ dO E ((rowsAt tk c₀).length + cs.flatten.length) :: ([] ++ subsOf (tk + 3 * c₀.length) cs))) g dr (tk + 3 * c₀.length + 3 * cs.flatten.length) os)
    cs (rowsAt tk c₀) [] (tk + 3 * c₀.length) hc (fun q => by have := rowsAt_length c₀ tk; rw [q, h0] at this; cases this) hE (by rw [rowsAt_length]; omega) (by rw [hrest]; exact LR.pure)
  rw [rowsAt_length] at h2
  have h12 := LR.turn (rest := cs.flatten.map (itemT pos) ++ last.map (itemT pos)) D h0 h1 h2
  rw [← List.map_append, ← List.map_append] at h12
  -- the last chunk
  obtain ⟨x, r, hx⟩ : ∃ x r, last = x :: r := by cases last with | nil => exact absurd rfl hl0 | cons x r => exact ⟨x, r, rfl⟩
  let S := [] ++ subsOf (tk + 3 * c₀.length) cs
  let tk' := tk + 3 * c₀.length + 3 * cs.flatten.length
  have hL : Nat.ble C.n₀ (A ++ dO E E.length :: S).length = true := by
    have := Nat.le_of_ble_eq_true hn
    exact Nat.ble_eq_true_of_le (by rw [List.length_append]; omega)
  have hE2 : Apart E last := by have := hE.right (tk + 3 * c₀.length); exact this
  have hsub := LR.subShort (C := C) (l := l) (g := g) (dr := dr) (os := os) (L := A ++ dO E E.length :: S) (pos := pos) (tk := tk') (R := last) hl hE2.nil hL
  have hEne : E ≠ [] := fun q => by have := hElen; rw [q] at this; simp at this; omega
  have hch := LR.chunkM (C := C) (l := l) (g := g) (dr := dr) (os := os) (A := A) (S := S) (hnd := dispHnd) (es := E) (F := rowsS tk' last) hn hlow hEne (intRowsS last tk') (hE2.freeS tk') (by rw [rowsS_length, hElen]; omega) hsub
  have haft : LR C (after (some A.length, last.map (pairT pos))) (Sh (hp l (A ++ dO E E.length :: S)) g dr tk' os) (1 + 13 * last.length + (5 + 6 * (rowsS tk' last).length)) (.ref A.length)
      (Sh (hp l (A ++ dO (E ++ rowsS tk' last) (E.length + (rowsS tk' last).length) :: (S ++ [dO (rowsS tk' last) last.length]))) g dr (tk' + 3 * last.length) os) := by
    have := D.after_ (some A.length) (pairT pos x) (r.map (pairT pos))
    rw [← List.map_cons, ← hx] at this
    rw [this]
    exact LR.bind (m := 0) hch LR.pure
  rw [hElen] at haft
  have hfin := LR.bind h12 haft
  have e1 : tk + 3 * (c₀ ++ cs.flatten).length = tk' := by simp only [tk', List.length_append]; omega
  have e2 : rowsAt tk (c₀ ++ cs.flatten) = E := by rw [rowsAt_append]
  have e3 : tk' + 3 * last.length = tk + 3 * (c₀.length + (cs.flatten.length + last.length)) := by simp only [tk']; omega
  rw [e1, e2, ← e3]
  rw [rowsS_length] at hfin
  have e4 : c₀.length + cs.flatten.length + last.length = c₀.length + (cs.flatten.length + last.length) := by omega
  rw [e4] at hfin
  refine LR.cast hfin (by omega)
end
end LR
noncomputable section
abbrev pw : Program := PySem.Challenge.pw_tr0055_02
def noArgs : Arguments := ⟨[], [], none, [], [], none, []⟩
def noScope : Scope := { kind := .function, names := [], isGenerator := false, isCoroutine := false, more := [] }
def fA : Stmt → Arguments
  | .FunctionDef _ a _ _ _ _ _ _ _ _ => a
  | _ => noArgs
def fB : Stmt → List Stmt
  | .FunctionDef _ _ b _ _ _ _ _ _ _ => b
  | _ => []
def fS : Stmt → Scope
  | .FunctionDef _ _ _ _ _ _ s _ _ _ => s
  | _ => noScope
def cB : Stmt → List Stmt
  | .ClassDef _ _ _ b _ _ _ _ _ _ _ => b
  | _ => []
def nth : List Stmt → Nat → Stmt
  | [], _ => .Pass (Pos.mk 0 0 0 0)
  | x :: _, 0 => x
  | _ :: r, n + 1 => nth r n
def aName : Stmt → Str
  | .Assign (.Name x _ :: _) _ _ => x
  | _ => Str.empty
def aPos : Stmt → Pos
  | .Assign (.Name _ p :: _) _ _ => p
  | _ => Pos.mk 0 0 0 0
def dE : Stmt → List (Option PySem.Expr) × List PySem.Expr
  | .Assign _ (.Dict ks vs _) _ => (ks, vs)
  | _ => ([], [])
def st0 : Stmt := nth pw.main.body 0
def st1 : Stmt := nth pw.main.body 1
def st2 : Stmt := nth pw.main.body 2
def st3 : Stmt := nth pw.main.body 3
def st4 : Stmt := nth pw.main.body 4
def st5 : Stmt := nth pw.main.body 5
def st6 : Stmt := nth pw.main.body 6
def st7 : Stmt := nth pw.main.body 7
def st8 : Stmt := nth pw.main.body 8
def st9 : Stmt := nth pw.main.body 9
def st10 : Stmt := nth pw.main.body 10
def st11 : Stmt := nth pw.main.body 11
def st12 : Stmt := nth pw.main.body 12
def st13 : Stmt := nth pw.main.body 13
def st14 : Stmt := nth pw.main.body 14
def st15 : Stmt := nth pw.main.body 15
def st16 : Stmt := nth pw.main.body 16
def st17 : Stmt := nth pw.main.body 17
def st18 : Stmt := nth pw.main.body 18
def st19 : Stmt := nth pw.main.body 19
def st6_0 : Stmt := nth (cB st6) 0
def st6_1 : Stmt := nth (cB st6) 1
def st6_2 : Stmt := nth (cB st6) 2
def st6_3 : Stmt := nth (cB st6) 3
def tabTok : Nat := 372
def tabPair : Option PySem.Expr → PySem.Expr → Int × Str
  | some (.Constant (.int k) _ _), .Constant (.str x) _ _ => (k, x)
  | _, _ => (0, Str.empty)
def tabPairs : List (Option PySem.Expr) → List PySem.Expr → List (Int × Str)
  | [], _ => []
  | _ :: _, [] => []
  | k :: ks, v :: vs => tabPair k v :: tabPairs ks vs
def tabR : List (Int × Str) := tabPairs (dE st10).1 (dE st10).2
def tabChunk (j : Nat) : List (Int × Str) := (tabR.drop (17 * j)).take 17
def tabMid : List (List (Int × Str)) := [tabChunk 1, tabChunk 2, tabChunk 3, tabChunk 4, tabChunk 5, tabChunk 6, tabChunk 7, tabChunk 8, tabChunk 9, tabChunk 10, tabChunk 11, tabChunk 12, tabChunk 13, tabChunk 14, tabChunk 15, tabChunk 16, tabChunk 17, tabChunk 18, tabChunk 19, tabChunk 20, tabChunk 21, tabChunk 22, tabChunk 23, tabChunk 24, tabChunk 25, tabChunk 26, tabChunk 27, tabChunk 28, tabChunk 29, tabChunk 30, tabChunk 31, tabChunk 32, tabChunk 33, tabChunk 34, tabChunk 35, tabChunk 36, tabChunk 37]
def tabLast : List (Int × Str) := tabR.drop 646
def tabE : List DictEntry := rowsAt tabTok (tabChunk 0 ++ tabMid.flatten) ++ rowsS (tabTok + 1938) tabLast
def env : Env := { scope := pw.main.scope, locals := mainNs, globals := mainNs, cells := [], code := (Value.ref 13), frame := some 14 }
def bE : List Stmt := behindTheImports pw
def cE : Code := .body bE env
def ann : Option Value := (some (Value.ref 6))
def topF : List Frame := [topFrame (Pos.mk 0 0 0 0)]
def Sz (w : World) (os : OsState) : Shared := Shared.mk (boot_heap w.params) (Array.mk []) boot_drawn boot_toks os
def life0 : Life := { registered := [], finalised := [], alive := [], known := 0, ids := [], orphanDicts := [], counting := false, cnt := #[], zero := [], soft := 0, below := false, collecting := false, loading := false, debug := 0, thresholds := [2000, 10, 10], woke := false, asked := 0, gcEnabled := true, old := [], middle := [], young := 0, intoMiddle := false }
def ob11_0 (P : Params) : Obj := ⟨(Value.type "tuple"), none, Data.seq #[] 0, #[]⟩
def ob12_0 (P : Params) : Obj := ⟨Value.none, none, Data.fields #[], #[]⟩
def ob13_0 (P : Params) : Obj := ⟨(Value.type "code"), none, Data.fields #[(Value.str (Str.ofString "<module>") 182), (Value.str (Str.ofString "<module>") 183), (Value.str (Str.ofString "/claim/cut.py") 184), (Value.int (1) 0), (Value.int (0) 0), (Value.int (0) 0), (Value.int (0) 0), (Value.int (0) 0), (Value.ref 11), (Value.bool false), (Value.int (181) 0), (Value.ref 12), Value.none, Value.none, Value.none, Value.none, (Value.int (185) 0), (Value.int (1) 0), (Value.str (Str.ofString "/claim/cut.py") 186)], #[]⟩
def ob14_0 (P : Params) : Obj := ⟨(Value.type "frame"), none, Data.plain, #[(some (Value.ref 13)), (some (Value.ref 3)), (some (Value.ref 3)), none, (some (Value.str (Str.ofString "__main__") 164)), none, (some (Value.ref 0))]⟩
def heapA (P : Params) : Heap := Heap.mk (Array.mk [boot_o_0 P, boot_o_1 P, boot_o_2 P, boot_o_3 P, boot_o_4 P, boot_o_5 P, boot_o_6 P, boot_o_7 P, boot_o_8 P, boot_o_9 P, boot_o_10 P, ob11_0 P, ob12_0 P, ob13_0 P, ob14_0 P]) life0
def Sa (w : World) (os : OsState) : Shared := Shared.mk (heapA w.params) (Array.mk []) (Drawn.mk 0 0 0 0) 187 os
def l_pre (w : World) (os : OsState) : Option (Shared × Thread) := topGo treeTable pw w 11 ann 12 (Sz w os) (topStub pw)
def r_pre (w : World) (os : OsState) : Option (Shared × Thread) := some (Sa w os, Thread.mk (denote treeTable cE) cE (Pos.mk 0 0 0 0) topF)
def trb (P : Params) : BT := (BT.node (boot_o_0 P) (BT.node (boot_o_1 P) (BT.node (boot_o_3 P) (BT.node (boot_o_7 P) BT.nil BT.nil) (BT.node (ob11_0 P) BT.nil BT.nil)) (BT.node (boot_o_5 P) (BT.node (boot_o_9 P) BT.nil BT.nil) (BT.node (ob13_0 P) BT.nil BT.nil))) (BT.node (boot_o_2 P) (BT.node (boot_o_4 P) (BT.node (boot_o_8 P) BT.nil BT.nil) (BT.node (ob12_0 P) BT.nil BT.nil)) (BT.node (boot_o_6 P) (BT.node (boot_o_10 P) BT.nil BT.nil) (BT.node (ob14_0 P) BT.nil BT.nil))))
def Sb (w : World) (os : OsState) : SharedT := SharedT.mk (trb w.params) 15 life0 (Array.mk []) (Drawn.mk 0 0 0 0) 187 os
def l_blk (w : World) (os : OsState) : Option (Flow × Shared × Code × Pos) := segRun treeTable pw w 11 ann 1 1 (Sa w os) (blockOf bE env cE (Pos.mk 0 0 0 0) topF)
def r_blk (w : World) (os : OsState) : Option (Flow × Shared × Code × Pos) := some (.next, (Sb w os).abs, cE, (Pos.mk 0 0 0 0))
def sts0 : List Stmt := [st0, st1, st2, st3, st4, st5, st6, st7]
def ob2_2 (P : Params) : Obj := ⟨Value.none, none, Data.dict #[⟨PyData.keyHash P (Str.ofString "type.__subclasses__.Exception.0"), (Value.str (Str.ofString "type.__subclasses__.Exception.0") 212), (Value.int (31) 0)⟩, ⟨PyData.keyHash P (Str.ofString "type.__subclasses__.Exception.n"), (Value.str (Str.ofString "type.__subclasses__.Exception.n") 213), (Value.int (1) 0)⟩] 2, #[]⟩
def ob3_2 (P : Params) : Obj := ⟨(Value.type "dict"), none, Data.dict #[⟨PyData.keyHash P (Str.ofString "__name__"), (Value.str (Str.ofString "__name__") 165), (Value.str (Str.ofString "cpy313.stringprep") 303)⟩, ⟨PyData.keyHash P (Str.ofString "__doc__"), (Value.str (Str.ofString "__doc__") 166), Value.none⟩, ⟨PyData.keyHash P (Str.ofString "__package__"), (Value.str (Str.ofString "__package__") 167), Value.none⟩, ⟨PyData.keyHash P (Str.ofString "__loader__"), (Value.str (Str.ofString "__loader__") 168), (Value.builtin "__main__.__loader__#opaque")⟩, ⟨PyData.keyHash P (Str.ofString "__spec__"), (Value.str (Str.ofString "__spec__") 169), Value.none⟩, ⟨PyData.keyHash P (Str.ofString "__annotations__"), (Value.str (Str.ofString "__annotations__") 170), (Value.ref 6)⟩, ⟨PyData.keyHash P (Str.ofString "__builtins__"), (Value.str (Str.ofString "__builtins__") 171), (Value.ref 4)⟩, ⟨PyData.keyHash P (Str.ofString "__file__"), (Value.str (Str.ofString "__file__") 173), (Value.str (Str.ofString "/claim/cut.py") 172)⟩, ⟨PyData.keyHash P (Str.ofString "__cached__"), (Value.str (Str.ofString "__cached__") 174), Value.none⟩, ⟨PyData.keyHash P (Str.ofString "_wall"), (Value.str (Str.ofString "_wall") 193), (Value.ref 21)⟩, ⟨PyData.keyHash P (Str.ofString "Error"), (Value.str (Str.ofString "Error") 215), (Value.ref 31)⟩, ⟨PyData.keyHash P (Str.ofString "error_reply"), (Value.str (Str.ofString "error_reply") 231), (Value.ref 44)⟩, ⟨PyData.keyHash P (Str.ofString "parse257"), (Value.str (Str.ofString "parse257") 242), (Value.ref 53)⟩, ⟨PyData.keyHash P (Str.ofString "_netrclex"), (Value.str (Str.ofString "_netrclex") 302), (Value.ref 91)⟩] 14, #[]⟩
def ob12_2 (P : Params) : Obj := ⟨Value.none, none, Data.fields #[(Value.int (1) 0), (Value.int (0) 0), (Value.ref 20), (Value.int (5) 0), (Value.int (0) 0), (Value.ref 27), (Value.int (7) 0), (Value.int (0) 0), (Value.ref 40), (Value.int (9) 0), (Value.int (0) 0), (Value.ref 52), (Value.int (27) 0), (Value.int (0) 0), (Value.ref 59)], #[]⟩
def ob15_2 (P : Params) : Obj := ⟨(Value.type "tuple"), none, Data.seq #[] 0, #[]⟩
def ob16_2 (P : Params) : Obj := ⟨Value.none, none, Data.fields #[], #[]⟩
def ob17_2 (P : Params) : Obj := ⟨(Value.type "tuple"), none, Data.seq #[(Value.str (Str.ofString "k") 190)] 0, #[]⟩
def ob18_2 (P : Params) : Obj := ⟨(Value.type "tuple"), none, Data.seq #[] 0, #[]⟩
def ob19_2 (P : Params) : Obj := ⟨Value.none, none, Data.func { name := (Str.ofString "_wall"), qualname := (Str.ofString "_wall"), params := fA st0, body := .stmts (fB st0), scope := fS st0, globals := 0, closure := [], defaults := Value.none, kwdefaults := Value.none, doc := Value.none, pyModule := Value.none, annotations := none, code := Value.none, closureTuple := Value.none, builtins := 0 }, #[]⟩
def ob20_2 (P : Params) : Obj := ⟨(Value.type "code"), none, Data.fields #[(Value.str (Str.ofString "_wall") 187), (Value.str (Str.ofString "_wall") 188), (Value.str (Str.ofString "/claim/cut.py") 189), (Value.int (1) 0), (Value.int (1) 0), (Value.int (0) 0), (Value.int (0) 0), (Value.int (3) 0), (Value.ref 15), (Value.bool true), (Value.int (181) 0), (Value.ref 16), Value.none, (Value.ref 17), (Value.ref 18), (Value.ref 19), (Value.int (191) 0), (Value.int (1) 0), (Value.str (Str.ofString "/claim/cut.py") 192)], #[]⟩
def ob21_2 (P : Params) : Obj := ⟨(Value.type "function"), none, Data.func { name := (Str.ofString "_wall"), qualname := (Str.ofString "_wall"), params := fA st0, body := .stmts (fB st0), scope := fS st0, globals := 3, closure := [], defaults := Value.none, kwdefaults := Value.none, doc := Value.none, pyModule := (Value.str (Str.ofString "__main__") 164), annotations := none, code := (Value.ref 20), closureTuple := Value.none, builtins := 0 }, #[]⟩
def ob22_2 (P : Params) : Obj := ⟨(Value.type "tuple"), none, Data.seq #[(Value.type "Exception")] 0, #[]⟩
def ob23_2 (P : Params) : Obj := ⟨(Value.type "builtin_function_or_method"), none, Data.fields #[(Value.builtin "type.__prepare__"), (Value.type "type")], #[]⟩
def ob24_2 (P : Params) : Obj := ⟨(Value.type "dict"), none, Data.dict #[⟨PyData.keyHash P (Str.ofString "__module__"), (Value.str (Str.ofString "__module__") 203), (Value.str (Str.ofString "cpy313.ftplib") 194)⟩, ⟨PyData.keyHash P (Str.ofString "__qualname__"), (Value.str (Str.ofString "__qualname__") 205), (Value.str (Str.ofString "Error") 204)⟩, ⟨PyData.keyHash P (Str.ofString "__firstlineno__"), (Value.str (Str.ofString "__firstlineno__") 207), (Value.int (5) 206)⟩, ⟨PyData.keyHash P (Str.ofString "__static_attributes__"), (Value.str (Str.ofString "__static_attributes__") 208), (Value.ref 29)⟩] 4, #[]⟩
def ob25_2 (P : Params) : Obj := ⟨(Value.type "tuple"), none, Data.seq #[] 0, #[]⟩
def ob26_2 (P : Params) : Obj := ⟨Value.none, none, Data.fields #[], #[]⟩
def ob27_2 (P : Params) : Obj := ⟨(Value.type "code"), none, Data.fields #[(Value.str (Str.ofString "Error") 198), (Value.str (Str.ofString "Error") 199), (Value.str (Str.ofString "/claim/cut.py") 200), (Value.int (5) 0), (Value.int (0) 0), (Value.int (0) 0), (Value.int (0) 0), (Value.int (0) 0), (Value.ref 25), (Value.bool false), (Value.int (181) 0), (Value.ref 26), Value.none, Value.none, Value.none, Value.none, (Value.int (201) 0), (Value.int (5) 0), (Value.str (Str.ofString "/claim/cut.py") 202)], #[]⟩
def ob28_2 (P : Params) : Obj := ⟨(Value.type "frame"), none, Data.plain, #[(some (Value.ref 27)), (some (Value.ref 3)), (some (Value.ref 24)), none, (some (Value.str (Str.ofString "cpy313.ftplib") 194)), none, (some (Value.ref 0))]⟩
def ob29_2 (P : Params) : Obj := ⟨(Value.type "tuple"), none, Data.seq #[] 0, #[]⟩
def ob30_2 (P : Params) : Obj := ⟨(Value.type "dict"), none, Data.dict #[⟨PyData.keyHash P (Str.ofString "__module__"), (Value.str (Str.ofString "__module__") 203), (Value.str (Str.ofString "cpy313.ftplib") 194)⟩, ⟨PyData.keyHash P (Str.ofString "__firstlineno__"), (Value.str (Str.ofString "__firstlineno__") 207), (Value.int (5) 206)⟩, ⟨PyData.keyHash P (Str.ofString "__static_attributes__"), (Value.str (Str.ofString "__static_attributes__") 208), (Value.ref 29)⟩, ⟨PyData.keyHash P (Str.ofString "__weakref__"), (Value.str (Str.ofString "__weakref__") 210), (Value.ref 32)⟩, ⟨PyData.keyHash P (Str.ofString "__doc__"), (Value.str (Str.ofString "__doc__") 211), Value.none⟩] 3, #[]⟩
def ob31_2 (P : Params) : Obj := ⟨(Value.type "type"), none, Data.cls { name := (Str.ofString "Error"), bases := [(Value.type "Exception")], mro := [(Value.ref 31), (Value.type "Exception"), (Value.type "BaseException"), (Value.type "object")], ns := 30, qualname := (Str.ofString "Error"), hasDict := true, slotNames := [], subclasses := [(Value.ref 44)], abstract := false, collection := none, hasDel := false }, #[(some (Value.ref 22)), none, (some (Value.str (Str.ofString "Error") 196)), (some (Value.str (Str.ofString "Error") 204)), (some (Value.builtin "Exception.__new__")), (some (Value.bool true))]⟩
def ob32_2 (P : Params) : Obj := ⟨(Value.type "getset_descriptor"), none, Data.fields #[(Value.str (Str.ofString "__weakref__") 209), (Value.ref 31), (Value.builtin "ExceptionGroup.__weakref__"), Value.none], #[]⟩
def ob33_2 (P : Params) : Obj := ⟨(Value.type "super"), none, Data.fields #[(Value.ref 31), (Value.ref 31), (Value.ref 31)], #[]⟩
def ob34_2 (P : Params) : Obj := ⟨(Value.type "builtin_function_or_method"), none, Data.fields #[(Value.builtin "object.__init_subclass__"), (Value.ref 31)], #[]⟩
def ob35_2 (P : Params) : Obj := ⟨(Value.type "tuple"), none, Data.seq #[(Value.ref 31)] 0, #[]⟩
def ob36_2 (P : Params) : Obj := ⟨(Value.type "builtin_function_or_method"), none, Data.fields #[(Value.builtin "type.__prepare__"), (Value.type "type")], #[]⟩
def ob37_2 (P : Params) : Obj := ⟨(Value.type "dict"), none, Data.dict #[⟨PyData.keyHash P (Str.ofString "__module__"), (Value.str (Str.ofString "__module__") 223), (Value.str (Str.ofString "cpy313.ftplib") 194)⟩, ⟨PyData.keyHash P (Str.ofString "__qualname__"), (Value.str (Str.ofString "__qualname__") 225), (Value.str (Str.ofString "error_reply") 224)⟩, ⟨PyData.keyHash P (Str.ofString "__firstlineno__"), (Value.str (Str.ofString "__firstlineno__") 227), (Value.int (7) 226)⟩, ⟨PyData.keyHash P (Str.ofString "__static_attributes__"), (Value.str (Str.ofString "__static_attributes__") 228), (Value.ref 42)⟩] 4, #[]⟩
def ob38_2 (P : Params) : Obj := ⟨(Value.type "tuple"), none, Data.seq #[] 0, #[]⟩
def ob39_2 (P : Params) : Obj := ⟨Value.none, none, Data.fields #[], #[]⟩
def ob40_2 (P : Params) : Obj := ⟨(Value.type "code"), none, Data.fields #[(Value.str (Str.ofString "error_reply") 218), (Value.str (Str.ofString "error_reply") 219), (Value.str (Str.ofString "/claim/cut.py") 220), (Value.int (7) 0), (Value.int (0) 0), (Value.int (0) 0), (Value.int (0) 0), (Value.int (0) 0), (Value.ref 38), (Value.bool false), (Value.int (181) 0), (Value.ref 39), Value.none, Value.none, Value.none, Value.none, (Value.int (221) 0), (Value.int (7) 0), (Value.str (Str.ofString "/claim/cut.py") 222)], #[]⟩
def ob41_2 (P : Params) : Obj := ⟨(Value.type "frame"), none, Data.plain, #[(some (Value.ref 40)), (some (Value.ref 3)), (some (Value.ref 37)), none, (some (Value.str (Str.ofString "cpy313.ftplib") 194)), none, (some (Value.ref 0))]⟩
def ob42_2 (P : Params) : Obj := ⟨(Value.type "tuple"), none, Data.seq #[] 0, #[]⟩
def ob43_2 (P : Params) : Obj := ⟨(Value.type "dict"), none, Data.dict #[⟨PyData.keyHash P (Str.ofString "__module__"), (Value.str (Str.ofString "__module__") 223), (Value.str (Str.ofString "cpy313.ftplib") 194)⟩, ⟨PyData.keyHash P (Str.ofString "__firstlineno__"), (Value.str (Str.ofString "__firstlineno__") 227), (Value.int (7) 226)⟩, ⟨PyData.keyHash P (Str.ofString "__static_attributes__"), (Value.str (Str.ofString "__static_attributes__") 228), (Value.ref 42)⟩, ⟨PyData.keyHash P (Str.ofString "__doc__"), (Value.str (Str.ofString "__doc__") 229), Value.none⟩] 2, #[]⟩
def ob44_2 (P : Params) : Obj := ⟨(Value.type "type"), none, Data.cls { name := (Str.ofString "error_reply"), bases := [(Value.ref 31)], mro := [(Value.ref 44), (Value.ref 31), (Value.type "Exception"), (Value.type "BaseException"), (Value.type "object")], ns := 43, qualname := (Str.ofString "error_reply"), hasDict := true, slotNames := [], subclasses := [], abstract := false, collection := none, hasDel := false }, #[(some (Value.ref 35)), none, (some (Value.str (Str.ofString "error_reply") 216)), (some (Value.str (Str.ofString "error_reply") 224)), (some (Value.builtin "Exception.__new__")), (some (Value.bool true))]⟩
def ob45_2 (P : Params) : Obj := ⟨(Value.type "super"), none, Data.fields #[(Value.ref 44), (Value.ref 44), (Value.ref 44)], #[]⟩
def ob46_2 (P : Params) : Obj := ⟨(Value.type "builtin_function_or_method"), none, Data.fields #[(Value.builtin "object.__init_subclass__"), (Value.ref 44)], #[]⟩
def ob47_2 (P : Params) : Obj := ⟨(Value.type "tuple"), none, Data.seq #[] 0, #[]⟩
def ob48_2 (P : Params) : Obj := ⟨Value.none, none, Data.fields #[], #[]⟩
def ob49_2 (P : Params) : Obj := ⟨(Value.type "tuple"), none, Data.seq #[(Value.str (Str.ofString "resp") 235), (Value.str (Str.ofString "dirname") 236), (Value.str (Str.ofString "i") 237), (Value.str (Str.ofString "n") 238), (Value.str (Str.ofString "c") 239)] 0, #[]⟩
def ob50_2 (P : Params) : Obj := ⟨(Value.type "tuple"), none, Data.seq #[] 0, #[]⟩
def ob51_2 (P : Params) : Obj := ⟨Value.none, none, Data.func { name := (Str.ofString "parse257"), qualname := (Str.ofString "parse257"), params := fA st4, body := .stmts (fB st4), scope := fS st4, globals := 0, closure := [], defaults := Value.none, kwdefaults := Value.none, doc := Value.none, pyModule := Value.none, annotations := none, code := Value.none, closureTuple := Value.none, builtins := 0 }, #[]⟩
def ob52_2 (P : Params) : Obj := ⟨(Value.type "code"), none, Data.fields #[(Value.str (Str.ofString "parse257") 232), (Value.str (Str.ofString "parse257") 233), (Value.str (Str.ofString "/claim/cut.py") 234), (Value.int (9) 0), (Value.int (1) 0), (Value.int (0) 0), (Value.int (0) 0), (Value.int (3) 0), (Value.ref 47), (Value.bool true), (Value.int (181) 0), (Value.ref 48), Value.none, (Value.ref 49), (Value.ref 50), (Value.ref 51), (Value.int (240) 0), (Value.int (9) 0), (Value.str (Str.ofString "/claim/cut.py") 241)], #[]⟩
def ob53_2 (P : Params) : Obj := ⟨(Value.type "function"), none, Data.func { name := (Str.ofString "parse257"), qualname := (Str.ofString "parse257"), params := fA st4, body := .stmts (fB st4), scope := fS st4, globals := 3, closure := [], defaults := Value.none, kwdefaults := Value.none, doc := Value.none, pyModule := (Value.str (Str.ofString "cpy313.ftplib") 194), annotations := none, code := (Value.ref 52), closureTuple := Value.none, builtins := 0 }, #[]⟩
def ob54_2 (P : Params) : Obj := ⟨(Value.type "tuple"), none, Data.seq #[] 0, #[]⟩
def ob55_2 (P : Params) : Obj := ⟨(Value.type "builtin_function_or_method"), none, Data.fields #[(Value.builtin "type.__prepare__"), (Value.type "type")], #[]⟩
def ob56_2 (P : Params) : Obj := ⟨(Value.type "dict"), none, Data.dict #[⟨PyData.keyHash P (Str.ofString "__module__"), (Value.str (Str.ofString "__module__") 252), (Value.str (Str.ofString "cpy313.netrc") 243)⟩, ⟨PyData.keyHash P (Str.ofString "__qualname__"), (Value.str (Str.ofString "__qualname__") 254), (Value.str (Str.ofString "_netrclex") 253)⟩, ⟨PyData.keyHash P (Str.ofString "__firstlineno__"), (Value.str (Str.ofString "__firstlineno__") 256), (Value.int (27) 255)⟩, ⟨PyData.keyHash P (Str.ofString "__init__"), (Value.str (Str.ofString "__init__") 264), (Value.ref 67)⟩, ⟨PyData.keyHash P (Str.ofString "_read_char"), (Value.str (Str.ofString "_read_char") 272), (Value.ref 74)⟩, ⟨PyData.keyHash P (Str.ofString "get_token"), (Value.str (Str.ofString "get_token") 282), (Value.ref 81)⟩, ⟨PyData.keyHash P (Str.ofString "push_token"), (Value.str (Str.ofString "push_token") 290), (Value.ref 88)⟩, ⟨PyData.keyHash P (Str.ofString "__static_attributes__"), (Value.str (Str.ofString "__static_attributes__") 295), (Value.ref 89)⟩] 8, #[]⟩
def ob57_2 (P : Params) : Obj := ⟨(Value.type "tuple"), none, Data.seq #[] 0, #[]⟩
def ob58_2 (P : Params) : Obj := ⟨Value.none, none, Data.fields #[(Value.int (29) 0), (Value.int (4) 0), (Value.ref 66), (Value.int (35) 0), (Value.int (4) 0), (Value.ref 73), (Value.int (41) 0), (Value.int (4) 0), (Value.ref 80), (Value.int (68) 0), (Value.int (4) 0), (Value.ref 87)], #[]⟩
def ob59_2 (P : Params) : Obj := ⟨(Value.type "code"), none, Data.fields #[(Value.str (Str.ofString "_netrclex") 247), (Value.str (Str.ofString "_netrclex") 248), (Value.str (Str.ofString "/claim/cut.py") 249), (Value.int (27) 0), (Value.int (0) 0), (Value.int (0) 0), (Value.int (0) 0), (Value.int (0) 0), (Value.ref 57), (Value.bool false), (Value.int (181) 0), (Value.ref 58), Value.none, Value.none, Value.none, Value.none, (Value.int (250) 0), (Value.int (27) 0), (Value.str (Str.ofString "/claim/cut.py") 251)], #[]⟩
def ob60_2 (P : Params) : Obj := ⟨(Value.type "frame"), none, Data.plain, #[(some (Value.ref 59)), (some (Value.ref 3)), (some (Value.ref 56)), none, (some (Value.str (Str.ofString "cpy313.netrc") 243)), none, (some (Value.ref 0))]⟩
def ob61_2 (P : Params) : Obj := ⟨(Value.type "tuple"), none, Data.seq #[] 0, #[]⟩
def ob62_2 (P : Params) : Obj := ⟨Value.none, none, Data.fields #[], #[]⟩
def ob63_2 (P : Params) : Obj := ⟨(Value.type "tuple"), none, Data.seq #[(Value.str (Str.ofString "self") 260), (Value.str (Str.ofString "fp") 261)] 0, #[]⟩
def ob64_2 (P : Params) : Obj := ⟨(Value.type "tuple"), none, Data.seq #[] 0, #[]⟩
def ob65_2 (P : Params) : Obj := ⟨Value.none, none, Data.func { name := (Str.ofString "__init__"), qualname := (Str.ofString "_netrclex.__init__"), params := fA st6_0, body := .stmts (fB st6_0), scope := fS st6_0, globals := 0, closure := [], defaults := Value.none, kwdefaults := Value.none, doc := Value.none, pyModule := Value.none, annotations := none, code := Value.none, closureTuple := Value.none, builtins := 0 }, #[]⟩
def ob66_2 (P : Params) : Obj := ⟨(Value.type "code"), none, Data.fields #[(Value.str (Str.ofString "__init__") 257), (Value.str (Str.ofString "_netrclex.__init__") 258), (Value.str (Str.ofString "/claim/cut.py") 259), (Value.int (29) 0), (Value.int (2) 0), (Value.int (0) 0), (Value.int (0) 0), (Value.int (3) 0), (Value.ref 61), (Value.bool true), (Value.int (181) 0), (Value.ref 62), Value.none, (Value.ref 63), (Value.ref 64), (Value.ref 65), (Value.int (262) 0), (Value.int (29) 0), (Value.str (Str.ofString "/claim/cut.py") 263)], #[]⟩
def ob67_2 (P : Params) : Obj := ⟨(Value.type "function"), none, Data.func { name := (Str.ofString "__init__"), qualname := (Str.ofString "_netrclex.__init__"), params := fA st6_0, body := .stmts (fB st6_0), scope := fS st6_0, globals := 3, closure := [], defaults := Value.none, kwdefaults := Value.none, doc := Value.none, pyModule := (Value.str (Str.ofString "cpy313.netrc") 243), annotations := none, code := (Value.ref 66), closureTuple := Value.none, builtins := 0 }, #[]⟩
def ob68_2 (P : Params) : Obj := ⟨(Value.type "tuple"), none, Data.seq #[] 0, #[]⟩
def ob69_2 (P : Params) : Obj := ⟨Value.none, none, Data.fields #[], #[]⟩
def ob70_2 (P : Params) : Obj := ⟨(Value.type "tuple"), none, Data.seq #[(Value.str (Str.ofString "self") 268), (Value.str (Str.ofString "ch") 269)] 0, #[]⟩
def ob71_2 (P : Params) : Obj := ⟨(Value.type "tuple"), none, Data.seq #[] 0, #[]⟩
def ob72_2 (P : Params) : Obj := ⟨Value.none, none, Data.func { name := (Str.ofString "_read_char"), qualname := (Str.ofString "_netrclex._read_char"), params := fA st6_1, body := .stmts (fB st6_1), scope := fS st6_1, globals := 0, closure := [], defaults := Value.none, kwdefaults := Value.none, doc := Value.none, pyModule := Value.none, annotations := none, code := Value.none, closureTuple := Value.none, builtins := 0 }, #[]⟩
def ob73_2 (P : Params) : Obj := ⟨(Value.type "code"), none, Data.fields #[(Value.str (Str.ofString "_read_char") 265), (Value.str (Str.ofString "_netrclex._read_char") 266), (Value.str (Str.ofString "/claim/cut.py") 267), (Value.int (35) 0), (Value.int (1) 0), (Value.int (0) 0), (Value.int (0) 0), (Value.int (3) 0), (Value.ref 68), (Value.bool true), (Value.int (181) 0), (Value.ref 69), Value.none, (Value.ref 70), (Value.ref 71), (Value.ref 72), (Value.int (270) 0), (Value.int (35) 0), (Value.str (Str.ofString "/claim/cut.py") 271)], #[]⟩
def ob74_2 (P : Params) : Obj := ⟨(Value.type "function"), none, Data.func { name := (Str.ofString "_read_char"), qualname := (Str.ofString "_netrclex._read_char"), params := fA st6_1, body := .stmts (fB st6_1), scope := fS st6_1, globals := 3, closure := [], defaults := Value.none, kwdefaults := Value.none, doc := Value.none, pyModule := (Value.str (Str.ofString "cpy313.netrc") 243), annotations := none, code := (Value.ref 73), closureTuple := Value.none, builtins := 0 }, #[]⟩
def ob75_2 (P : Params) : Obj := ⟨(Value.type "tuple"), none, Data.seq #[] 0, #[]⟩
def ob76_2 (P : Params) : Obj := ⟨Value.none, none, Data.fields #[], #[]⟩
def ob77_2 (P : Params) : Obj := ⟨(Value.type "tuple"), none, Data.seq #[(Value.str (Str.ofString "self") 276), (Value.str (Str.ofString "token") 277), (Value.str (Str.ofString "fiter") 278), (Value.str (Str.ofString "ch") 279)] 0, #[]⟩
def ob78_2 (P : Params) : Obj := ⟨(Value.type "tuple"), none, Data.seq #[] 0, #[]⟩
def ob79_2 (P : Params) : Obj := ⟨Value.none, none, Data.func { name := (Str.ofString "get_token"), qualname := (Str.ofString "_netrclex.get_token"), params := fA st6_2, body := .stmts (fB st6_2), scope := fS st6_2, globals := 0, closure := [], defaults := Value.none, kwdefaults := Value.none, doc := Value.none, pyModule := Value.none, annotations := none, code := Value.none, closureTuple := Value.none, builtins := 0 }, #[]⟩
def ob80_2 (P : Params) : Obj := ⟨(Value.type "code"), none, Data.fields #[(Value.str (Str.ofString "get_token") 273), (Value.str (Str.ofString "_netrclex.get_token") 274), (Value.str (Str.ofString "/claim/cut.py") 275), (Value.int (41) 0), (Value.int (1) 0), (Value.int (0) 0), (Value.int (0) 0), (Value.int (3) 0), (Value.ref 75), (Value.bool true), (Value.int (181) 0), (Value.ref 76), Value.none, (Value.ref 77), (Value.ref 78), (Value.ref 79), (Value.int (280) 0), (Value.int (41) 0), (Value.str (Str.ofString "/claim/cut.py") 281)], #[]⟩
def ob81_2 (P : Params) : Obj := ⟨(Value.type "function"), none, Data.func { name := (Str.ofString "get_token"), qualname := (Str.ofString "_netrclex.get_token"), params := fA st6_2, body := .stmts (fB st6_2), scope := fS st6_2, globals := 3, closure := [], defaults := Value.none, kwdefaults := Value.none, doc := Value.none, pyModule := (Value.str (Str.ofString "cpy313.netrc") 243), annotations := none, code := (Value.ref 80), closureTuple := Value.none, builtins := 0 }, #[]⟩
def ob82_2 (P : Params) : Obj := ⟨(Value.type "tuple"), none, Data.seq #[] 0, #[]⟩
def ob83_2 (P : Params) : Obj := ⟨Value.none, none, Data.fields #[], #[]⟩
def ob84_2 (P : Params) : Obj := ⟨(Value.type "tuple"), none, Data.seq #[(Value.str (Str.ofString "self") 286), (Value.str (Str.ofString "token") 287)] 0, #[]⟩
def ob85_2 (P : Params) : Obj := ⟨(Value.type "tuple"), none, Data.seq #[] 0, #[]⟩
def ob86_2 (P : Params) : Obj := ⟨Value.none, none, Data.func { name := (Str.ofString "push_token"), qualname := (Str.ofString "_netrclex.push_token"), params := fA st6_3, body := .stmts (fB st6_3), scope := fS st6_3, globals := 0, closure := [], defaults := Value.none, kwdefaults := Value.none, doc := Value.none, pyModule := Value.none, annotations := none, code := Value.none, closureTuple := Value.none, builtins := 0 }, #[]⟩
def ob87_2 (P : Params) : Obj := ⟨(Value.type "code"), none, Data.fields #[(Value.str (Str.ofString "push_token") 283), (Value.str (Str.ofString "_netrclex.push_token") 284), (Value.str (Str.ofString "/claim/cut.py") 285), (Value.int (68) 0), (Value.int (2) 0), (Value.int (0) 0), (Value.int (0) 0), (Value.int (3) 0), (Value.ref 82), (Value.bool true), (Value.int (181) 0), (Value.ref 83), Value.none, (Value.ref 84), (Value.ref 85), (Value.ref 86), (Value.int (288) 0), (Value.int (68) 0), (Value.str (Str.ofString "/claim/cut.py") 289)], #[]⟩
def ob88_2 (P : Params) : Obj := ⟨(Value.type "function"), none, Data.func { name := (Str.ofString "push_token"), qualname := (Str.ofString "_netrclex.push_token"), params := fA st6_3, body := .stmts (fB st6_3), scope := fS st6_3, globals := 3, closure := [], defaults := Value.none, kwdefaults := Value.none, doc := Value.none, pyModule := (Value.str (Str.ofString "cpy313.netrc") 243), annotations := none, code := (Value.ref 87), closureTuple := Value.none, builtins := 0 }, #[]⟩
def ob89_2 (P : Params) : Obj := ⟨(Value.type "tuple"), none, Data.seq #[(Value.str (Str.ofString "instream") 291), (Value.str (Str.ofString "lineno") 292), (Value.str (Str.ofString "pushback") 293), (Value.str (Str.ofString "whitespace") 294)] 0, #[]⟩
def ob90_2 (P : Params) : Obj := ⟨(Value.type "dict"), none, Data.dict #[⟨PyData.keyHash P (Str.ofString "__module__"), (Value.str (Str.ofString "__module__") 252), (Value.str (Str.ofString "cpy313.netrc") 243)⟩, ⟨PyData.keyHash P (Str.ofString "__firstlineno__"), (Value.str (Str.ofString "__firstlineno__") 256), (Value.int (27) 255)⟩, ⟨PyData.keyHash P (Str.ofString "__init__"), (Value.str (Str.ofString "__init__") 264), (Value.ref 67)⟩, ⟨PyData.keyHash P (Str.ofString "_read_char"), (Value.str (Str.ofString "_read_char") 272), (Value.ref 74)⟩, ⟨PyData.keyHash P (Str.ofString "get_token"), (Value.str (Str.ofString "get_token") 282), (Value.ref 81)⟩, ⟨PyData.keyHash P (Str.ofString "push_token"), (Value.str (Str.ofString "push_token") 290), (Value.ref 88)⟩, ⟨PyData.keyHash P (Str.ofString "__static_attributes__"), (Value.str (Str.ofString "__static_attributes__") 295), (Value.ref 89)⟩, ⟨PyData.keyHash P (Str.ofString "__dict__"), (Value.str (Str.ofString "__dict__") 297), (Value.ref 92)⟩, ⟨PyData.keyHash P (Str.ofString "__weakref__"), (Value.str (Str.ofString "__weakref__") 299), (Value.ref 93)⟩, ⟨PyData.keyHash P (Str.ofString "__doc__"), (Value.str (Str.ofString "__doc__") 300), Value.none⟩] 4, #[]⟩
def ob91_2 (P : Params) : Obj := ⟨(Value.type "type"), none, Data.cls { name := (Str.ofString "_netrclex"), bases := [(Value.type "object")], mro := [(Value.ref 91), (Value.type "object")], ns := 90, qualname := (Str.ofString "_netrclex"), hasDict := true, slotNames := [], subclasses := [], abstract := false, collection := none, hasDel := false }, #[none, none, (some (Value.str (Str.ofString "_netrclex") 245)), (some (Value.str (Str.ofString "_netrclex") 253)), (some (Value.builtin "object.__new__")), (some (Value.bool true))]⟩
def ob92_2 (P : Params) : Obj := ⟨(Value.type "getset_descriptor"), none, Data.fields #[(Value.str (Str.ofString "__dict__") 296), (Value.ref 91), (Value.builtin "function.__dict__"), (Value.builtin "function.__dict__#set")], #[]⟩
def ob93_2 (P : Params) : Obj := ⟨(Value.type "getset_descriptor"), none, Data.fields #[(Value.str (Str.ofString "__weakref__") 298), (Value.ref 91), (Value.builtin "ExceptionGroup.__weakref__"), Value.none], #[]⟩
def ob94_2 (P : Params) : Obj := ⟨(Value.type "super"), none, Data.fields #[(Value.ref 91), (Value.ref 91), (Value.ref 91)], #[]⟩
def ob95_2 (P : Params) : Obj := ⟨(Value.type "builtin_function_or_method"), none, Data.fields #[(Value.builtin "object.__init_subclass__"), (Value.ref 91)], #[]⟩
def tr0 (P : Params) : BT := (BT.node (boot_o_0 P) (BT.node (boot_o_1 P) (BT.node (ob3_2 P) (BT.node (boot_o_7 P) (BT.node (ob15_2 P) (BT.node (ob31_2 P) (BT.node (ob63_2 P) BT.nil BT.nil) (BT.node (ob95_2 P) BT.nil BT.nil)) (BT.node (ob47_2 P) (BT.node (ob79_2 P) BT.nil BT.nil) BT.nil)) (BT.node (ob23_2 P) (BT.node (ob39_2 P) (BT.node (ob71_2 P) BT.nil BT.nil) BT.nil) (BT.node (ob55_2 P) (BT.node (ob87_2 P) BT.nil BT.nil) BT.nil))) (BT.node (ob11_0 P) (BT.node (ob19_2 P) (BT.node (ob35_2 P) (BT.node (ob67_2 P) BT.nil BT.nil) BT.nil) (BT.node (ob51_2 P) (BT.node (ob83_2 P) BT.nil BT.nil) BT.nil)) (BT.node (ob27_2 P) (BT.node (ob43_2 P) (BT.node (ob75_2 P) BT.nil BT.nil) BT.nil) (BT.node (ob59_2 P) (BT.node (ob91_2 P) BT.nil BT.nil) BT.nil)))) (BT.node (boot_o_5 P) (BT.node (boot_o_9 P) (BT.node (ob17_2 P) (BT.node (ob33_2 P) (BT.node (ob65_2 P) BT.nil BT.nil) BT.nil) (BT.node (ob49_2 P) (BT.node (ob81_2 P) BT.nil BT.nil) BT.nil)) (BT.node (ob25_2 P) (BT.node (ob41_2 P) (BT.node (ob73_2 P) BT.nil BT.nil) BT.nil) (BT.node (ob57_2 P) (BT.node (ob89_2 P) BT.nil BT.nil) BT.nil))) (BT.node (ob13_0 P) (BT.node (ob21_2 P) (BT.node (ob37_2 P) (BT.node (ob69_2 P) BT.nil BT.nil) BT.nil) (BT.node (ob53_2 P) (BT.node (ob85_2 P) BT.nil BT.nil) BT.nil)) (BT.node (ob29_2 P) (BT.node (ob45_2 P) (BT.node (ob77_2 P) BT.nil BT.nil) BT.nil) (BT.node (ob61_2 P) (BT.node (ob93_2 P) BT.nil BT.nil) BT.nil))))) (BT.node (ob2_2 P) (BT.node (boot_o_4 P) (BT.node (boot_o_8 P) (BT.node (ob16_2 P) (BT.node (ob32_2 P) (BT.node (ob64_2 P) BT.nil BT.nil) BT.nil) (BT.node (ob48_2 P) (BT.node (ob80_2 P) BT.nil BT.nil) BT.nil)) (BT.node (ob24_2 P) (BT.node (ob40_2 P) (BT.node (ob72_2 P) BT.nil BT.nil) BT.nil) (BT.node (ob56_2 P) (BT.node (ob88_2 P) BT.nil BT.nil) BT.nil))) (BT.node (ob12_2 P) (BT.node (ob20_2 P) (BT.node (ob36_2 P) (BT.node (ob68_2 P) BT.nil BT.nil) BT.nil) (BT.node (ob52_2 P) (BT.node (ob84_2 P) BT.nil BT.nil) BT.nil)) (BT.node (ob28_2 P) (BT.node (ob44_2 P) (BT.node (ob76_2 P) BT.nil BT.nil) BT.nil) (BT.node (ob60_2 P) (BT.node (ob92_2 P) BT.nil BT.nil) BT.nil)))) (BT.node (boot_o_6 P) (BT.node (boot_o_10 P) (BT.node (ob18_2 P) (BT.node (ob34_2 P) (BT.node (ob66_2 P) BT.nil BT.nil) BT.nil) (BT.node (ob50_2 P) (BT.node (ob82_2 P) BT.nil BT.nil) BT.nil)) (BT.node (ob26_2 P) (BT.node (ob42_2 P) (BT.node (ob74_2 P) BT.nil BT.nil) BT.nil) (BT.node (ob58_2 P) (BT.node (ob90_2 P) BT.nil BT.nil) BT.nil))) (BT.node (ob14_0 P) (BT.node (ob22_2 P) (BT.node (ob38_2 P) (BT.node (ob70_2 P) BT.nil BT.nil) BT.nil) (BT.node (ob54_2 P) (BT.node (ob86_2 P) BT.nil BT.nil) BT.nil)) (BT.node (ob30_2 P) (BT.node (ob46_2 P) (BT.node (ob78_2 P) BT.nil BT.nil) BT.nil) (BT.node (ob62_2 P) (BT.node (ob94_2 P) BT.nil BT.nil) BT.nil))))))
def S0 (w : World) (os : OsState) : SharedT := SharedT.mk (tr0 w.params) 96 life0 (Array.mk []) (Drawn.mk 0 0 0 0) 305 os
def l_0 (w : World) (os : OsState) : Option (Flow × SharedT × Code × Pos) := segRunT treeTable pw w 11 ann 1 822 (Sb w os) (piecesOf sts0 env cE (Pos.mk 0 0 0 0) topF)
def r_0 (w : World) (os : OsState) : Option (Flow × SharedT × Code × Pos) := some (.next, S0 w os, cE, (Pos.mk 70 0 70 8))
def sts1 : List Stmt := [st8]
def ob3_3 (P : Params) : Obj := ⟨(Value.type "dict"), none, Data.dict #[⟨PyData.keyHash P (Str.ofString "__name__"), (Value.str (Str.ofString "__name__") 165), (Value.str (Str.ofString "cpy313.stringprep") 303)⟩, ⟨PyData.keyHash P (Str.ofString "__doc__"), (Value.str (Str.ofString "__doc__") 166), Value.none⟩, ⟨PyData.keyHash P (Str.ofString "__package__"), (Value.str (Str.ofString "__package__") 167), Value.none⟩, ⟨PyData.keyHash P (Str.ofString "__loader__"), (Value.str (Str.ofString "__loader__") 168), (Value.builtin "__main__.__loader__#opaque")⟩, ⟨PyData.keyHash P (Str.ofString "__spec__"), (Value.str (Str.ofString "__spec__") 169), Value.none⟩, ⟨PyData.keyHash P (Str.ofString "__annotations__"), (Value.str (Str.ofString "__annotations__") 170), (Value.ref 6)⟩, ⟨PyData.keyHash P (Str.ofString "__builtins__"), (Value.str (Str.ofString "__builtins__") 171), (Value.ref 4)⟩, ⟨PyData.keyHash P (Str.ofString "__file__"), (Value.str (Str.ofString "__file__") 173), (Value.str (Str.ofString "/claim/cut.py") 172)⟩, ⟨PyData.keyHash P (Str.ofString "__cached__"), (Value.str (Str.ofString "__cached__") 174), Value.none⟩, ⟨PyData.keyHash P (Str.ofString "_wall"), (Value.str (Str.ofString "_wall") 193), (Value.ref 21)⟩, ⟨PyData.keyHash P (Str.ofString "Error"), (Value.str (Str.ofString "Error") 215), (Value.ref 31)⟩, ⟨PyData.keyHash P (Str.ofString "error_reply"), (Value.str (Str.ofString "error_reply") 231), (Value.ref 44)⟩, ⟨PyData.keyHash P (Str.ofString "parse257"), (Value.str (Str.ofString "parse257") 242), (Value.ref 53)⟩, ⟨PyData.keyHash P (Str.ofString "_netrclex"), (Value.str (Str.ofString "_netrclex") 302), (Value.ref 91)⟩, ⟨PyData.keyHash P (Str.ofString "b1_set"), (Value.str (Str.ofString "b1_set") 364), (Value.ref 103)⟩] 15, #[]⟩
def ob96_3 (P : Params) : Obj := ⟨(Value.type "list"), none, Data.seq #[(Value.int (173) 305), (Value.int (847) 306), (Value.int (6150) 307), (Value.int (6155) 308), (Value.int (6156) 309), (Value.int (6157) 310), (Value.int (8203) 311), (Value.int (8204) 312), (Value.int (8205) 313), (Value.int (8288) 314), (Value.int (65279) 315)] 0, #[]⟩
def ob97_3 (P : Params) : Obj := ⟨(Value.type "range"), none, Data.fields #[(Value.int (65024) 316), (Value.int (65040) 317), (Value.int (1) 318)], #[]⟩
def ob98_3 (P : Params) : Obj := ⟨(Value.type "list"), none, Data.seq #[(Value.int (65024) 321), (Value.int (65025) 322), (Value.int (65026) 323), (Value.int (65027) 324), (Value.int (65028) 325), (Value.int (65029) 326), (Value.int (65030) 327), (Value.int (65031) 328), (Value.int (65032) 329), (Value.int (65033) 330), (Value.int (65034) 331), (Value.int (65035) 332), (Value.int (65036) 333), (Value.int (65037) 334), (Value.int (65038) 335), (Value.int (65039) 336)] 18, #[]⟩
def ob99_3 (P : Params) : Obj := ⟨(Value.type "range_iterator"), none, Data.fields #[(Value.int (65040) 0), (Value.int (0) 0), (Value.int (1) 0)], #[]⟩
def ob100_3 (P : Params) : Obj := ⟨(Value.type "tuple"), none, Data.seq #[] 0, #[]⟩
def ob101_3 (P : Params) : Obj := ⟨(Value.type "StopIteration"), none, Data.fields #[(Value.ref 100), Value.none, Value.none, Value.none, (Value.bool false), Value.none], #[]⟩
def ob102_3 (P : Params) : Obj := ⟨(Value.type "list"), none, Data.seq #[(Value.int (173) 305), (Value.int (847) 306), (Value.int (6150) 307), (Value.int (6155) 308), (Value.int (6156) 309), (Value.int (6157) 310), (Value.int (8203) 311), (Value.int (8204) 312), (Value.int (8205) 313), (Value.int (8288) 314), (Value.int (65279) 315), (Value.int (65024) 321), (Value.int (65025) 322), (Value.int (65026) 323), (Value.int (65027) 324), (Value.int (65028) 325), (Value.int (65029) 326), (Value.int (65030) 327), (Value.int (65031) 328), (Value.int (65032) 329), (Value.int (65033) 330), (Value.int (65034) 331), (Value.int (65035) 332), (Value.int (65036) 333), (Value.int (65037) 334), (Value.int (65038) 335), (Value.int (65039) 336)] 0, #[]⟩
def ob103_3 (P : Params) : Obj := ⟨(Value.type "set"), none, Data.set #[(65024, (Value.int (65024) 321)), (65025, (Value.int (65025) 322)), (65026, (Value.int (65026) 323)), (65027, (Value.int (65027) 324)), (65028, (Value.int (65028) 325)), (65029, (Value.int (65029) 326)), (6150, (Value.int (6150) 307)), (65030, (Value.int (65030) 327)), (65031, (Value.int (65031) 328)), (65032, (Value.int (65032) 329)), (65033, (Value.int (65033) 330)), (6155, (Value.int (6155) 308)), (6156, (Value.int (6156) 309)), (6157, (Value.int (6157) 310)), (8203, (Value.int (8203) 311)), (8204, (Value.int (8204) 312)), (8205, (Value.int (8205) 313)), (65034, (Value.int (65034) 331)), (65035, (Value.int (65035) 332)), (65036, (Value.int (65036) 333)), (65037, (Value.int (65037) 334)), (65038, (Value.int (65038) 335)), (65039, (Value.int (65039) 336)), (173, (Value.int (173) 305)), (847, (Value.int (847) 306)), (8288, (Value.int (8288) 314)), (65279, (Value.int (65279) 315))] 29 { mask := 127, place := #[0, 1, 2, 3, 4, 5, 6, 7, 8, 9, 10, 11, 12, 13, 14, 15, 16, 17, 18, 19, 20, 21, 22, 45, 79, 96, 127], dummies := #[], finger := 0, led := !P.followText "set-order", moves := 2, plain := true }, #[]⟩
def ob104_3 (P : Params) : Obj := ⟨(Value.type "list_iterator"), none, Data.fields #[Value.none, (Value.int (27) 0)], #[]⟩
def ob105_3 (P : Params) : Obj := ⟨(Value.type "tuple"), none, Data.seq #[] 0, #[]⟩
def ob106_3 (P : Params) : Obj := ⟨(Value.type "StopIteration"), none, Data.fields #[(Value.ref 105), Value.none, Value.none, Value.none, (Value.bool false), Value.none], #[]⟩
def tr1 (P : Params) : BT := (BT.node (boot_o_0 P) (BT.node (boot_o_1 P) (BT.node (ob3_3 P) (BT.node (boot_o_7 P) (BT.node (ob15_2 P) (BT.node (ob31_2 P) (BT.node (ob63_2 P) BT.nil BT.nil) (BT.node (ob95_2 P) BT.nil BT.nil)) (BT.node (ob47_2 P) (BT.node (ob79_2 P) BT.nil BT.nil) BT.nil)) (BT.node (ob23_2 P) (BT.node (ob39_2 P) (BT.node (ob71_2 P) BT.nil BT.nil) (BT.node (ob103_3 P) BT.nil BT.nil)) (BT.node (ob55_2 P) (BT.node (ob87_2 P) BT.nil BT.nil) BT.nil))) (BT.node (ob11_0 P) (BT.node (ob19_2 P) (BT.node (ob35_2 P) (BT.node (ob67_2 P) BT.nil BT.nil) (BT.node (ob99_3 P) BT.nil BT.nil)) (BT.node (ob51_2 P) (BT.node (ob83_2 P) BT.nil BT.nil) BT.nil)) (BT.node (ob27_2 P) (BT.node (ob43_2 P) (BT.node (ob75_2 P) BT.nil BT.nil) BT.nil) (BT.node (ob59_2 P) (BT.node (ob91_2 P) BT.nil BT.nil) BT.nil)))) (BT.node (boot_o_5 P) (BT.node (boot_o_9 P) (BT.node (ob17_2 P) (BT.node (ob33_2 P) (BT.node (ob65_2 P) BT.nil BT.nil) (BT.node (ob97_3 P) BT.nil BT.nil)) (BT.node (ob49_2 P) (BT.node (ob81_2 P) BT.nil BT.nil) BT.nil)) (BT.node (ob25_2 P) (BT.node (ob41_2 P) (BT.node (ob73_2 P) BT.nil BT.nil) (BT.node (ob105_3 P) BT.nil BT.nil)) (BT.node (ob57_2 P) (BT.node (ob89_2 P) BT.nil BT.nil) BT.nil))) (BT.node (ob13_0 P) (BT.node (ob21_2 P) (BT.node (ob37_2 P) (BT.node (ob69_2 P) BT.nil BT.nil) (BT.node (ob101_3 P) BT.nil BT.nil)) (BT.node (ob53_2 P) (BT.node (ob85_2 P) BT.nil BT.nil) BT.nil)) (BT.node (ob29_2 P) (BT.node (ob45_2 P) (BT.node (ob77_2 P) BT.nil BT.nil) BT.nil) (BT.node (ob61_2 P) (BT.node (ob93_2 P) BT.nil BT.nil) BT.nil))))) (BT.node (ob2_2 P) (BT.node (boot_o_4 P) (BT.node (boot_o_8 P) (BT.node (ob16_2 P) (BT.node (ob32_2 P) (BT.node (ob64_2 P) BT.nil BT.nil) (BT.node (ob96_3 P) BT.nil BT.nil)) (BT.node (ob48_2 P) (BT.node (ob80_2 P) BT.nil BT.nil) BT.nil)) (BT.node (ob24_2 P) (BT.node (ob40_2 P) (BT.node (ob72_2 P) BT.nil BT.nil) (BT.node (ob104_3 P) BT.nil BT.nil)) (BT.node (ob56_2 P) (BT.node (ob88_2 P) BT.nil BT.nil) BT.nil))) (BT.node (ob12_2 P) (BT.node (ob20_2 P) (BT.node (ob36_2 P) (BT.node (ob68_2 P) BT.nil BT.nil) (BT.node (ob100_3 P) BT.nil BT.nil)) (BT.node (ob52_2 P) (BT.node (ob84_2 P) BT.nil BT.nil) BT.nil)) (BT.node (ob28_2 P) (BT.node (ob44_2 P) (BT.node (ob76_2 P) BT.nil BT.nil) BT.nil) (BT.node (ob60_2 P) (BT.node (ob92_2 P) BT.nil BT.nil) BT.nil)))) (BT.node (boot_o_6 P) (BT.node (boot_o_10 P) (BT.node (ob18_2 P) (BT.node (ob34_2 P) (BT.node (ob66_2 P) BT.nil BT.nil) (BT.node (ob98_3 P) BT.nil BT.nil)) (BT.node (ob50_2 P) (BT.node (ob82_2 P) BT.nil BT.nil) BT.nil)) (BT.node (ob26_2 P) (BT.node (ob42_2 P) (BT.node (ob74_2 P) BT.nil BT.nil) (BT.node (ob106_3 P) BT.nil BT.nil)) (BT.node (ob58_2 P) (BT.node (ob90_2 P) BT.nil BT.nil) BT.nil))) (BT.node (ob14_0 P) (BT.node (ob22_2 P) (BT.node (ob38_2 P) (BT.node (ob70_2 P) BT.nil BT.nil) (BT.node (ob102_3 P) BT.nil BT.nil)) (BT.node (ob54_2 P) (BT.node (ob86_2 P) BT.nil BT.nil) BT.nil)) (BT.node (ob30_2 P) (BT.node (ob46_2 P) (BT.node (ob78_2 P) BT.nil BT.nil) BT.nil) (BT.node (ob62_2 P) (BT.node (ob94_2 P) BT.nil BT.nil) BT.nil))))))
def S1 (w : World) (os : OsState) : SharedT := SharedT.mk (tr1 w.params) 107 life0 (Array.mk []) (Drawn.mk 0 0 0 0) 365 os
def l_1 (w : World) (os : OsState) : Option (Flow × SharedT × Code × Pos) := segRunT treeTable pw w 11 ann 1 999 (S0 w os) (piecesOf sts1 env cE (Pos.mk 70 0 70 8) topF)
def r_1 (w : World) (os : OsState) : Option (Flow × SharedT × Code × Pos) := some (.next, S1 w os, cE, (Pos.mk 71 0 71 6))
def sts2 : List Stmt := [st9]
def ob3_4 (P : Params) : Obj := ⟨(Value.type "dict"), none, Data.dict #[⟨PyData.keyHash P (Str.ofString "__name__"), (Value.str (Str.ofString "__name__") 165), (Value.str (Str.ofString "cpy313.stringprep") 303)⟩, ⟨PyData.keyHash P (Str.ofString "__doc__"), (Value.str (Str.ofString "__doc__") 166), Value.none⟩, ⟨PyData.keyHash P (Str.ofString "__package__"), (Value.str (Str.ofString "__package__") 167), Value.none⟩, ⟨PyData.keyHash P (Str.ofString "__loader__"), (Value.str (Str.ofString "__loader__") 168), (Value.builtin "__main__.__loader__#opaque")⟩, ⟨PyData.keyHash P (Str.ofString "__spec__"), (Value.str (Str.ofString "__spec__") 169), Value.none⟩, ⟨PyData.keyHash P (Str.ofString "__annotations__"), (Value.str (Str.ofString "__annotations__") 170), (Value.ref 6)⟩, ⟨PyData.keyHash P (Str.ofString "__builtins__"), (Value.str (Str.ofString "__builtins__") 171), (Value.ref 4)⟩, ⟨PyData.keyHash P (Str.ofString "__file__"), (Value.str (Str.ofString "__file__") 173), (Value.str (Str.ofString "/claim/cut.py") 172)⟩, ⟨PyData.keyHash P (Str.ofString "__cached__"), (Value.str (Str.ofString "__cached__") 174), Value.none⟩, ⟨PyData.keyHash P (Str.ofString "_wall"), (Value.str (Str.ofString "_wall") 193), (Value.ref 21)⟩, ⟨PyData.keyHash P (Str.ofString "Error"), (Value.str (Str.ofString "Error") 215), (Value.ref 31)⟩, ⟨PyData.keyHash P (Str.ofString "error_reply"), (Value.str (Str.ofString "error_reply") 231), (Value.ref 44)⟩, ⟨PyData.keyHash P (Str.ofString "parse257"), (Value.str (Str.ofString "parse257") 242), (Value.ref 53)⟩, ⟨PyData.keyHash P (Str.ofString "_netrclex"), (Value.str (Str.ofString "_netrclex") 302), (Value.ref 91)⟩, ⟨PyData.keyHash P (Str.ofString "b1_set"), (Value.str (Str.ofString "b1_set") 364), (Value.ref 103)⟩, ⟨PyData.keyHash P (Str.ofString "in_table_b1"), (Value.str (Str.ofString "in_table_b1") 371), (Value.ref 113)⟩] 16, #[]⟩
def ob12_4 (P : Params) : Obj := ⟨Value.none, none, Data.fields #[(Value.int (1) 0), (Value.int (0) 0), (Value.ref 20), (Value.int (5) 0), (Value.int (0) 0), (Value.ref 27), (Value.int (7) 0), (Value.int (0) 0), (Value.ref 40), (Value.int (9) 0), (Value.int (0) 0), (Value.ref 52), (Value.int (27) 0), (Value.int (0) 0), (Value.ref 59), (Value.int (72) 0), (Value.int (0) 0), (Value.ref 112)], #[]⟩
def ob107_4 (P : Params) : Obj := ⟨(Value.type "tuple"), none, Data.seq #[] 0, #[]⟩
def ob108_4 (P : Params) : Obj := ⟨Value.none, none, Data.fields #[], #[]⟩
def ob109_4 (P : Params) : Obj := ⟨(Value.type "tuple"), none, Data.seq #[(Value.str (Str.ofString "code") 368)] 0, #[]⟩
def ob110_4 (P : Params) : Obj := ⟨(Value.type "tuple"), none, Data.seq #[] 0, #[]⟩
def ob111_4 (P : Params) : Obj := ⟨Value.none, none, Data.func { name := (Str.ofString "in_table_b1"), qualname := (Str.ofString "in_table_b1"), params := fA st9, body := .stmts (fB st9), scope := fS st9, globals := 0, closure := [], defaults := Value.none, kwdefaults := Value.none, doc := Value.none, pyModule := Value.none, annotations := none, code := Value.none, closureTuple := Value.none, builtins := 0 }, #[]⟩
def ob112_4 (P : Params) : Obj := ⟨(Value.type "code"), none, Data.fields #[(Value.str (Str.ofString "in_table_b1") 365), (Value.str (Str.ofString "in_table_b1") 366), (Value.str (Str.ofString "/claim/cut.py") 367), (Value.int (72) 0), (Value.int (1) 0), (Value.int (0) 0), (Value.int (0) 0), (Value.int (3) 0), (Value.ref 107), (Value.bool true), (Value.int (181) 0), (Value.ref 108), Value.none, (Value.ref 109), (Value.ref 110), (Value.ref 111), (Value.int (369) 0), (Value.int (72) 0), (Value.str (Str.ofString "/claim/cut.py") 370)], #[]⟩
def ob113_4 (P : Params) : Obj := ⟨(Value.type "function"), none, Data.func { name := (Str.ofString "in_table_b1"), qualname := (Str.ofString "in_table_b1"), params := fA st9, body := .stmts (fB st9), scope := fS st9, globals := 3, closure := [], defaults := Value.none, kwdefaults := Value.none, doc := Value.none, pyModule := (Value.str (Str.ofString "cpy313.stringprep") 303), annotations := none, code := (Value.ref 112), closureTuple := Value.none, builtins := 0 }, #[]⟩
def tr2 (P : Params) : BT := (BT.node (boot_o_0 P) (BT.node (boot_o_1 P) (BT.node (ob3_4 P) (BT.node (boot_o_7 P) (BT.node (ob15_2 P) (BT.node (ob31_2 P) (BT.node (ob63_2 P) BT.nil BT.nil) (BT.node (ob95_2 P) BT.nil BT.nil)) (BT.node (ob47_2 P) (BT.node (ob79_2 P) BT.nil BT.nil) (BT.node (ob111_4 P) BT.nil BT.nil))) (BT.node (ob23_2 P) (BT.node (ob39_2 P) (BT.node (ob71_2 P) BT.nil BT.nil) (BT.node (ob103_3 P) BT.nil BT.nil)) (BT.node (ob55_2 P) (BT.node (ob87_2 P) BT.nil BT.nil) BT.nil))) (BT.node (ob11_0 P) (BT.node (ob19_2 P) (BT.node (ob35_2 P) (BT.node (ob67_2 P) BT.nil BT.nil) (BT.node (ob99_3 P) BT.nil BT.nil)) (BT.node (ob51_2 P) (BT.node (ob83_2 P) BT.nil BT.nil) BT.nil)) (BT.node (ob27_2 P) (BT.node (ob43_2 P) (BT.node (ob75_2 P) BT.nil BT.nil) (BT.node (ob107_4 P) BT.nil BT.nil)) (BT.node (ob59_2 P) (BT.node (ob91_2 P) BT.nil BT.nil) BT.nil)))) (BT.node (boot_o_5 P) (BT.node (boot_o_9 P) (BT.node (ob17_2 P) (BT.node (ob33_2 P) (BT.node (ob65_2 P) BT.nil BT.nil) (BT.node (ob97_3 P) BT.nil BT.nil)) (BT.node (ob49_2 P) (BT.node (ob81_2 P) BT.nil BT.nil) (BT.node (ob113_4 P) BT.nil BT.nil))) (BT.node (ob25_2 P) (BT.node (ob41_2 P) (BT.node (ob73_2 P) BT.nil BT.nil) (BT.node (ob105_3 P) BT.nil BT.nil)) (BT.node (ob57_2 P) (BT.node (ob89_2 P) BT.nil BT.nil) BT.nil))) (BT.node (ob13_0 P) (BT.node (ob21_2 P) (BT.node (ob37_2 P) (BT.node (ob69_2 P) BT.nil BT.nil) (BT.node (ob101_3 P) BT.nil BT.nil)) (BT.node (ob53_2 P) (BT.node (ob85_2 P) BT.nil BT.nil) BT.nil)) (BT.node (ob29_2 P) (BT.node (ob45_2 P) (BT.node (ob77_2 P) BT.nil BT.nil) (BT.node (ob109_4 P) BT.nil BT.nil)) (BT.node (ob61_2 P) (BT.node (ob93_2 P) BT.nil BT.nil) BT.nil))))) (BT.node (ob2_2 P) (BT.node (boot_o_4 P) (BT.node (boot_o_8 P) (BT.node (ob16_2 P) (BT.node (ob32_2 P) (BT.node (ob64_2 P) BT.nil BT.nil) (BT.node (ob96_3 P) BT.nil BT.nil)) (BT.node (ob48_2 P) (BT.node (ob80_2 P) BT.nil BT.nil) (BT.node (ob112_4 P) BT.nil BT.nil))) (BT.node (ob24_2 P) (BT.node (ob40_2 P) (BT.node (ob72_2 P) BT.nil BT.nil) (BT.node (ob104_3 P) BT.nil BT.nil)) (BT.node (ob56_2 P) (BT.node (ob88_2 P) BT.nil BT.nil) BT.nil))) (BT.node (ob12_4 P) (BT.node (ob20_2 P) (BT.node (ob36_2 P) (BT.node (ob68_2 P) BT.nil BT.nil) (BT.node (ob100_3 P) BT.nil BT.nil)) (BT.node (ob52_2 P) (BT.node (ob84_2 P) BT.nil BT.nil) BT.nil)) (BT.node (ob28_2 P) (BT.node (ob44_2 P) (BT.node (ob76_2 P) BT.nil BT.nil) (BT.node (ob108_4 P) BT.nil BT.nil)) (BT.node (ob60_2 P) (BT.node (ob92_2 P) BT.nil BT.nil) BT.nil)))) (BT.node (boot_o_6 P) (BT.node (boot_o_10 P) (BT.node (ob18_2 P) (BT.node (ob34_2 P) (BT.node (ob66_2 P) BT.nil BT.nil) (BT.node (ob98_3 P) BT.nil BT.nil)) (BT.node (ob50_2 P) (BT.node (ob82_2 P) BT.nil BT.nil) BT.nil)) (BT.node (ob26_2 P) (BT.node (ob42_2 P) (BT.node (ob74_2 P) BT.nil BT.nil) (BT.node (ob106_3 P) BT.nil BT.nil)) (BT.node (ob58_2 P) (BT.node (ob90_2 P) BT.nil BT.nil) BT.nil))) (BT.node (ob14_0 P) (BT.node (ob22_2 P) (BT.node (ob38_2 P) (BT.node (ob70_2 P) BT.nil BT.nil) (BT.node (ob102_3 P) BT.nil BT.nil)) (BT.node (ob54_2 P) (BT.node (ob86_2 P) BT.nil BT.nil) BT.nil)) (BT.node (ob30_2 P) (BT.node (ob46_2 P) (BT.node (ob78_2 P) BT.nil BT.nil) (BT.node (ob110_4 P) BT.nil BT.nil)) (BT.node (ob62_2 P) (BT.node (ob94_2 P) BT.nil BT.nil) BT.nil))))))
def S2 (w : World) (os : OsState) : SharedT := SharedT.mk (tr2 w.params) 114 life0 (Array.mk []) (Drawn.mk 0 0 0 0) 372 os
def l_2 (w : World) (os : OsState) : Option (Flow × SharedT × Code × Pos) := segRunT treeTable pw w 11 ann 1 30 (S1 w os) (piecesOf sts2 env cE (Pos.mk 71 0 71 6) topF)
def r_2 (w : World) (os : OsState) : Option (Flow × SharedT × Code × Pos) := some (.next, S2 w os, cE, (Pos.mk 72 0 73 30))
def ob3_5 (P : Params) : Obj := ⟨(Value.type "dict"), none, Data.dict #[⟨PyData.keyHash P (Str.ofString "__name__"), (Value.str (Str.ofString "__name__") 165), (Value.str (Str.ofString "cpy313.stringprep") 303)⟩, ⟨PyData.keyHash P (Str.ofString "__doc__"), (Value.str (Str.ofString "__doc__") 166), Value.none⟩, ⟨PyData.keyHash P (Str.ofString "__package__"), (Value.str (Str.ofString "__package__") 167), Value.none⟩, ⟨PyData.keyHash P (Str.ofString "__loader__"), (Value.str (Str.ofString "__loader__") 168), (Value.builtin "__main__.__loader__#opaque")⟩, ⟨PyData.keyHash P (Str.ofString "__spec__"), (Value.str (Str.ofString "__spec__") 169), Value.none⟩, ⟨PyData.keyHash P (Str.ofString "__annotations__"), (Value.str (Str.ofString "__annotations__") 170), (Value.ref 6)⟩, ⟨PyData.keyHash P (Str.ofString "__builtins__"), (Value.str (Str.ofString "__builtins__") 171), (Value.ref 4)⟩, ⟨PyData.keyHash P (Str.ofString "__file__"), (Value.str (Str.ofString "__file__") 173), (Value.str (Str.ofString "/claim/cut.py") 172)⟩, ⟨PyData.keyHash P (Str.ofString "__cached__"), (Value.str (Str.ofString "__cached__") 174), Value.none⟩, ⟨PyData.keyHash P (Str.ofString "_wall"), (Value.str (Str.ofString "_wall") 193), (Value.ref 21)⟩, ⟨PyData.keyHash P (Str.ofString "Error"), (Value.str (Str.ofString "Error") 215), (Value.ref 31)⟩, ⟨PyData.keyHash P (Str.ofString "error_reply"), (Value.str (Str.ofString "error_reply") 231), (Value.ref 44)⟩, ⟨PyData.keyHash P (Str.ofString "parse257"), (Value.str (Str.ofString "parse257") 242), (Value.ref 53)⟩, ⟨PyData.keyHash P (Str.ofString "_netrclex"), (Value.str (Str.ofString "_netrclex") 302), (Value.ref 91)⟩, ⟨PyData.keyHash P (Str.ofString "b1_set"), (Value.str (Str.ofString "b1_set") 364), (Value.ref 103)⟩, ⟨PyData.keyHash P (Str.ofString "in_table_b1"), (Value.str (Str.ofString "in_table_b1") 371), (Value.ref 113)⟩, ⟨PyData.keyHash P (Str.ofString "b3_exceptions"), (Value.str (Str.ofString "b3_exceptions") 2322), (Value.ref 114)⟩] 17, #[]⟩
def ob114_5 (P : Params) : Obj := dO tabE 650
def ob115_5 (P : Params) : Obj := dO (rowsAt (tabTok + 51) (tabChunk 1)) 17
def ob116_5 (P : Params) : Obj := dO (rowsAt (tabTok + 102) (tabChunk 2)) 17
def ob117_5 (P : Params) : Obj := dO (rowsAt (tabTok + 153) (tabChunk 3)) 17
def ob118_5 (P : Params) : Obj := dO (rowsAt (tabTok + 204) (tabChunk 4)) 17
def ob119_5 (P : Params) : Obj := dO (rowsAt (tabTok + 255) (tabChunk 5)) 17
def ob120_5 (P : Params) : Obj := dO (rowsAt (tabTok + 306) (tabChunk 6)) 17
def ob121_5 (P : Params) : Obj := dO (rowsAt (tabTok + 357) (tabChunk 7)) 17
def ob122_5 (P : Params) : Obj := dO (rowsAt (tabTok + 408) (tabChunk 8)) 17
def ob123_5 (P : Params) : Obj := dO (rowsAt (tabTok + 459) (tabChunk 9)) 17
def ob124_5 (P : Params) : Obj := dO (rowsAt (tabTok + 510) (tabChunk 10)) 17
def ob125_5 (P : Params) : Obj := dO (rowsAt (tabTok + 561) (tabChunk 11)) 17
def ob126_5 (P : Params) : Obj := dO (rowsAt (tabTok + 612) (tabChunk 12)) 17
def ob127_5 (P : Params) : Obj := dO (rowsAt (tabTok + 663) (tabChunk 13)) 17
def ob128_5 (P : Params) : Obj := dO (rowsAt (tabTok + 714) (tabChunk 14)) 17
def ob129_5 (P : Params) : Obj := dO (rowsAt (tabTok + 765) (tabChunk 15)) 17
def ob130_5 (P : Params) : Obj := dO (rowsAt (tabTok + 816) (tabChunk 16)) 17
def ob131_5 (P : Params) : Obj := dO (rowsAt (tabTok + 867) (tabChunk 17)) 17
def ob132_5 (P : Params) : Obj := dO (rowsAt (tabTok + 918) (tabChunk 18)) 17
def ob133_5 (P : Params) : Obj := dO (rowsAt (tabTok + 969) (tabChunk 19)) 17
def ob134_5 (P : Params) : Obj := dO (rowsAt (tabTok + 1020) (tabChunk 20)) 17
def ob135_5 (P : Params) : Obj := dO (rowsAt (tabTok + 1071) (tabChunk 21)) 17
def ob136_5 (P : Params) : Obj := dO (rowsAt (tabTok + 1122) (tabChunk 22)) 17
def ob137_5 (P : Params) : Obj := dO (rowsAt (tabTok + 1173) (tabChunk 23)) 17
def ob138_5 (P : Params) : Obj := dO (rowsAt (tabTok + 1224) (tabChunk 24)) 17
def ob139_5 (P : Params) : Obj := dO (rowsAt (tabTok + 1275) (tabChunk 25)) 17
def ob140_5 (P : Params) : Obj := dO (rowsAt (tabTok + 1326) (tabChunk 26)) 17
def ob141_5 (P : Params) : Obj := dO (rowsAt (tabTok + 1377) (tabChunk 27)) 17
def ob142_5 (P : Params) : Obj := dO (rowsAt (tabTok + 1428) (tabChunk 28)) 17
def ob143_5 (P : Params) : Obj := dO (rowsAt (tabTok + 1479) (tabChunk 29)) 17
def ob144_5 (P : Params) : Obj := dO (rowsAt (tabTok + 1530) (tabChunk 30)) 17
def ob145_5 (P : Params) : Obj := dO (rowsAt (tabTok + 1581) (tabChunk 31)) 17
def ob146_5 (P : Params) : Obj := dO (rowsAt (tabTok + 1632) (tabChunk 32)) 17
def ob147_5 (P : Params) : Obj := dO (rowsAt (tabTok + 1683) (tabChunk 33)) 17
def ob148_5 (P : Params) : Obj := dO (rowsAt (tabTok + 1734) (tabChunk 34)) 17
def ob149_5 (P : Params) : Obj := dO (rowsAt (tabTok + 1785) (tabChunk 35)) 17
def ob150_5 (P : Params) : Obj := dO (rowsAt (tabTok + 1836) (tabChunk 36)) 17
def ob151_5 (P : Params) : Obj := dO (rowsAt (tabTok + 1887) (tabChunk 37)) 17
def ob152_5 (P : Params) : Obj := dO (rowsS (tabTok + 1938) tabLast) 4
def trd (P : Params) : BT := (BT.node (boot_o_0 P) (BT.node (boot_o_1 P) (BT.node (ob3_4 P) (BT.node (boot_o_7 P) (BT.node (ob15_2 P) (BT.node (ob31_2 P) (BT.node (ob63_2 P) (BT.node (ob127_5 P) BT.nil BT.nil) BT.nil) (BT.node (ob95_2 P) BT.nil BT.nil)) (BT.node (ob47_2 P) (BT.node (ob79_2 P) (BT.node (ob143_5 P) BT.nil BT.nil) BT.nil) (BT.node (ob111_4 P) BT.nil BT.nil))) (BT.node (ob23_2 P) (BT.node (ob39_2 P) (BT.node (ob71_2 P) (BT.node (ob135_5 P) BT.nil BT.nil) BT.nil) (BT.node (ob103_3 P) BT.nil BT.nil)) (BT.node (ob55_2 P) (BT.node (ob87_2 P) (BT.node (ob151_5 P) BT.nil BT.nil) BT.nil) (BT.node (ob119_5 P) BT.nil BT.nil)))) (BT.node (ob11_0 P) (BT.node (ob19_2 P) (BT.node (ob35_2 P) (BT.node (ob67_2 P) (BT.node (ob131_5 P) BT.nil BT.nil) BT.nil) (BT.node (ob99_3 P) BT.nil BT.nil)) (BT.node (ob51_2 P) (BT.node (ob83_2 P) (BT.node (ob147_5 P) BT.nil BT.nil) BT.nil) (BT.node (ob115_5 P) BT.nil BT.nil))) (BT.node (ob27_2 P) (BT.node (ob43_2 P) (BT.node (ob75_2 P) (BT.node (ob139_5 P) BT.nil BT.nil) BT.nil) (BT.node (ob107_4 P) BT.nil BT.nil)) (BT.node (ob59_2 P) (BT.node (ob91_2 P) BT.nil BT.nil) (BT.node (ob123_5 P) BT.nil BT.nil))))) (BT.node (boot_o_5 P) (BT.node (boot_o_9 P) (BT.node (ob17_2 P) (BT.node (ob33_2 P) (BT.node (ob65_2 P) (BT.node (ob129_5 P) BT.nil BT.nil) BT.nil) (BT.node (ob97_3 P) BT.nil BT.nil)) (BT.node (ob49_2 P) (BT.node (ob81_2 P) (BT.node (ob145_5 P) BT.nil BT.nil) BT.nil) (BT.node (ob113_4 P) BT.nil BT.nil))) (BT.node (ob25_2 P) (BT.node (ob41_2 P) (BT.node (ob73_2 P) (BT.node (ob137_5 P) BT.nil BT.nil) BT.nil) (BT.node (ob105_3 P) BT.nil BT.nil)) (BT.node (ob57_2 P) (BT.node (ob89_2 P) BT.nil BT.nil) (BT.node (ob121_5 P) BT.nil BT.nil)))) (BT.node (ob13_0 P) (BT.node (ob21_2 P) (BT.node (ob37_2 P) (BT.node (ob69_2 P) (BT.node (ob133_5 P) BT.nil BT.nil) BT.nil) (BT.node (ob101_3 P) BT.nil BT.nil)) (BT.node (ob53_2 P) (BT.node (ob85_2 P) (BT.node (ob149_5 P) BT.nil BT.nil) BT.nil) (BT.node (ob117_5 P) BT.nil BT.nil))) (BT.node (ob29_2 P) (BT.node (ob45_2 P) (BT.node (ob77_2 P) (BT.node (ob141_5 P) BT.nil BT.nil) BT.nil) (BT.node (ob109_4 P) BT.nil BT.nil)) (BT.node (ob61_2 P) (BT.node (ob93_2 P) BT.nil BT.nil) (BT.node (ob125_5 P) BT.nil BT.nil)))))) (BT.node (ob2_2 P) (BT.node (boot_o_4 P) (BT.node (boot_o_8 P) (BT.node (ob16_2 P) (BT.node (ob32_2 P) (BT.node (ob64_2 P) (BT.node (ob128_5 P) BT.nil BT.nil) BT.nil) (BT.node (ob96_3 P) BT.nil BT.nil)) (BT.node (ob48_2 P) (BT.node (ob80_2 P) (BT.node (ob144_5 P) BT.nil BT.nil) BT.nil) (BT.node (ob112_4 P) BT.nil BT.nil))) (BT.node (ob24_2 P) (BT.node (ob40_2 P) (BT.node (ob72_2 P) (BT.node (ob136_5 P) BT.nil BT.nil) BT.nil) (BT.node (ob104_3 P) BT.nil BT.nil)) (BT.node (ob56_2 P) (BT.node (ob88_2 P) (BT.node (ob152_5 P) BT.nil BT.nil) BT.nil) (BT.node (ob120_5 P) BT.nil BT.nil)))) (BT.node (ob12_4 P) (BT.node (ob20_2 P) (BT.node (ob36_2 P) (BT.node (ob68_2 P) (BT.node (ob132_5 P) BT.nil BT.nil) BT.nil) (BT.node (ob100_3 P) BT.nil BT.nil)) (BT.node (ob52_2 P) (BT.node (ob84_2 P) (BT.node (ob148_5 P) BT.nil BT.nil) BT.nil) (BT.node (ob116_5 P) BT.nil BT.nil))) (BT.node (ob28_2 P) (BT.node (ob44_2 P) (BT.node (ob76_2 P) (BT.node (ob140_5 P) BT.nil BT.nil) BT.nil) (BT.node (ob108_4 P) BT.nil BT.nil)) (BT.node (ob60_2 P) (BT.node (ob92_2 P) BT.nil BT.nil) (BT.node (ob124_5 P) BT.nil BT.nil))))) (BT.node (boot_o_6 P) (BT.node (boot_o_10 P) (BT.node (ob18_2 P) (BT.node (ob34_2 P) (BT.node (ob66_2 P) (BT.node (ob130_5 P) BT.nil BT.nil) BT.nil) (BT.node (ob98_3 P) BT.nil BT.nil)) (BT.node (ob50_2 P) (BT.node (ob82_2 P) (BT.node (ob146_5 P) BT.nil BT.nil) BT.nil) (BT.node (ob114_5 P) BT.nil BT.nil))) (BT.node (ob26_2 P) (BT.node (ob42_2 P) (BT.node (ob74_2 P) (BT.node (ob138_5 P) BT.nil BT.nil) BT.nil) (BT.node (ob106_3 P) BT.nil BT.nil)) (BT.node (ob58_2 P) (BT.node (ob90_2 P) BT.nil BT.nil) (BT.node (ob122_5 P) BT.nil BT.nil)))) (BT.node (ob14_0 P) (BT.node (ob22_2 P) (BT.node (ob38_2 P) (BT.node (ob70_2 P) (BT.node (ob134_5 P) BT.nil BT.nil) BT.nil) (BT.node (ob102_3 P) BT.nil BT.nil)) (BT.node (ob54_2 P) (BT.node (ob86_2 P) (BT.node (ob150_5 P) BT.nil BT.nil) BT.nil) (BT.node (ob118_5 P) BT.nil BT.nil))) (BT.node (ob30_2 P) (BT.node (ob46_2 P) (BT.node (ob78_2 P) (BT.node (ob142_5 P) BT.nil BT.nil) BT.nil) (BT.node (ob110_4 P) BT.nil BT.nil)) (BT.node (ob62_2 P) (BT.node (ob94_2 P) BT.nil BT.nil) (BT.node (ob126_5 P) BT.nil BT.nil)))))))
def Sd (w : World) (os : OsState) : SharedT := SharedT.mk (trd w.params) 153 life0 (Array.mk []) (Drawn.mk 0 0 0 0) (tabTok + 1950) os
def sts3 : List Stmt := [st10]
def tr3 (P : Params) : BT := (BT.node (boot_o_0 P) (BT.node (boot_o_1 P) (BT.node (ob3_5 P) (BT.node (boot_o_7 P) (BT.node (ob15_2 P) (BT.node (ob31_2 P) (BT.node (ob63_2 P) (BT.node (ob127_5 P) BT.nil BT.nil) BT.nil) (BT.node (ob95_2 P) BT.nil BT.nil)) (BT.node (ob47_2 P) (BT.node (ob79_2 P) (BT.node (ob143_5 P) BT.nil BT.nil) BT.nil) (BT.node (ob111_4 P) BT.nil BT.nil))) (BT.node (ob23_2 P) (BT.node (ob39_2 P) (BT.node (ob71_2 P) (BT.node (ob135_5 P) BT.nil BT.nil) BT.nil) (BT.node (ob103_3 P) BT.nil BT.nil)) (BT.node (ob55_2 P) (BT.node (ob87_2 P) (BT.node (ob151_5 P) BT.nil BT.nil) BT.nil) (BT.node (ob119_5 P) BT.nil BT.nil)))) (BT.node (ob11_0 P) (BT.node (ob19_2 P) (BT.node (ob35_2 P) (BT.node (ob67_2 P) (BT.node (ob131_5 P) BT.nil BT.nil) BT.nil) (BT.node (ob99_3 P) BT.nil BT.nil)) (BT.node (ob51_2 P) (BT.node (ob83_2 P) (BT.node (ob147_5 P) BT.nil BT.nil) BT.nil) (BT.node (ob115_5 P) BT.nil BT.nil))) (BT.node (ob27_2 P) (BT.node (ob43_2 P) (BT.node (ob75_2 P) (BT.node (ob139_5 P) BT.nil BT.nil) BT.nil) (BT.node (ob107_4 P) BT.nil BT.nil)) (BT.node (ob59_2 P) (BT.node (ob91_2 P) BT.nil BT.nil) (BT.node (ob123_5 P) BT.nil BT.nil))))) (BT.node (boot_o_5 P) (BT.node (boot_o_9 P) (BT.node (ob17_2 P) (BT.node (ob33_2 P) (BT.node (ob65_2 P) (BT.node (ob129_5 P) BT.nil BT.nil) BT.nil) (BT.node (ob97_3 P) BT.nil BT.nil)) (BT.node (ob49_2 P) (BT.node (ob81_2 P) (BT.node (ob145_5 P) BT.nil BT.nil) BT.nil) (BT.node (ob113_4 P) BT.nil BT.nil))) (BT.node (ob25_2 P) (BT.node (ob41_2 P) (BT.node (ob73_2 P) (BT.node (ob137_5 P) BT.nil BT.nil) BT.nil) (BT.node (ob105_3 P) BT.nil BT.nil)) (BT.node (ob57_2 P) (BT.node (ob89_2 P) BT.nil BT.nil) (BT.node (ob121_5 P) BT.nil BT.nil)))) (BT.node (ob13_0 P) (BT.node (ob21_2 P) (BT.node (ob37_2 P) (BT.node (ob69_2 P) (BT.node (ob133_5 P) BT.nil BT.nil) BT.nil) (BT.node (ob101_3 P) BT.nil BT.nil)) (BT.node (ob53_2 P) (BT.node (ob85_2 P) (BT.node (ob149_5 P) BT.nil BT.nil) BT.nil) (BT.node (ob117_5 P) BT.nil BT.nil))) (BT.node (ob29_2 P) (BT.node (ob45_2 P) (BT.node (ob77_2 P) (BT.node (ob141_5 P) BT.nil BT.nil) BT.nil) (BT.node (ob109_4 P) BT.nil BT.nil)) (BT.node (ob61_2 P) (BT.node (ob93_2 P) BT.nil BT.nil) (BT.node (ob125_5 P) BT.nil BT.nil)))))) (BT.node (ob2_2 P) (BT.node (boot_o_4 P) (BT.node (boot_o_8 P) (BT.node (ob16_2 P) (BT.node (ob32_2 P) (BT.node (ob64_2 P) (BT.node (ob128_5 P) BT.nil BT.nil) BT.nil) (BT.node (ob96_3 P) BT.nil BT.nil)) (BT.node (ob48_2 P) (BT.node (ob80_2 P) (BT.node (ob144_5 P) BT.nil BT.nil) BT.nil) (BT.node (ob112_4 P) BT.nil BT.nil))) (BT.node (ob24_2 P) (BT.node (ob40_2 P) (BT.node (ob72_2 P) (BT.node (ob136_5 P) BT.nil BT.nil) BT.nil) (BT.node (ob104_3 P) BT.nil BT.nil)) (BT.node (ob56_2 P) (BT.node (ob88_2 P) (BT.node (ob152_5 P) BT.nil BT.nil) BT.nil) (BT.node (ob120_5 P) BT.nil BT.nil)))) (BT.node (ob12_4 P) (BT.node (ob20_2 P) (BT.node (ob36_2 P) (BT.node (ob68_2 P) (BT.node (ob132_5 P) BT.nil BT.nil) BT.nil) (BT.node (ob100_3 P) BT.nil BT.nil)) (BT.node (ob52_2 P) (BT.node (ob84_2 P) (BT.node (ob148_5 P) BT.nil BT.nil) BT.nil) (BT.node (ob116_5 P) BT.nil BT.nil))) (BT.node (ob28_2 P) (BT.node (ob44_2 P) (BT.node (ob76_2 P) (BT.node (ob140_5 P) BT.nil BT.nil) BT.nil) (BT.node (ob108_4 P) BT.nil BT.nil)) (BT.node (ob60_2 P) (BT.node (ob92_2 P) BT.nil BT.nil) (BT.node (ob124_5 P) BT.nil BT.nil))))) (BT.node (boot_o_6 P) (BT.node (boot_o_10 P) (BT.node (ob18_2 P) (BT.node (ob34_2 P) (BT.node (ob66_2 P) (BT.node (ob130_5 P) BT.nil BT.nil) BT.nil) (BT.node (ob98_3 P) BT.nil BT.nil)) (BT.node (ob50_2 P) (BT.node (ob82_2 P) (BT.node (ob146_5 P) BT.nil BT.nil) BT.nil) (BT.node (ob114_5 P) BT.nil BT.nil))) (BT.node (ob26_2 P) (BT.node (ob42_2 P) (BT.node (ob74_2 P) (BT.node (ob138_5 P) BT.nil BT.nil) BT.nil) (BT.node (ob106_3 P) BT.nil BT.nil)) (BT.node (ob58_2 P) (BT.node (ob90_2 P) BT.nil BT.nil) (BT.node (ob122_5 P) BT.nil BT.nil)))) (BT.node (ob14_0 P) (BT.node (ob22_2 P) (BT.node (ob38_2 P) (BT.node (ob70_2 P) (BT.node (ob134_5 P) BT.nil BT.nil) BT.nil) (BT.node (ob102_3 P) BT.nil BT.nil)) (BT.node (ob54_2 P) (BT.node (ob86_2 P) (BT.node (ob150_5 P) BT.nil BT.nil) BT.nil) (BT.node (ob118_5 P) BT.nil BT.nil))) (BT.node (ob30_2 P) (BT.node (ob46_2 P) (BT.node (ob78_2 P) (BT.node (ob142_5 P) BT.nil BT.nil) BT.nil) (BT.node (ob110_4 P) BT.nil BT.nil)) (BT.node (ob62_2 P) (BT.node (ob94_2 P) BT.nil BT.nil) (BT.node (ob126_5 P) BT.nil BT.nil)))))))
def S3 (w : World) (os : OsState) : SharedT := SharedT.mk (tr3 w.params) 153 life0 (Array.mk []) (Drawn.mk 0 0 0 0) 2323 os
def x_d : Sem Flow := do standAt (aPos st10); bindName env (aName st10) (.ref 114); pure .next
def l_d (gd : Bool → Bool) (lv : List Value → List Value) (pos : Pos) (w : World) (os : OsState) : Option (Flow × SharedT × Code × Pos) := segRunT treeTable pw w 11 ann 1 20 (Sd w os) (Thread.mk (x_d.wrap doneF deadEnd gd lv) cE pos topF)
def r_d (w : World) (os : OsState) : Option (Flow × SharedT × Code × Pos) := some (.next, S3 w os, cE, (Pos.mk 74 0 74 13))
def sts4 : List Stmt := [st11, st12, st13, st14, st15, st16, st17, st18, st19]
def ob3_7 (P : Params) : Obj := ⟨(Value.type "dict"), none, Data.dict #[⟨PyData.keyHash P (Str.ofString "__name__"), (Value.str (Str.ofString "__name__") 165), (Value.str (Str.ofString "law_tr0055_02") 2331)⟩, ⟨PyData.keyHash P (Str.ofString "__doc__"), (Value.str (Str.ofString "__doc__") 166), Value.none⟩, ⟨PyData.keyHash P (Str.ofString "__package__"), (Value.str (Str.ofString "__package__") 167), Value.none⟩, ⟨PyData.keyHash P (Str.ofString "__loader__"), (Value.str (Str.ofString "__loader__") 168), (Value.builtin "__main__.__loader__#opaque")⟩, ⟨PyData.keyHash P (Str.ofString "__spec__"), (Value.str (Str.ofString "__spec__") 169), Value.none⟩, ⟨PyData.keyHash P (Str.ofString "__annotations__"), (Value.str (Str.ofString "__annotations__") 170), (Value.ref 6)⟩, ⟨PyData.keyHash P (Str.ofString "__builtins__"), (Value.str (Str.ofString "__builtins__") 171), (Value.ref 4)⟩, ⟨PyData.keyHash P (Str.ofString "__file__"), (Value.str (Str.ofString "__file__") 173), (Value.str (Str.ofString "/claim/cut.py") 172)⟩, ⟨PyData.keyHash P (Str.ofString "__cached__"), (Value.str (Str.ofString "__cached__") 174), Value.none⟩, ⟨PyData.keyHash P (Str.ofString "_wall"), (Value.str (Str.ofString "_wall") 193), (Value.ref 21)⟩, ⟨PyData.keyHash P (Str.ofString "Error"), (Value.str (Str.ofString "Error") 215), (Value.ref 31)⟩, ⟨PyData.keyHash P (Str.ofString "error_reply"), (Value.str (Str.ofString "error_reply") 231), (Value.ref 44)⟩, ⟨PyData.keyHash P (Str.ofString "parse257"), (Value.str (Str.ofString "parse257") 242), (Value.ref 53)⟩, ⟨PyData.keyHash P (Str.ofString "_netrclex"), (Value.str (Str.ofString "_netrclex") 302), (Value.ref 91)⟩, ⟨PyData.keyHash P (Str.ofString "b1_set"), (Value.str (Str.ofString "b1_set") 364), (Value.ref 103)⟩, ⟨PyData.keyHash P (Str.ofString "in_table_b1"), (Value.str (Str.ofString "in_table_b1") 371), (Value.ref 113)⟩, ⟨PyData.keyHash P (Str.ofString "b3_exceptions"), (Value.str (Str.ofString "b3_exceptions") 2322), (Value.ref 114)⟩, ⟨PyData.keyHash P (Str.ofString "map_table_b3"), (Value.str (Str.ofString "map_table_b3") 2330), (Value.ref 159)⟩, ⟨PyData.keyHash P (Str.ofString "_law_prepared"), (Value.str (Str.ofString "_law_prepared") 2338), (Value.ref 164)⟩, ⟨PyData.keyHash P (Str.ofString "_law_stream"), (Value.str (Str.ofString "_law_stream") 2347), (Value.ref 171)⟩, ⟨PyData.keyHash P (Str.ofString "_law_word"), (Value.str (Str.ofString "_law_word") 2354), (Value.ref 178)⟩, ⟨PyData.keyHash P (Str.ofString "_law_name"), (Value.str (Str.ofString "_law_name") 2361), (Value.ref 185)⟩, ⟨PyData.keyHash P (Str.ofString "_law_drawn"), (Value.str (Str.ofString "_law_drawn") 2367), (Value.ref 190)⟩, ⟨PyData.keyHash P (Str.ofString "_law_marks"), (Value.str (Str.ofString "_law_marks") 2378), (Value.ref 197)⟩, ⟨PyData.keyHash P (Str.ofString "law"), (Value.str (Str.ofString "law") 2384), (Value.ref 202)⟩] 25, #[]⟩
def ob12_7 (P : Params) : Obj := ⟨Value.none, none, Data.fields #[(Value.int (1) 0), (Value.int (0) 0), (Value.ref 20), (Value.int (5) 0), (Value.int (0) 0), (Value.ref 27), (Value.int (7) 0), (Value.int (0) 0), (Value.ref 40), (Value.int (9) 0), (Value.int (0) 0), (Value.ref 52), (Value.int (27) 0), (Value.int (0) 0), (Value.ref 59), (Value.int (72) 0), (Value.int (0) 0), (Value.ref 112), (Value.int (75) 0), (Value.int (0) 0), (Value.ref 158), (Value.int (81) 0), (Value.int (0) 0), (Value.ref 163), (Value.int (83) 0), (Value.int (0) 0), (Value.ref 170), (Value.int (88) 0), (Value.int (0) 0), (Value.ref 177), (Value.int (90) 0), (Value.int (0) 0), (Value.ref 184), (Value.int (92) 0), (Value.int (0) 0), (Value.ref 189), (Value.int (118) 0), (Value.int (0) 0), (Value.ref 196), (Value.int (127) 0), (Value.int (0) 0), (Value.ref 201)], #[]⟩
def ob153_7 (P : Params) : Obj := ⟨(Value.type "tuple"), none, Data.seq #[] 0, #[]⟩
def ob154_7 (P : Params) : Obj := ⟨Value.none, none, Data.fields #[], #[]⟩
def ob155_7 (P : Params) : Obj := ⟨(Value.type "tuple"), none, Data.seq #[(Value.str (Str.ofString "code") 2326), (Value.str (Str.ofString "r") 2327)] 0, #[]⟩
def ob156_7 (P : Params) : Obj := ⟨(Value.type "tuple"), none, Data.seq #[] 0, #[]⟩
def ob157_7 (P : Params) : Obj := ⟨Value.none, none, Data.func { name := (Str.ofString "map_table_b3"), qualname := (Str.ofString "map_table_b3"), params := fA st11, body := .stmts (fB st11), scope := fS st11, globals := 0, closure := [], defaults := Value.none, kwdefaults := Value.none, doc := Value.none, pyModule := Value.none, annotations := none, code := Value.none, closureTuple := Value.none, builtins := 0 }, #[]⟩
def ob158_7 (P : Params) : Obj := ⟨(Value.type "code"), none, Data.fields #[(Value.str (Str.ofString "map_table_b3") 2323), (Value.str (Str.ofString "map_table_b3") 2324), (Value.str (Str.ofString "/claim/cut.py") 2325), (Value.int (75) 0), (Value.int (1) 0), (Value.int (0) 0), (Value.int (0) 0), (Value.int (3) 0), (Value.ref 153), (Value.bool true), (Value.int (181) 0), (Value.ref 154), Value.none, (Value.ref 155), (Value.ref 156), (Value.ref 157), (Value.int (2328) 0), (Value.int (75) 0), (Value.str (Str.ofString "/claim/cut.py") 2329)], #[]⟩
def ob159_7 (P : Params) : Obj := ⟨(Value.type "function"), none, Data.func { name := (Str.ofString "map_table_b3"), qualname := (Str.ofString "map_table_b3"), params := fA st11, body := .stmts (fB st11), scope := fS st11, globals := 3, closure := [], defaults := Value.none, kwdefaults := Value.none, doc := Value.none, pyModule := (Value.str (Str.ofString "cpy313.stringprep") 303), annotations := none, code := (Value.ref 158), closureTuple := Value.none, builtins := 0 }, #[]⟩
def ob160_7 (P : Params) : Obj := ⟨(Value.type "tuple"), none, Data.seq #[] 0, #[]⟩
def ob161_7 (P : Params) : Obj := ⟨Value.none, none, Data.fields #[], #[]⟩
def ob162_7 (P : Params) : Obj := ⟨Value.none, none, Data.func { name := (Str.ofString "_law_prepared"), qualname := (Str.ofString "_law_prepared"), params := fA st13, body := .stmts (fB st13), scope := fS st13, globals := 0, closure := [], defaults := Value.none, kwdefaults := Value.none, doc := Value.none, pyModule := Value.none, annotations := none, code := Value.none, closureTuple := Value.none, builtins := 0 }, #[]⟩
def ob163_7 (P : Params) : Obj := ⟨(Value.type "code"), none, Data.fields #[(Value.str (Str.ofString "_law_prepared") 2333), (Value.str (Str.ofString "_law_prepared") 2334), (Value.str (Str.ofString "/claim/cut.py") 2335), (Value.int (81) 0), (Value.int (1) 0), (Value.int (0) 0), (Value.int (0) 0), (Value.int (3) 0), (Value.ref 160), (Value.bool true), (Value.int (181) 0), (Value.ref 161), Value.none, Value.none, Value.none, (Value.ref 162), (Value.int (2336) 0), (Value.int (81) 0), (Value.str (Str.ofString "/claim/cut.py") 2337)], #[]⟩
def ob164_7 (P : Params) : Obj := ⟨(Value.type "function"), none, Data.func { name := (Str.ofString "_law_prepared"), qualname := (Str.ofString "_law_prepared"), params := fA st13, body := .stmts (fB st13), scope := fS st13, globals := 3, closure := [], defaults := Value.none, kwdefaults := Value.none, doc := Value.none, pyModule := (Value.str (Str.ofString "law_tr0055_02") 2331), annotations := none, code := (Value.ref 163), closureTuple := Value.none, builtins := 0 }, #[]⟩
def ob165_7 (P : Params) : Obj := ⟨(Value.type "tuple"), none, Data.seq #[] 0, #[]⟩
def ob166_7 (P : Params) : Obj := ⟨Value.none, none, Data.fields #[], #[]⟩
def ob167_7 (P : Params) : Obj := ⟨(Value.type "tuple"), none, Data.seq #[(Value.str (Str.ofString "text") 2342), (Value.str (Str.ofString "stream") 2343)] 0, #[]⟩
def ob168_7 (P : Params) : Obj := ⟨(Value.type "tuple"), none, Data.seq #[(Value.str (Str.ofString "signs") 2344)] 0, #[]⟩
def ob169_7 (P : Params) : Obj := ⟨Value.none, none, Data.func { name := (Str.ofString "_law_stream"), qualname := (Str.ofString "_law_stream"), params := fA st14, body := .stmts (fB st14), scope := fS st14, globals := 0, closure := [], defaults := Value.none, kwdefaults := Value.none, doc := Value.none, pyModule := Value.none, annotations := none, code := Value.none, closureTuple := Value.none, builtins := 0 }, #[]⟩
def ob170_7 (P : Params) : Obj := ⟨(Value.type "code"), none, Data.fields #[(Value.str (Str.ofString "_law_stream") 2339), (Value.str (Str.ofString "_law_stream") 2340), (Value.str (Str.ofString "/claim/cut.py") 2341), (Value.int (83) 0), (Value.int (1) 0), (Value.int (0) 0), (Value.int (0) 0), (Value.int (3) 0), (Value.ref 165), (Value.bool true), (Value.int (181) 0), (Value.ref 166), Value.none, (Value.ref 167), (Value.ref 168), (Value.ref 169), (Value.int (2345) 0), (Value.int (83) 0), (Value.str (Str.ofString "/claim/cut.py") 2346)], #[]⟩
def ob171_7 (P : Params) : Obj := ⟨(Value.type "function"), none, Data.func { name := (Str.ofString "_law_stream"), qualname := (Str.ofString "_law_stream"), params := fA st14, body := .stmts (fB st14), scope := fS st14, globals := 3, closure := [], defaults := Value.none, kwdefaults := Value.none, doc := Value.none, pyModule := (Value.str (Str.ofString "law_tr0055_02") 2331), annotations := none, code := (Value.ref 170), closureTuple := Value.none, builtins := 0 }, #[]⟩
def ob172_7 (P : Params) : Obj := ⟨(Value.type "tuple"), none, Data.seq #[] 0, #[]⟩
def ob173_7 (P : Params) : Obj := ⟨Value.none, none, Data.fields #[], #[]⟩
def ob174_7 (P : Params) : Obj := ⟨(Value.type "tuple"), none, Data.seq #[(Value.str (Str.ofString "text") 2351)] 0, #[]⟩
def ob175_7 (P : Params) : Obj := ⟨(Value.type "tuple"), none, Data.seq #[] 0, #[]⟩
def ob176_7 (P : Params) : Obj := ⟨Value.none, none, Data.func { name := (Str.ofString "_law_word"), qualname := (Str.ofString "_law_word"), params := fA st15, body := .stmts (fB st15), scope := fS st15, globals := 0, closure := [], defaults := Value.none, kwdefaults := Value.none, doc := Value.none, pyModule := Value.none, annotations := none, code := Value.none, closureTuple := Value.none, builtins := 0 }, #[]⟩
def ob177_7 (P : Params) : Obj := ⟨(Value.type "code"), none, Data.fields #[(Value.str (Str.ofString "_law_word") 2348), (Value.str (Str.ofString "_law_word") 2349), (Value.str (Str.ofString "/claim/cut.py") 2350), (Value.int (88) 0), (Value.int (1) 0), (Value.int (0) 0), (Value.int (0) 0), (Value.int (3) 0), (Value.ref 172), (Value.bool true), (Value.int (181) 0), (Value.ref 173), Value.none, (Value.ref 174), (Value.ref 175), (Value.ref 176), (Value.int (2352) 0), (Value.int (88) 0), (Value.str (Str.ofString "/claim/cut.py") 2353)], #[]⟩
def ob178_7 (P : Params) : Obj := ⟨(Value.type "function"), none, Data.func { name := (Str.ofString "_law_word"), qualname := (Str.ofString "_law_word"), params := fA st15, body := .stmts (fB st15), scope := fS st15, globals := 3, closure := [], defaults := Value.none, kwdefaults := Value.none, doc := Value.none, pyModule := (Value.str (Str.ofString "law_tr0055_02") 2331), annotations := none, code := (Value.ref 177), closureTuple := Value.none, builtins := 0 }, #[]⟩
def ob179_7 (P : Params) : Obj := ⟨(Value.type "tuple"), none, Data.seq #[] 0, #[]⟩
def ob180_7 (P : Params) : Obj := ⟨Value.none, none, Data.fields #[], #[]⟩
def ob181_7 (P : Params) : Obj := ⟨(Value.type "tuple"), none, Data.seq #[(Value.str (Str.ofString "text") 2358)] 0, #[]⟩
def ob182_7 (P : Params) : Obj := ⟨(Value.type "tuple"), none, Data.seq #[] 0, #[]⟩
def ob183_7 (P : Params) : Obj := ⟨Value.none, none, Data.func { name := (Str.ofString "_law_name"), qualname := (Str.ofString "_law_name"), params := fA st16, body := .stmts (fB st16), scope := fS st16, globals := 0, closure := [], defaults := Value.none, kwdefaults := Value.none, doc := Value.none, pyModule := Value.none, annotations := none, code := Value.none, closureTuple := Value.none, builtins := 0 }, #[]⟩
def ob184_7 (P : Params) : Obj := ⟨(Value.type "code"), none, Data.fields #[(Value.str (Str.ofString "_law_name") 2355), (Value.str (Str.ofString "_law_name") 2356), (Value.str (Str.ofString "/claim/cut.py") 2357), (Value.int (90) 0), (Value.int (1) 0), (Value.int (0) 0), (Value.int (0) 0), (Value.int (3) 0), (Value.ref 179), (Value.bool true), (Value.int (181) 0), (Value.ref 180), Value.none, (Value.ref 181), (Value.ref 182), (Value.ref 183), (Value.int (2359) 0), (Value.int (90) 0), (Value.str (Str.ofString "/claim/cut.py") 2360)], #[]⟩
def ob185_7 (P : Params) : Obj := ⟨(Value.type "function"), none, Data.func { name := (Str.ofString "_law_name"), qualname := (Str.ofString "_law_name"), params := fA st16, body := .stmts (fB st16), scope := fS st16, globals := 3, closure := [], defaults := Value.none, kwdefaults := Value.none, doc := Value.none, pyModule := (Value.str (Str.ofString "law_tr0055_02") 2331), annotations := none, code := (Value.ref 184), closureTuple := Value.none, builtins := 0 }, #[]⟩
def ob186_7 (P : Params) : Obj := ⟨(Value.type "tuple"), none, Data.seq #[] 0, #[]⟩
def ob187_7 (P : Params) : Obj := ⟨Value.none, none, Data.fields #[], #[]⟩
def ob188_7 (P : Params) : Obj := ⟨Value.none, none, Data.func { name := (Str.ofString "_law_drawn"), qualname := (Str.ofString "_law_drawn"), params := fA st17, body := .stmts (fB st17), scope := fS st17, globals := 0, closure := [], defaults := Value.none, kwdefaults := Value.none, doc := Value.none, pyModule := Value.none, annotations := none, code := Value.none, closureTuple := Value.none, builtins := 0 }, #[]⟩
def ob189_7 (P : Params) : Obj := ⟨(Value.type "code"), none, Data.fields #[(Value.str (Str.ofString "_law_drawn") 2362), (Value.str (Str.ofString "_law_drawn") 2363), (Value.str (Str.ofString "/claim/cut.py") 2364), (Value.int (92) 0), (Value.int (1) 0), (Value.int (0) 0), (Value.int (0) 0), (Value.int (3) 0), (Value.ref 186), (Value.bool true), (Value.int (181) 0), (Value.ref 187), Value.none, Value.none, Value.none, (Value.ref 188), (Value.int (2365) 0), (Value.int (92) 0), (Value.str (Str.ofString "/claim/cut.py") 2366)], #[]⟩
def ob190_7 (P : Params) : Obj := ⟨(Value.type "function"), none, Data.func { name := (Str.ofString "_law_drawn"), qualname := (Str.ofString "_law_drawn"), params := fA st17, body := .stmts (fB st17), scope := fS st17, globals := 3, closure := [], defaults := Value.none, kwdefaults := Value.none, doc := Value.none, pyModule := (Value.str (Str.ofString "law_tr0055_02") 2331), annotations := none, code := (Value.ref 189), closureTuple := Value.none, builtins := 0 }, #[]⟩
def ob191_7 (P : Params) : Obj := ⟨(Value.type "tuple"), none, Data.seq #[] 0, #[]⟩
def ob192_7 (P : Params) : Obj := ⟨Value.none, none, Data.fields #[], #[]⟩
def ob193_7 (P : Params) : Obj := ⟨(Value.type "tuple"), none, Data.seq #[(Value.str (Str.ofString "groups") 2371), (Value.str (Str.ofString "folds") 2372), (Value.str (Str.ofString "told") 2373), (Value.str (Str.ofString "place") 2374), (Value.str (Str.ofString "run") 2375)] 0, #[]⟩
def ob194_7 (P : Params) : Obj := ⟨(Value.type "tuple"), none, Data.seq #[] 0, #[]⟩
def ob195_7 (P : Params) : Obj := ⟨Value.none, none, Data.func { name := (Str.ofString "_law_marks"), qualname := (Str.ofString "_law_marks"), params := fA st18, body := .stmts (fB st18), scope := fS st18, globals := 0, closure := [], defaults := Value.none, kwdefaults := Value.none, doc := Value.none, pyModule := Value.none, annotations := none, code := Value.none, closureTuple := Value.none, builtins := 0 }, #[]⟩
def ob196_7 (P : Params) : Obj := ⟨(Value.type "code"), none, Data.fields #[(Value.str (Str.ofString "_law_marks") 2368), (Value.str (Str.ofString "_law_marks") 2369), (Value.str (Str.ofString "/claim/cut.py") 2370), (Value.int (118) 0), (Value.int (2) 0), (Value.int (0) 0), (Value.int (0) 0), (Value.int (3) 0), (Value.ref 191), (Value.bool true), (Value.int (181) 0), (Value.ref 192), Value.none, (Value.ref 193), (Value.ref 194), (Value.ref 195), (Value.int (2376) 0), (Value.int (118) 0), (Value.str (Str.ofString "/claim/cut.py") 2377)], #[]⟩
def ob197_7 (P : Params) : Obj := ⟨(Value.type "function"), none, Data.func { name := (Str.ofString "_law_marks"), qualname := (Str.ofString "_law_marks"), params := fA st18, body := .stmts (fB st18), scope := fS st18, globals := 3, closure := [], defaults := Value.none, kwdefaults := Value.none, doc := Value.none, pyModule := (Value.str (Str.ofString "law_tr0055_02") 2331), annotations := none, code := (Value.ref 196), closureTuple := Value.none, builtins := 0 }, #[]⟩
def ob198_7 (P : Params) : Obj := ⟨(Value.type "tuple"), none, Data.seq #[] 0, #[]⟩
def ob199_7 (P : Params) : Obj := ⟨Value.none, none, Data.fields #[], #[]⟩
def ob200_7 (P : Params) : Obj := ⟨Value.none, none, Data.func { name := (Str.ofString "law"), qualname := (Str.ofString "law"), params := fA st19, body := .stmts (fB st19), scope := fS st19, globals := 0, closure := [], defaults := Value.none, kwdefaults := Value.none, doc := Value.none, pyModule := Value.none, annotations := none, code := Value.none, closureTuple := Value.none, builtins := 0 }, #[]⟩
def ob201_7 (P : Params) : Obj := ⟨(Value.type "code"), none, Data.fields #[(Value.str (Str.ofString "law") 2379), (Value.str (Str.ofString "law") 2380), (Value.str (Str.ofString "/claim/cut.py") 2381), (Value.int (127) 0), (Value.int (1) 0), (Value.int (0) 0), (Value.int (0) 0), (Value.int (3) 0), (Value.ref 198), (Value.bool true), (Value.int (181) 0), (Value.ref 199), Value.none, Value.none, Value.none, (Value.ref 200), (Value.int (2382) 0), (Value.int (127) 0), (Value.str (Str.ofString "/claim/cut.py") 2383)], #[]⟩
def ob202_7 (P : Params) : Obj := ⟨(Value.type "function"), none, Data.func { name := (Str.ofString "law"), qualname := (Str.ofString "law"), params := fA st19, body := .stmts (fB st19), scope := fS st19, globals := 3, closure := [], defaults := Value.none, kwdefaults := Value.none, doc := Value.none, pyModule := (Value.str (Str.ofString "law_tr0055_02") 2331), annotations := none, code := (Value.ref 201), closureTuple := Value.none, builtins := 0 }, #[]⟩
def tr4 (P : Params) : BT := (BT.node (boot_o_0 P) (BT.node (boot_o_1 P) (BT.node (ob3_7 P) (BT.node (boot_o_7 P) (BT.node (ob15_2 P) (BT.node (ob31_2 P) (BT.node (ob63_2 P) (BT.node (ob127_5 P) BT.nil BT.nil) (BT.node (ob191_7 P) BT.nil BT.nil)) (BT.node (ob95_2 P) (BT.node (ob159_7 P) BT.nil BT.nil) BT.nil)) (BT.node (ob47_2 P) (BT.node (ob79_2 P) (BT.node (ob143_5 P) BT.nil BT.nil) BT.nil) (BT.node (ob111_4 P) (BT.node (ob175_7 P) BT.nil BT.nil) BT.nil))) (BT.node (ob23_2 P) (BT.node (ob39_2 P) (BT.node (ob71_2 P) (BT.node (ob135_5 P) BT.nil BT.nil) (BT.node (ob199_7 P) BT.nil BT.nil)) (BT.node (ob103_3 P) (BT.node (ob167_7 P) BT.nil BT.nil) BT.nil)) (BT.node (ob55_2 P) (BT.node (ob87_2 P) (BT.node (ob151_5 P) BT.nil BT.nil) BT.nil) (BT.node (ob119_5 P) (BT.node (ob183_7 P) BT.nil BT.nil) BT.nil)))) (BT.node (ob11_0 P) (BT.node (ob19_2 P) (BT.node (ob35_2 P) (BT.node (ob67_2 P) (BT.node (ob131_5 P) BT.nil BT.nil) (BT.node (ob195_7 P) BT.nil BT.nil)) (BT.node (ob99_3 P) (BT.node (ob163_7 P) BT.nil BT.nil) BT.nil)) (BT.node (ob51_2 P) (BT.node (ob83_2 P) (BT.node (ob147_5 P) BT.nil BT.nil) BT.nil) (BT.node (ob115_5 P) (BT.node (ob179_7 P) BT.nil BT.nil) BT.nil))) (BT.node (ob27_2 P) (BT.node (ob43_2 P) (BT.node (ob75_2 P) (BT.node (ob139_5 P) BT.nil BT.nil) BT.nil) (BT.node (ob107_4 P) (BT.node (ob171_7 P) BT.nil BT.nil) BT.nil)) (BT.node (ob59_2 P) (BT.node (ob91_2 P) (BT.node (ob155_7 P) BT.nil BT.nil) BT.nil) (BT.node (ob123_5 P) (BT.node (ob187_7 P) BT.nil BT.nil) BT.nil))))) (BT.node (boot_o_5 P) (BT.node (boot_o_9 P) (BT.node (ob17_2 P) (BT.node (ob33_2 P) (BT.node (ob65_2 P) (BT.node (ob129_5 P) BT.nil BT.nil) (BT.node (ob193_7 P) BT.nil BT.nil)) (BT.node (ob97_3 P) (BT.node (ob161_7 P) BT.nil BT.nil) BT.nil)) (BT.node (ob49_2 P) (BT.node (ob81_2 P) (BT.node (ob145_5 P) BT.nil BT.nil) BT.nil) (BT.node (ob113_4 P) (BT.node (ob177_7 P) BT.nil BT.nil) BT.nil))) (BT.node (ob25_2 P) (BT.node (ob41_2 P) (BT.node (ob73_2 P) (BT.node (ob137_5 P) BT.nil BT.nil) (BT.node (ob201_7 P) BT.nil BT.nil)) (BT.node (ob105_3 P) (BT.node (ob169_7 P) BT.nil BT.nil) BT.nil)) (BT.node (ob57_2 P) (BT.node (ob89_2 P) (BT.node (ob153_7 P) BT.nil BT.nil) BT.nil) (BT.node (ob121_5 P) (BT.node (ob185_7 P) BT.nil BT.nil) BT.nil)))) (BT.node (ob13_0 P) (BT.node (ob21_2 P) (BT.node (ob37_2 P) (BT.node (ob69_2 P) (BT.node (ob133_5 P) BT.nil BT.nil) (BT.node (ob197_7 P) BT.nil BT.nil)) (BT.node (ob101_3 P) (BT.node (ob165_7 P) BT.nil BT.nil) BT.nil)) (BT.node (ob53_2 P) (BT.node (ob85_2 P) (BT.node (ob149_5 P) BT.nil BT.nil) BT.nil) (BT.node (ob117_5 P) (BT.node (ob181_7 P) BT.nil BT.nil) BT.nil))) (BT.node (ob29_2 P) (BT.node (ob45_2 P) (BT.node (ob77_2 P) (BT.node (ob141_5 P) BT.nil BT.nil) BT.nil) (BT.node (ob109_4 P) (BT.node (ob173_7 P) BT.nil BT.nil) BT.nil)) (BT.node (ob61_2 P) (BT.node (ob93_2 P) (BT.node (ob157_7 P) BT.nil BT.nil) BT.nil) (BT.node (ob125_5 P) (BT.node (ob189_7 P) BT.nil BT.nil) BT.nil)))))) (BT.node (ob2_2 P) (BT.node (boot_o_4 P) (BT.node (boot_o_8 P) (BT.node (ob16_2 P) (BT.node (ob32_2 P) (BT.node (ob64_2 P) (BT.node (ob128_5 P) BT.nil BT.nil) (BT.node (ob192_7 P) BT.nil BT.nil)) (BT.node (ob96_3 P) (BT.node (ob160_7 P) BT.nil BT.nil) BT.nil)) (BT.node (ob48_2 P) (BT.node (ob80_2 P) (BT.node (ob144_5 P) BT.nil BT.nil) BT.nil) (BT.node (ob112_4 P) (BT.node (ob176_7 P) BT.nil BT.nil) BT.nil))) (BT.node (ob24_2 P) (BT.node (ob40_2 P) (BT.node (ob72_2 P) (BT.node (ob136_5 P) BT.nil BT.nil) (BT.node (ob200_7 P) BT.nil BT.nil)) (BT.node (ob104_3 P) (BT.node (ob168_7 P) BT.nil BT.nil) BT.nil)) (BT.node (ob56_2 P) (BT.node (ob88_2 P) (BT.node (ob152_5 P) BT.nil BT.nil) BT.nil) (BT.node (ob120_5 P) (BT.node (ob184_7 P) BT.nil BT.nil) BT.nil)))) (BT.node (ob12_7 P) (BT.node (ob20_2 P) (BT.node (ob36_2 P) (BT.node (ob68_2 P) (BT.node (ob132_5 P) BT.nil BT.nil) (BT.node (ob196_7 P) BT.nil BT.nil)) (BT.node (ob100_3 P) (BT.node (ob164_7 P) BT.nil BT.nil) BT.nil)) (BT.node (ob52_2 P) (BT.node (ob84_2 P) (BT.node (ob148_5 P) BT.nil BT.nil) BT.nil) (BT.node (ob116_5 P) (BT.node (ob180_7 P) BT.nil BT.nil) BT.nil))) (BT.node (ob28_2 P) (BT.node (ob44_2 P) (BT.node (ob76_2 P) (BT.node (ob140_5 P) BT.nil BT.nil) BT.nil) (BT.node (ob108_4 P) (BT.node (ob172_7 P) BT.nil BT.nil) BT.nil)) (BT.node (ob60_2 P) (BT.node (ob92_2 P) (BT.node (ob156_7 P) BT.nil BT.nil) BT.nil) (BT.node (ob124_5 P) (BT.node (ob188_7 P) BT.nil BT.nil) BT.nil))))) (BT.node (boot_o_6 P) (BT.node (boot_o_10 P) (BT.node (ob18_2 P) (BT.node (ob34_2 P) (BT.node (ob66_2 P) (BT.node (ob130_5 P) BT.nil BT.nil) (BT.node (ob194_7 P) BT.nil BT.nil)) (BT.node (ob98_3 P) (BT.node (ob162_7 P) BT.nil BT.nil) BT.nil)) (BT.node (ob50_2 P) (BT.node (ob82_2 P) (BT.node (ob146_5 P) BT.nil BT.nil) BT.nil) (BT.node (ob114_5 P) (BT.node (ob178_7 P) BT.nil BT.nil) BT.nil))) (BT.node (ob26_2 P) (BT.node (ob42_2 P) (BT.node (ob74_2 P) (BT.node (ob138_5 P) BT.nil BT.nil) (BT.node (ob202_7 P) BT.nil BT.nil)) (BT.node (ob106_3 P) (BT.node (ob170_7 P) BT.nil BT.nil) BT.nil)) (BT.node (ob58_2 P) (BT.node (ob90_2 P) (BT.node (ob154_7 P) BT.nil BT.nil) BT.nil) (BT.node (ob122_5 P) (BT.node (ob186_7 P) BT.nil BT.nil) BT.nil)))) (BT.node (ob14_0 P) (BT.node (ob22_2 P) (BT.node (ob38_2 P) (BT.node (ob70_2 P) (BT.node (ob134_5 P) BT.nil BT.nil) (BT.node (ob198_7 P) BT.nil BT.nil)) (BT.node (ob102_3 P) (BT.node (ob166_7 P) BT.nil BT.nil) BT.nil)) (BT.node (ob54_2 P) (BT.node (ob86_2 P) (BT.node (ob150_5 P) BT.nil BT.nil) BT.nil) (BT.node (ob118_5 P) (BT.node (ob182_7 P) BT.nil BT.nil) BT.nil))) (BT.node (ob30_2 P) (BT.node (ob46_2 P) (BT.node (ob78_2 P) (BT.node (ob142_5 P) BT.nil BT.nil) BT.nil) (BT.node (ob110_4 P) (BT.node (ob174_7 P) BT.nil BT.nil) BT.nil)) (BT.node (ob62_2 P) (BT.node (ob94_2 P) (BT.node (ob158_7 P) BT.nil BT.nil) BT.nil) (BT.node (ob126_5 P) (BT.node (ob190_7 P) BT.nil BT.nil) BT.nil)))))))
def S4 (w : World) (os : OsState) : SharedT := SharedT.mk (tr4 w.params) 203 life0 (Array.mk []) (Drawn.mk 0 0 0 0) 2385 os
def l_4 (w : World) (os : OsState) : Option (Flow × SharedT × Code × Pos) := segRunT treeTable pw w 11 ann 1 240 (S3 w os) (piecesOf sts4 env cE (Pos.mk 74 0 74 13) topF)
def r_4 (w : World) (os : OsState) : Option (Flow × SharedT × Code × Pos) := some (.next, S4 w os, cE, (Pos.mk 127 0 138 22))
def heapF (P : Params) : Heap := Heap.mk (Array.mk [boot_o_0 P, boot_o_1 P, ob2_2 P, ob3_7 P, boot_o_4 P, boot_o_5 P, boot_o_6 P, boot_o_7 P, boot_o_8 P, boot_o_9 P, boot_o_10 P, ob11_0 P, ob12_7 P, ob13_0 P, ob14_0 P, ob15_2 P, ob16_2 P, ob17_2 P, ob18_2 P, ob19_2 P, ob20_2 P, ob21_2 P, ob22_2 P, ob23_2 P, ob24_2 P, ob25_2 P, ob26_2 P, ob27_2 P, ob28_2 P, ob29_2 P, ob30_2 P, ob31_2 P, ob32_2 P, ob33_2 P, ob34_2 P, ob35_2 P, ob36_2 P, ob37_2 P, ob38_2 P, ob39_2 P, ob40_2 P, ob41_2 P, ob42_2 P, ob43_2 P, ob44_2 P, ob45_2 P, ob46_2 P, ob47_2 P, ob48_2 P, ob49_2 P, ob50_2 P, ob51_2 P, ob52_2 P, ob53_2 P, ob54_2 P, ob55_2 P, ob56_2 P, ob57_2 P, ob58_2 P, ob59_2 P, ob60_2 P, ob61_2 P, ob62_2 P, ob63_2 P, ob64_2 P, ob65_2 P, ob66_2 P, ob67_2 P, ob68_2 P, ob69_2 P, ob70_2 P, ob71_2 P, ob72_2 P, ob73_2 P, ob74_2 P, ob75_2 P, ob76_2 P, ob77_2 P, ob78_2 P, ob79_2 P, ob80_2 P, ob81_2 P, ob82_2 P, ob83_2 P, ob84_2 P, ob85_2 P, ob86_2 P, ob87_2 P, ob88_2 P, ob89_2 P, ob90_2 P, ob91_2 P, ob92_2 P, ob93_2 P, ob94_2 P, ob95_2 P, ob96_3 P, ob97_3 P, ob98_3 P, ob99_3 P, ob100_3 P, ob101_3 P, ob102_3 P, ob103_3 P, ob104_3 P, ob105_3 P, ob106_3 P, ob107_4 P, ob108_4 P, ob109_4 P, ob110_4 P, ob111_4 P, ob112_4 P, ob113_4 P, ob114_5 P, ob115_5 P, ob116_5 P, ob117_5 P, ob118_5 P, ob119_5 P, ob120_5 P, ob121_5 P, ob122_5 P, ob123_5 P, ob124_5 P, ob125_5 P, ob126_5 P, ob127_5 P, ob128_5 P, ob129_5 P, ob130_5 P, ob131_5 P, ob132_5 P, ob133_5 P, ob134_5 P, ob135_5 P, ob136_5 P, ob137_5 P, ob138_5 P, ob139_5 P, ob140_5 P, ob141_5 P, ob142_5 P, ob143_5 P, ob144_5 P, ob145_5 P, ob146_5 P, ob147_5 P, ob148_5 P, ob149_5 P, ob150_5 P, ob151_5 P, ob152_5 P, ob153_7 P, ob154_7 P, ob155_7 P, ob156_7 P, ob157_7 P, ob158_7 P, ob159_7 P, ob160_7 P, ob161_7 P, ob162_7 P, ob163_7 P, ob164_7 P, ob165_7 P, ob166_7 P, ob167_7 P, ob168_7 P, ob169_7 P, ob170_7 P, ob171_7 P, ob172_7 P, ob173_7 P, ob174_7 P, ob175_7 P, ob176_7 P, ob177_7 P, ob178_7 P, ob179_7 P, ob180_7 P, ob181_7 P, ob182_7 P, ob183_7 P, ob184_7 P, ob185_7 P, ob186_7 P, ob187_7 P, ob188_7 P, ob189_7 P, ob190_7 P, ob191_7 P, ob192_7 P, ob193_7 P, ob194_7 P, ob195_7 P, ob196_7 P, ob197_7 P, ob198_7 P, ob199_7 P, ob200_7 P, ob201_7 P, ob202_7 P]) life0
def Sf (w : World) (os : OsState) : Shared := Shared.mk (heapF w.params) (Array.mk []) (Drawn.mk 0 0 0 0) 2385 os
def l_fin (w : World) (os : OsState) : Option Shared := topRun treeTable pw w 11 ann 2 (S4 w os).abs (Thread.mk (doneF .next) cE (Pos.mk 127 0 138 22) topF)
def r_fin (w : World) (os : OsState) : Option Shared := some (Sf w os)
def qv : Program := { pw with main := { pw.main with body := [st0, st2, st3, st4, st6, st8, st9, st10, st11, st13, st14, st15, st16, st17, st18, st19] } }
def looseL : List Str := [(Str.ofString "b1_set"), (Str.ofString "b3_exceptions")]
def KF (P : Params) : Frag := (nat_lit 0, boot_o_0 P) :: (nat_lit 1, boot_o_1 P) :: (nat_lit 2, ob2_2 P) :: (nat_lit 3, ob3_7 P) :: (nat_lit 4, boot_o_4 P) :: (nat_lit 5, boot_o_5 P) :: (nat_lit 6, boot_o_6 P) :: (nat_lit 7, boot_o_7 P) :: (nat_lit 9, boot_o_9 P) :: (nat_lit 10, boot_o_10 P) :: (nat_lit 11, ob11_0 P) :: (nat_lit 13, ob13_0 P) :: (nat_lit 14, ob14_0 P) :: (nat_lit 15, ob15_2 P) :: (nat_lit 17, ob17_2 P) :: (nat_lit 18, ob18_2 P) :: (nat_lit 19, ob19_2 P) :: (nat_lit 20, ob20_2 P) :: (nat_lit 21, ob21_2 P) :: (nat_lit 22, ob22_2 P) :: (nat_lit 23, ob23_2 P) :: (nat_lit 24, ob24_2 P) :: (nat_lit 25, ob25_2 P) :: (nat_lit 27, ob27_2 P) :: (nat_lit 28, ob28_2 P) :: (nat_lit 29, ob29_2 P) :: (nat_lit 30, ob30_2 P) :: (nat_lit 31, ob31_2 P) :: (nat_lit 32, ob32_2 P) :: (nat_lit 33, ob33_2 P) :: (nat_lit 34, ob34_2 P) :: (nat_lit 35, ob35_2 P) :: (nat_lit 36, ob36_2 P) :: (nat_lit 37, ob37_2 P) :: (nat_lit 38, ob38_2 P) :: (nat_lit 40, ob40_2 P) :: (nat_lit 41, ob41_2 P) :: (nat_lit 42, ob42_2 P) :: (nat_lit 43, ob43_2 P) :: (nat_lit 44, ob44_2 P) :: (nat_lit 45, ob45_2 P) :: (nat_lit 46, ob46_2 P) :: (nat_lit 47, ob47_2 P) :: (nat_lit 49, ob49_2 P) :: (nat_lit 50, ob50_2 P) :: (nat_lit 51, ob51_2 P) :: (nat_lit 52, ob52_2 P) :: (nat_lit 53, ob53_2 P) :: (nat_lit 54, ob54_2 P) :: (nat_lit 55, ob55_2 P) :: (nat_lit 56, ob56_2 P) :: (nat_lit 57, ob57_2 P) :: (nat_lit 59, ob59_2 P) :: (nat_lit 60, ob60_2 P) :: (nat_lit 61, ob61_2 P) :: (nat_lit 63, ob63_2 P) :: (nat_lit 64, ob64_2 P) :: (nat_lit 65, ob65_2 P) :: (nat_lit 66, ob66_2 P) :: (nat_lit 67, ob67_2 P) :: (nat_lit 68, ob68_2 P) :: (nat_lit 70, ob70_2 P) :: (nat_lit 71, ob71_2 P) :: (nat_lit 72, ob72_2 P) :: (nat_lit 73, ob73_2 P) :: (nat_lit 74, ob74_2 P) :: (nat_lit 75, ob75_2 P) :: (nat_lit 77, ob77_2 P) :: (nat_lit 78, ob78_2 P) :: (nat_lit 79, ob79_2 P) :: (nat_lit 80, ob80_2 P) :: (nat_lit 81, ob81_2 P) :: (nat_lit 82, ob82_2 P) :: (nat_lit 84, ob84_2 P) :: (nat_lit 85, ob85_2 P) :: (nat_lit 86, ob86_2 P) :: (nat_lit 87, ob87_2 P) :: (nat_lit 88, ob88_2 P) :: (nat_lit 89, ob89_2 P) :: (nat_lit 90, ob90_2 P) :: (nat_lit 91, ob91_2 P) :: (nat_lit 92, ob92_2 P) :: (nat_lit 93, ob93_2 P) :: (nat_lit 94, ob94_2 P) :: (nat_lit 95, ob95_2 P) :: (nat_lit 96, ob96_3 P) :: (nat_lit 97, ob97_3 P) :: (nat_lit 98, ob98_3 P) :: (nat_lit 99, ob99_3 P) :: (nat_lit 100, ob100_3 P) :: (nat_lit 101, ob101_3 P) :: (nat_lit 102, ob102_3 P) :: (nat_lit 103, ob103_3 P) :: (nat_lit 104, ob104_3 P) :: (nat_lit 105, ob105_3 P) :: (nat_lit 106, ob106_3 P) :: (nat_lit 107, ob107_4 P) :: (nat_lit 109, ob109_4 P) :: (nat_lit 110, ob110_4 P) :: (nat_lit 111, ob111_4 P) :: (nat_lit 112, ob112_4 P) :: (nat_lit 113, ob113_4 P) :: (nat_lit 114, ob114_5 P) :: (nat_lit 115, ob115_5 P) :: (nat_lit 116, ob116_5 P) :: (nat_lit 117, ob117_5 P) :: (nat_lit 118, ob118_5 P) :: (nat_lit 119, ob119_5 P) :: (nat_lit 120, ob120_5 P) :: (nat_lit 121, ob121_5 P) :: (nat_lit 122, ob122_5 P) :: (nat_lit 123, ob123_5 P) :: (nat_lit 124, ob124_5 P) :: (nat_lit 125, ob125_5 P) :: (nat_lit 126, ob126_5 P) :: (nat_lit 127, ob127_5 P) :: (nat_lit 128, ob128_5 P) :: (nat_lit 129, ob129_5 P) :: (nat_lit 130, ob130_5 P) :: (nat_lit 131, ob131_5 P) :: (nat_lit 132, ob132_5 P) :: (nat_lit 133, ob133_5 P) :: (nat_lit 134, ob134_5 P) :: (nat_lit 135, ob135_5 P) :: (nat_lit 136, ob136_5 P) :: (nat_lit 137, ob137_5 P) :: (nat_lit 138, ob138_5 P) :: (nat_lit 139, ob139_5 P) :: (nat_lit 140, ob140_5 P) :: (nat_lit 141, ob141_5 P) :: (nat_lit 142, ob142_5 P) :: (nat_lit 143, ob143_5 P) :: (nat_lit 144, ob144_5 P) :: (nat_lit 145, ob145_5 P) :: (nat_lit 146, ob146_5 P) :: (nat_lit 147, ob147_5 P) :: (nat_lit 148, ob148_5 P) :: (nat_lit 149, ob149_5 P) :: (nat_lit 150, ob150_5 P) :: (nat_lit 151, ob151_5 P) :: (nat_lit 152, ob152_5 P) :: (nat_lit 153, ob153_7 P) :: (nat_lit 155, ob155_7 P) :: (nat_lit 156, ob156_7 P) :: (nat_lit 157, ob157_7 P) :: (nat_lit 158, ob158_7 P) :: (nat_lit 159, ob159_7 P) :: (nat_lit 160, ob160_7 P) :: (nat_lit 162, ob162_7 P) :: (nat_lit 163, ob163_7 P) :: (nat_lit 164, ob164_7 P) :: (nat_lit 165, ob165_7 P) :: (nat_lit 167, ob167_7 P) :: (nat_lit 168, ob168_7 P) :: (nat_lit 169, ob169_7 P) :: (nat_lit 170, ob170_7 P) :: (nat_lit 171, ob171_7 P) :: (nat_lit 172, ob172_7 P) :: (nat_lit 174, ob174_7 P) :: (nat_lit 175, ob175_7 P) :: (nat_lit 176, ob176_7 P) :: (nat_lit 177, ob177_7 P) :: (nat_lit 178, ob178_7 P) :: (nat_lit 179, ob179_7 P) :: (nat_lit 181, ob181_7 P) :: (nat_lit 182, ob182_7 P) :: (nat_lit 183, ob183_7 P) :: (nat_lit 184, ob184_7 P) :: (nat_lit 185, ob185_7 P) :: (nat_lit 186, ob186_7 P) :: (nat_lit 188, ob188_7 P) :: (nat_lit 189, ob189_7 P) :: (nat_lit 190, ob190_7 P) :: (nat_lit 191, ob191_7 P) :: (nat_lit 193, ob193_7 P) :: (nat_lit 194, ob194_7 P) :: (nat_lit 195, ob195_7 P) :: (nat_lit 196, ob196_7 P) :: (nat_lit 197, ob197_7 P) :: (nat_lit 198, ob198_7 P) :: (nat_lit 200, ob200_7 P) :: (nat_lit 201, ob201_7 P) :: (nat_lit 202, ob202_7 P) :: []
def KFa : List Addr := [0, 1, 2, 3, 4, 5, 6, 7, 9, 10, 11, 13, 14, 15, 17, 18, 19, 20, 21, 22, 23, 24, 25, 27, 28, 29, 30, 31, 32, 33, 34, 35, 36, 37, 38, 40, 41, 42, 43, 44, 45, 46, 47, 49, 50, 51, 52, 53, 54, 55, 56, 57, 59, 60, 61, 63, 64, 65, 66, 67, 68, 70, 71, 72, 73, 74, 75, 77, 78, 79, 80, 81, 82, 84, 85, 86, 87, 88, 89, 90, 91, 92, 93, 94, 95, 96, 97, 98, 99, 100, 101, 102, 103, 104, 105, 106, 107, 109, 110, 111, 112, 113, 114, 115, 116, 117, 118, 119, 120, 121, 122, 123, 124, 125, 126, 127, 128, 129, 130, 131, 132, 133, 134, 135, 136, 137, 138, 139, 140, 141, 142, 143, 144, 145, 146, 147, 148, 149, 150, 151, 152, 153, 155, 156, 157, 158, 159, 160, 162, 163, 164, 165, 167, 168, 169, 170, 171, 172, 174, 175, 176, 177, 178, 179, 181, 182, 183, 184, 185, 186, 188, 189, 190, 191, 193, 194, 195, 196, 197, 198, 200, 201, 202]
end
-- in_table_b1, map_table_b3: what they look up
def b1 (P : Params) (x : Int) : Bool := match (ob103_3 P).data with | .set es _ _ => es.any fun e => Value.isInt x e.2 | _ => false
theorem set103 {w : World} (P : Params) {h : Heap} (ho : h.get? 103 = some (ob103_3 P)) : h.SetOf (intKind pw w) 103 (b1 P) 27 := by
  refine ⟨ob103_3 P, _, _, _, ho, ⟨rfl, rfl, rfl⟩, rfl, ?_, ?_, by decide, rfl, rfl⟩
  · intro e he
    have : ∀ e ∈ (match (ob103_3 P).data with | .set es _ _ => es.toList | _ => []), (∃ k t, e.2 = .int k t ∧ e.1 = hashInt k) := by
      simp only [ob103_3, List.forall_mem_cons]
      refine ⟨⟨_, _, rfl, by decide⟩, ⟨_, _, rfl, by decide⟩, ⟨_, _, rfl, by decide⟩, ⟨_, _, rfl, by decide⟩, ⟨_, _, rfl, by decide⟩, ⟨_, _, rfl, by decide⟩, ⟨_, _, rfl, by decide⟩, ⟨_, _, rfl, by decide⟩, ⟨_, _, rfl, by decide⟩, ⟨_, _, rfl, by decide⟩, ⟨_, _, rfl, by decide⟩, ⟨_, _, rfl, by decide⟩, ⟨_, _, rfl, by decide⟩, ⟨_, _, rfl, by decide⟩, ⟨_, _, rfl, by decide⟩, ⟨_, _, rfl, by decide⟩, ⟨_, _, rfl, by decide⟩, ⟨_, _, rfl, by decide⟩, ⟨_, _, rfl, by decide⟩, ⟨_, _, rfl, by decide⟩, ⟨_, _, rfl, by decide⟩, ⟨_, _, rfl, by decide⟩, ⟨_, _, rfl, by decide⟩, ⟨_, _, rfl, by decide⟩, ⟨_, _, rfl, by decide⟩, ⟨_, _, rfl, by decide⟩, ⟨_, _, rfl, by decide⟩, fun _ h => nomatch h⟩
    obtain ⟨k, t, e1, e2⟩ := this e he
    exact ⟨⟨k, by rw [e1]; simp [intKind, Value.isInt], e2⟩, by rw [e1]; rfl⟩
  · intro k
    show ((#[_, _, _, _, _, _, _, _, _, _, _, _, _, _, _, _, _, _, _, _, _, _, _, _, _, _, _] : Array (Int × Value)).any fun e => Value.isInt k e.2) = true ↔ _
    rw [Array.any_eq_true']
    constructor
    · rintro ⟨e, he, hk⟩; exact ⟨e, Array.mem_toList_iff.mpr he, hk⟩
    · rintro ⟨e, he, hk⟩; exact ⟨e, Array.mem_toList_iff.mp he, hk⟩
def tabP : List (Int × Str) := tabChunk 0 ++ tabMid.flatten ++ tabLast
def b3t (x : Int) : Option Str := tabP.lookup x
def b3 (x : Nat) : Str := (b3t x).getD (Txt.lower ⟨#[x]⟩)
inductive Corr : List DictEntry → List (Int × Str) → Prop
  | nil : Corr [] []
  | cons (t t' : Tok) {e : DictEntry} {x : Int × Str} {es : List DictEntry} {r : List (Int × Str)} : e.key = .int x.1 t → e.val = .str x.2 t' → e.hash = hashInt x.1 → Corr es r → Corr (e :: es) (x :: r)
theorem Corr.app {es es' : List DictEntry} {r r' : List (Int × Str)} (h : Corr es r) (h' : Corr es' r') : Corr (es ++ es') (r ++ r') := by
  induction h with
  | nil => exact h'
  | cons t t' e1 e2 e3 _ ih => exact .cons t t' e1 e2 e3 ih
theorem corr_rowsAt : ∀ (R : List (Int × Str)) (tk : Nat), Corr (rowsAt tk R) R
  | [], _ => .nil
  | _ :: r, tk => .cons _ _ rfl rfl rfl (corr_rowsAt r (tk + 3))
theorem corr_rowsS : ∀ (R : List (Int × Str)) (tk : Nat), Corr (rowsS tk R) R
  | [], _ => .nil
  | _ :: r, tk => .cons _ _ rfl rfl rfl (corr_rowsS r (tk + 2))
theorem Corr.keys {w : World} {es : List DictEntry} {R : List (Int × Str)} (h : Corr es R) : ∀ e ∈ es, ∃ k, (intKind pw w).is k e.key = true ∧ e.hash = (intKind pw w).hash k := by
  induction h with
  | nil => intro e he; cases he
  | cons t t' e1 e2 e3 _ ih =>
    intro e he
    rcases List.mem_cons.mp he with rfl | he
    · exact ⟨_, by rw [e1]; exact intKind_is _ _ _ _, e3⟩
    · exact ih e he
theorem Corr.find {es : List DictEntry} {R : List (Int × Str)} (h : Corr es R) (k : Int) : match R.lookup k with
    | some x => ∃ t, (es.find? fun e => Value.isInt k e.key).map (·.val) = some (.str x t)
    | none => (es.find? fun e => Value.isInt k e.key).map (·.val) = none := by
  induction h with
  | nil => rfl
  | @cons t t' e x es r e1 e2 e3 _ ih =>
    rw [List.find?_cons, List.lookup_cons]
    by_cases q : k = x.1
    · have z : Value.isInt k e.key = true := by rw [e1, q]; simp [Value.isInt]
      rw [z, beq_iff_eq.mpr q]; exact ⟨t', by simp [e2]⟩
    · have z : Value.isInt k e.key = false := by rw [e1]; simp [Value.isInt]; exact fun z => q z.symm
      rw [z, beq_eq_false_iff_ne.mpr q]; exact ih
theorem tab114 {w : World} {h : Heap} {P : Params} (ho : h.get? 114 = some (ob114_5 P)) : h.MapOf (intKind pw w) 114 (fun k => findBy Value.isInt tabE.toArray k) :=
  ⟨ob114_5 P, _, _, ho, ⟨rfl, rfl, rfl⟩, rfl, fun e he => Corr.keys ((corr_rowsAt _ _).app (corr_rowsS _ _)) e (Array.mem_def.mp he), fun k => rfl⟩
theorem tabFind (k : Int) : match b3t k with
    | some x => ∃ t, findBy Value.isInt tabE.toArray k = some (.str x t)
    | none => findBy Value.isInt tabE.toArray k = none := by
  have := Corr.find ((corr_rowsAt (tabChunk 0 ++ tabMid.flatten) tabTok).app (corr_rowsS tabLast (tabTok + 1938))) k
  simp only [findBy, List.find?_toArray]
  exact this
section
variable {w : World} {A : Around} {E : Value → Shared → Prop} {s : Shared} {h₀ : Heap} {L : Addr} {m : Str → Option Value} {P : Params} {Q : Value → Shared → Prop} {x : Int} {t : Tok}
theorem in_b1 (X₀ : Frag.In (KF P) h₀) (F : Fr h₀ L s.heap m) (h : Q (.bool (b1 P x)) { s with toks := s.toks + 1 }) : wpAny (model pw w) A (compareOp .In (.int x t) (.ref 103)) Q E s :=
  wpAny_inSet_of (knd := intKind pw w) (intKind_is _ _ _ _) rfl (set103 P (F.keep _ _ (X₀ 103 _ rfl))) h
theorem getm_b3 {pl : Sem Bool} {Q : Value × List Value → Shared → Prop} (X₀ : Frag.In (KF P) h₀) (F : Fr h₀ L s.heap m) (h : Q (.builtin "dict.get", [.ref 114]) s) : wpAny (model pw w) A (getMethod (.ref 114) "get" pl) Q E s :=
  getMethod_builtin ⟨_, F.keep _ _ (X₀ 114 _ rfl), rfl⟩ PySem.F.plainAttrs_dict PySem.F.slot_dict_get PySem.F.type_dict_get (tab114 (w := w) (F.keep _ _ (X₀ 114 _ rfl))).noDict h
theorem get_b3 (X₀ : Frag.In (KF P) h₀) (F : Fr h₀ L s.heap m) (h1 : ∀ y t', b3t x = some y → Q (.str y t') { s with toks := s.toks + 1 }) (h2 : b3t x = none → Q .none { s with toks := s.toks + 1 }) : wpAny (model pw w) A (call (.builtin "dict.get") [.ref 114, .int x t]) Q E s := by
  have M := tab114 (w := w) (F.keep _ _ (X₀ 114 _ rfl))
  refine call_meetsIn PySem.F.slot_dict_get ⟨_, F.keep _ _ (X₀ 114 _ rfl), rfl⟩ PySem.F.entry_dict_get (PySem.F.args_dict_get_2 _ _) (meets_dict_get (intKind pw w) 114 (intKind_is _ _ _ _) rfl) ⟨_, M, ?_⟩
  have := tabFind x
  cases q : b3t x with
  | some y => rw [q] at this; obtain ⟨t', e⟩ := this; rw [e]; exact h1 y t' q
  | none => rw [q] at this; rw [show findBy Value.isInt tabE.toArray x = none from this]; exact h2 q
end
theorem foldl_cps : ∀ (rest : List Str) (acc : Array Nat), (rest.foldl (fun acc p => acc ++ (Str.empty).cps ++ p.cps) acc).toList = acc.toList ++ rest.flatMap fun p => p.cps.toList
  | [], acc => by simp
  | p :: r, acc => by
    rw [List.foldl_cons, foldl_cps r]
    simp [Str.empty]
theorem join_cps (sep : Str) (hs : sep = .empty) : ∀ ys : List Str, (Txt.join sep ys).cps.toList = ys.flatMap fun p => p.cps.toList
  | [] => rfl
  | y :: r => by
    subst hs
    show ((r.foldl (fun acc p => acc ++ (Str.empty).cps ++ p.cps) y.cps)).toList = _
    rw [foldl_cps]; rfl
theorem tab_short : (tabP.all fun e => decide (e.2.length ≤ 8)) = true := by decide +kernel
theorem lookup_mem {α β : Type} [BEq α] [LawfulBEq α] {k : α} {v : β} : ∀ {l : List (α × β)}, l.lookup k = some v → (k, v) ∈ l
  | (a, b) :: r, h => by
    rw [List.lookup_cons] at h
    by_cases q : k = a
    · subst q; rw [beq_self_eq_true] at h; cases h; exact .head _
    · rw [beq_eq_false_iff_ne.mpr q] at h; exact .tail _ (lookup_mem h)
theorem b3_short (c : Nat) : (b3 c).length ≤ 8 := by
  unfold b3 b3t
  cases q : List.lookup (c : Int) tabP with
  | none => exact Nat.le_trans (len_lower _) (by show 3 * 1 ≤ 8; decide)
  | some y => exact of_decide_eq_true (List.all_eq_true.mp tab_short _ (lookup_mem q))
def prepL (P : Params) (cs : List Nat) : List Nat := cs.flatMap fun c : Nat => if b1 P c then [] else (b3 c).cps.toList
def prep (P : Params) (x : Str) : Str := ⟨(prepL P x.cps.toList).toArray⟩
theorem prepL_outs (P : Params) : ∀ cs : List Nat, (((cs.filter fun c : Nat => !b1 P c).map b3).flatMap fun p => p.cps.toList) = prepL P cs
  | [] => rfl
  | c :: r => by
    rw [List.filter_cons]
    cases q : b1 P c with
    | true => simpa [prepL, q] using prepL_outs P r
    | false => simpa [prepL, q] using prepL_outs P r
theorem outs_sum (keep : Nat → Bool) : ∀ cs : List Nat, (((cs.filter keep).map b3).map (·.length)).sum ≤ 8 * cs.length
  | [] => by simp
  | c :: r => by
    have := outs_sum keep r
    have h8 := b3_short c
    rw [List.filter_cons]
    cases keep c <;> simp at * <;> omega
theorem str_ext {x y : Str} (h : x.cps.toList = y.cps.toList) : x = y := by
  obtain ⟨⟨l⟩⟩ := x; obtain ⟨⟨k⟩⟩ := y; cases h; rfl
theorem prep_join (P : Params) (sep : Str) (hs : sep = .empty) (x : Str) : Txt.join sep ((x.cps.toList.filter fun c : Nat => !b1 P c).map b3) = prep P x := by
  apply str_ext
  rw [join_cps sep hs, prepL_outs]; rfl
theorem reg : (PySem.Challenge.rw_tr0055_02, KF) = (PySem.Challenge.rw_tr0055_02, KF) := by
  k_fill
  rfl
-- the contract of a def
abbrev Cl {α : Type} (prog : Program) (w : World) (K : Frag) (p : Program) (loose : List Str) (mean : ExcName → Option Value) (mg mb : Str → Option Value) (f : Addr) (d u : Nat) (news : List (Addr × Obj)) (vs : List Value) (P : α → Prop) (R : α → Value) (NW : α → List (Addr × Obj)) : Prop :=
  ∀ (dp un : Nat) (gd : Option (List Code)) (cn : Str) (cs : Scope) (a : Addr) (ccd : Value) (cl : List (Str × Addr)) (outer : List Env) (A₀ : Around) (base h₀ : Heap) (L : Addr) (m : Str → Option Value) (s : Shared) (Q E : Value → Shared → Prop),
    Below A₀ base outer h₀ → Fr h₀ L s.heap m → K.In h₀ → News h₀ L s.heap news → Top p loose mean mg mb h₀ → cs.kind = .function → dp + d < recursionLimit → un + u < cLine →
      (∀ (x : α) h' tk', P x → Fr h₀ L h' m → News h₀ L h' (NW x) → Q (R x) { s with heap := h', toks := tk' }) →
      wpAny (model prog w) (ktrTop dp un gd cn cs L a ccd cl outer) (call (.ref f) vs) Q E s
theorem wpAny_retok {α : Type} {M : Model} {A : Around} {c : Sem α} {Q : α → Shared → Prop} {E : Value → Shared → Prop} {s : Shared} {h : Heap} {tk : Nat} (x : ∀ tk, wpAny M A c Q E { s with heap := h, toks := tk }) : wpAny M A c Q E { s with heap := h, toks := tk } := x tk
theorem news_tl {h₀ h : Heap} {L : Addr} {news : List (Addr × Obj)} {p : Addr × Obj} (N : News h₀ L h (p :: news)) : News h₀ L h news := fun q hq => N q (.tail _ hq)
-- the same with a fact about the heap below
abbrev ClH {α : Type} (pre : Heap → Prop) (prog : Program) (w : World) (K : Frag) (p : Program) (loose : List Str) (mean : ExcName → Option Value) (mg mb : Str → Option Value) (f : Addr) (d u : Nat) (news : List (Addr × Obj)) (vs : List Value) (P : α → Prop) (R : α → Value) (NW : α → List (Addr × Obj)) : Prop :=
  ∀ (dp un : Nat) (gd : Option (List Code)) (cn : Str) (cs : Scope) (a : Addr) (ccd : Value) (cl : List (Str × Addr)) (outer : List Env) (A₀ : Around) (base h₀ : Heap) (L : Addr) (m : Str → Option Value) (s : Shared) (Q E : Value → Shared → Prop),
    Below A₀ base outer h₀ → Fr h₀ L s.heap m → K.In h₀ → News h₀ L s.heap news → Top p loose mean mg mb h₀ → cs.kind = .function → pre base → dp + d < recursionLimit → un + u < cLine →
      (∀ (x : α) h' tk', P x → Fr h₀ L h' m → News h₀ L h' (NW x) → Q (R x) { s with heap := h', toks := tk' }) →
      wpAny (model prog w) (ktrTop dp un gd cn cs L a ccd cl outer) (call (.ref f) vs) Q E s
abbrev ClC {α : Type} (prog : Program) (w : World) (K : Frag) (p : Program) (loose : List Str) (mean : ExcName → Option Value) (mg mb : Str → Option Value) (f : Addr) (d u : Nat) (news : List (Addr × Obj)) (vs : List Value) (P : α → Prop) (R : α → Value) (NW : α → List (Addr × Obj)) : Prop :=
  ∀ (dp un : Nat) (gd : Option (List Code)) (cn : Str) (cs : Scope) (a : Addr) (ccd : Value) (cl : List (Str × Addr)) (outer : List Env) (A₀ : Around) (base h₀ : Heap) (L : Addr) (m : Str → Option Value) (s : Shared) (Q E : Value → Shared → Prop),
    Below A₀ base outer h₀ → Fr h₀ L s.heap m → K.In h₀ → News h₀ L s.heap news → Top p loose mean mg mb h₀ → cs.kind = .function → dp + d < recursionLimit → un + u < cLine →
      (∀ (x : α) h' tk', P x → Fr h₀ L h' m → News h₀ L h' (NW x) → Q (R x) { s with heap := h', toks := tk' }) →
      codeAny (model prog w) (ktrTop dp un gd cn cs L a ccd cl outer) (.call (.ref f) ⟨vs, []⟩) (fun r s' => match r with | .ok (.ret v) => Q v s' | .ok _ => False | .error e => E e s') s
theorem ClC.cl {α : Type} {prog : Program} {w : World} {K : Frag} {p : Program} {loose : List Str} {mean : ExcName → Option Value} {mg mb : Str → Option Value} {f : Addr} {d u : Nat} {news : List (Addr × Obj)} {vs : List Value} {P : α → Prop} {R : α → Value} {NW : α → List (Addr × Obj)}
    (h : ClC prog w K p loose mean mg mb f d u news vs P R NW) : Cl prog w K p loose mean mg mb f d u news vs P R NW :=
  fun dp un gd cn cs a ccd cl outer A₀ base h₀ L m s Q E h1 h2 h3 h4 h5 h6 h7 h8 h9 => wpAny_call (h dp un gd cn cs a ccd cl outer A₀ base h₀ L m s Q E h1 h2 h3 h4 h5 h6 h7 h8 h9)
-- a list comprehension with one test over a text
section
open LCg LCt
variable {prog : Program} {w : World} {A : Around} {E : Value → Shared → Prop} {s : Shared} {h₀ : Heap} {L : Addr} {m : Str → Option Value} {env : Env}
theorem strit_st {I : Addr} {n : String} {x : Str} {t : Tok} {S : List (Addr × Obj) → Prop} : ∀ i (h h' : Heap) (o : Obj) (nw : List (Addr × Obj)), h.IsStrIter I n x t i → h.get? I = some o → h'.get? I = some o → (∀ b o, h₀.get? b = some o → h'.get? b = some o) → News h₀ L h' nw → S nw → h'.IsStrIter I n x t i :=
  fun i h h' o nw st e e' _ _ _ => by obtain ⟨o', q, r⟩ := st; rw [e] at q; cases q; exact ⟨o, e', r⟩
def SrcS (prog : Program) (w : World) (A : Around) (h₀ : Heap) (L : Addr) (m : Str → Option Value) (env : Env) (ct elt : Expr) (x : Str) (scope : Scope) (cl : List (Str × Addr)) (Q : Value → Shared → Prop) (xv : Value) (s₁ : Shared) : Prop :=
  ∃ y t news, xv = .str y t ∧ A.handled = none ∧ Fr h₀ L s₁.heap m ∧ News h₀ L s₁.heap news ∧ y.cps.size ≤ sizeLine ∧
      ∀ s₂ : Shared, (∃ h, s₂ = { s₁ with heap := h }) → CompRestT prog w A h₀ L m env ct elt x scope cl s₂ (fun _ => True) (SignAt y) (FinE h₀ L m s₂ Q) y.cps.size 0 [] news
theorem SrcS.intro {ct elt : Expr} {x : Str} {scope : Scope} {cl : List (Str × Addr)} {Q : Value → Shared → Prop} {y : Str} {t : Tok} {news : List (Addr × Obj)} (hh : A.handled = none) (F : Fr h₀ L s.heap m) (N : News h₀ L s.heap news) (hsz : y.cps.size ≤ sizeLine)
    (h : ∀ h, CompRestT prog w A h₀ L m env ct elt x scope cl { s with heap := h } (fun _ => True) (SignAt y) (FinE h₀ L m { s with heap := h } Q) y.cps.size 0 [] news) : SrcS prog w A h₀ L m env ct elt x scope cl Q (.str y t) s :=
  ⟨y, t, news, rfl, hh, F, N, hsz, fun _ ⟨h', e⟩ => e ▸ h h'⟩
theorem ListComp_str {ct elt iter : Expr} {x : Str} {px : Pos} {scope : Scope} {cl : List (Str × Addr)} {pos : Pos} {Q : Value → Shared → Prop} (F₀ : Fr h₀ L s.heap m)
    (hclos : closureFor scope env = pure cl) (hcell : ∀ y ∈ scope.names, y.2 ≠ .cell) (hkind : scope.kind = .function)
    (hnames : ∀ y ∈ scope.names, y.2 = .local → scope.names.lookup y.1 = some .local) (hx : scope.names.lookup x = some .local)
    (h : wpAny (model prog w) A (eval iter env) (SrcS prog w A h₀ L m env ct elt x scope cl Q) E s)
    (hs : ∀ x, foldedSetIterable iter env x = pure x := by intro _; rfl) :
    wpAny (model prog w) A (eval (.ListComp elt [⟨.Name x px, iter, [ct], 0⟩] scope pos) env) Q E s := by
  rw [eval_ListComp]
  refine wpAny_comprehension_free (use := none) rfl hs hclos hkind hnames (wpAny_mono h (fun xv s₁ h₁ => ?_) fun _ _ e => e)
  obtain ⟨y, t, news, rfl, hh, F, N, hsz, R⟩ := h₁
  cases ha : y.cps.all (· < 128)
  · refine wpAny_pyIter_wide ha ?_
    refine block_T (Walks.strWide hh _ y t) hsz (fun i h st => by obtain ⟨o, e, _⟩ := st; exact ⟨o, e⟩) (strit_st (S := fun _ => True)) hcell hkind hx ⟨_, Heap.get?_push_size _ rfl, rfl, rfl⟩ (fun b hb => ?_)
      (F.keeps fun _ _ e => Heap.get?_push_of_some _ e) (N.grown fun _ _ e => Heap.get?_push_of_some _ e) (Nat.ne_of_lt F.ns.lt) (next_is_new F) (fun p hp => Nat.ne_of_lt (Heap.lt_size (N p hp).1)) trivial (R _ ⟨_, rfl⟩) ?_
    · rw [List.mem_singleton.mp hb]
      show s₁.heap.objs.size < (s₁.heap.push _).objs.size
      rw [Heap.size_push]; exact Nat.lt_succ_self _
    · intro D C h tk m' ys news' F' N' o1 hn hC₀ hD₀ hCL hDL hCD offC fin
      refine ⟨m', hn, fun h'' hs'' => fin D h'' tk (F'.change hs'' hCL hC₀) (fun p hp => ?_) o1⟩
      refine ⟨hs''.extBut _ _ ?_ (N' p hp).1, (N' p hp).2⟩
      rcases List.mem_cons.mp hp with rfl | hp
      · exact Ne.symm hCD
      · exact offC p hp
  · refine wpAny_pyIter_ascii ha ?_
    refine block_T (Walks.strAscii hh _ y t) hsz (fun i h st => by obtain ⟨o, e, _⟩ := st; exact ⟨o, e⟩) (strit_st (S := fun _ => True)) hcell hkind hx ⟨_, Heap.get?_push_size _ rfl, rfl, rfl⟩ (fun b hb => ?_)
      (F.keeps fun _ _ e => Heap.get?_push_of_some _ e) (N.grown fun _ _ e => Heap.get?_push_of_some _ e) (Nat.ne_of_lt F.ns.lt) (next_is_new F) (fun p hp => Nat.ne_of_lt (Heap.lt_size (N p hp).1)) trivial (R _ ⟨_, rfl⟩) ?_
    · rw [List.mem_singleton.mp hb]
      show s₁.heap.objs.size < (s₁.heap.push _).objs.size
      rw [Heap.size_push]; exact Nat.lt_succ_self _
    · intro D C h tk m' ys news' F' N' o1 hn hC₀ hD₀ hCL hDL hCD offC fin
      refine ⟨m', hn, fun h'' hs'' => fin D h'' tk (F'.change hs'' hCL hC₀) (fun p hp => ?_) o1⟩
      refine ⟨hs''.extBut _ _ ?_ (N' p hp).1, (N' p hp).2⟩
      rcases List.mem_cons.mp hp with rfl | hp
      · exact Ne.symm hCD
      · exact offC p hp
def outs (keep : Nat → Bool) (g : Nat → Str) (cs : List Nat) : List Str := (cs.filter keep).map g
theorem strsAre_snoc {vs : List Value} {xs : List Str} (h : StrsAre vs xs) (y : Str) (t : Tok) : StrsAre (vs ++ [.str y t]) (xs ++ [y]) := by
  induction h with
  | nil => exact .cons _ _ .nil
  | cons z u _ ih => exact .cons _ _ ih
theorem compRest_str {ct elt : Expr} {x : Str} {scope : Scope} {cl : List (Str × Addr)} {y : Str} {news : List (Addr × Obj)} {Fin : List Value → List (Addr × Obj) → Prop} (keep : Nat → Bool) (g : Nat → Str)
    (turn : ∀ (c : Nat) (u : Tok) (ys : List Value) (I : Addr) (oI : Obj) (C : Addr) (oC : Obj) (D : Addr) (m₂ : Str → Option Value) (h : Heap) (tk : Nat) (E' : Value → Shared → Prop), NsObj oC m₂ → m₂ x = some (.str ⟨#[c]⟩ u) → Fr h₀ L h m → News h₀ L h ((I, oI) :: (C, oC) :: (D, lst ys) :: news) → Off3 I C D news → ((@Ne Nat I C) ∧ (@Ne Nat I D) ∧ (@Ne Nat C D)) →
      wpAny (model prog w) A (isTrue ct (compEnvC scope cl C env) (eval ct (compEnvC scope cl C env))) (fun ok s' => if ok = true then
        wpAny (model prog w) A (eval elt (compEnvC scope cl C env)) (fun v s₂ => keep c = true ∧ ∃ t' h' tk', v = .str (g c) t' ∧ s₂ = { s with heap := h', toks := tk' } ∧ Fr h₀ L h' m ∧ News h₀ L h' ((I, oI) :: (C, oC) :: (D, lst ys) :: news)) E' s'
        else keep c = false ∧ ∃ h' tk', s' = { s with heap := h', toks := tk' } ∧ Fr h₀ L h' m ∧ News h₀ L h' ((I, oI) :: (C, oC) :: (D, lst ys) :: news)) E' { s with heap := h, toks := tk }) :
    ∀ (k i : Nat) (ys : List Value) (xs : List Str), k + i = y.cps.size → StrsAre ys xs → (∀ ys', StrsAre ys' (xs ++ outs keep g (y.cps.toList.drop i)) → Fin ys' news) → CompRestT prog w A h₀ L m env ct elt x scope cl s (fun _ => True) (SignAt y) Fin k i ys news
  | 0, i, ys, xs, hk, hS, hF => CompRestT.zero (hF ys (by rw [List.drop_eq_nil_of_le (by rw [Array.length_toList]; omega)]; simpa [outs] using hS))
  | k + 1, i, ys, xs, hk, hS, hF => CompRestT.succ (by
    intro v I oI C oC D m₂ h tk E' hv hC hx F N off ne
    obtain ⟨c, u, hc, rfl⟩ := hv
    have hi : i < y.cps.size := by omega
    have hd : y.cps.toList.drop i = c :: y.cps.toList.drop (i + 1) := by
      rw [← Array.getElem?_toList] at hc
      obtain ⟨hl, e⟩ := List.getElem?_eq_some_iff.mp hc
      rw [List.drop_eq_getElem_cons hl, e]
    refine wpAny_mono (turn c u ys I oI C oC D m₂ h tk E' hC hx F N off ne) (fun ok s' ho => ?_) fun _ _ e => e
    cases ok with
    | true =>
      simp only [if_true] at ho ⊢
      refine wpAny_mono ho (fun v s₂ hv => ?_) fun _ _ e => e
      obtain ⟨hkp, t', h', tk', rfl, rfl, F', N'⟩ := hv
      refine CompEnd.intro F' N' news (fun p hp => hp) off trivial (compRest_str keep g turn k (i + 1) _ (xs ++ [g c]) (by omega) (strsAre_snoc hS _ _) fun ys' hy => hF ys' ?_)
      rw [hd]; simpa [outs, List.filter_cons, hkp] using hy
    | false =>
      simp only [Bool.false_eq_true, if_false] at ho ⊢
      obtain ⟨hkp, h', tk', rfl, F', N'⟩ := ho
      refine CompEnd.intro F' N' news (fun p hp => hp) off trivial (compRest_str keep g turn k (i + 1) _ xs (by omega) hS fun ys' hy => hF ys' ?_)
      rw [hd]; simpa [outs, List.filter_cons, hkp] using hy)
end
section
local macro_rules | `(tactic| walk_at "call builtin:ord") => `(tactic| (k_here; refine P.ord_of_char ?_))
local macro_rules | `(tactic| walk_at "compareOp In int ref") => `(tactic| (k_here; refine in_b1 (by assumption) (by assumption) ?_))
local macro_rules | `(tactic| walk_at "call builtin:dict.get") => `(tactic| (k_here; refine get_b3 (by assumption) (by assumption) ?h1 ?h2; (case' h1 => intro y9 t9 q9); (case' h2 => intro q9)))
local macro_rules | `(tactic| walk_at "getMethod ref") => `(tactic| (k_here; refine getm_b3 (by assumption) (by assumption) ?_))
local macro_rules | `(tactic| walk_at "call builtin:str.lower") => `(tactic| (k_here; (try dsimp only); refine SCL.lower (by show (1 : Nat) ≤ 5592405; decide) ?_; intro t9))
theorem c_in {p : Program} {w : World} {loose : List Str} {mean : ExcName → Option Value} {mg mb : Str → Option Value} (news : List (Addr × Obj)) (x : Nat) (t : Tok) :
   Cl pw w (KF w.params) p loose mean mg mb 113 1 8 news [.str ⟨#[x]⟩ t] (fun _ : Unit => True) (fun _ => .bool (b1 w.params x)) (fun _ => news) := by
  ((intro dp un gd cn cs a ccd cl outer A₀ base h₀ L m s Q E hB hF hX hN hT hK hdp hun hret; have hdp1 : dp + 1 < recursionLimit := (by omega); have hun1 : un + 8 < cLine := (by omega); refine wpAny_call ?_; k_dflt cell_enter))
  refine wpAny_retok fun tk9 => ?_
  k_steps
  all_goals exact hret () _ _ trivial (by assumption) (by assumption)
theorem c_mapS {x : Nat} {y : Str} {t : Tok} (e : b3t x = some y) : Value.str y t = .str (b3 x) t := by rw [b3, e]; rfl
theorem c_mapN {x : Nat} {t : Tok} (e : b3t x = none) : Value.str (Txt.lower ⟨#[x]⟩) t = .str (b3 x) t := by rw [b3, e]; rfl
theorem c_map {p : Program} {w : World} {loose : List Str} {mean : ExcName → Option Value} {mg mb : Str → Option Value} (news : List (Addr × Obj)) (x : Nat) (t : Tok) :
   Cl pw w (KF w.params) p loose mean mg mb 159 1 8 news [.str ⟨#[x]⟩ t] (fun _ : Tok => True) (fun t => .str (b3 x) t) (fun _ => news) := by
  ((intro dp un gd cn cs a ccd cl outer A₀ base h₀ L m s Q E hB hF hX hN hT hK hdp hun hret; have hdp1 : dp + 1 < recursionLimit := (by omega); have hun1 : un + 8 < cLine := (by omega); refine wpAny_call ?_; k_dflt cell_enter))
  refine wpAny_retok fun tk9 => ?_
  k_steps
  case' h1 => rw [c_mapS (by assumption)]; exact hret _ _ _ trivial (by assumption) (by assumption)
  all_goals (rw [c_mapN (by assumption)]; exact hret _ _ _ trivial (by assumption) (by assumption))
end
section
local macro_rules | `(tactic| walk_at "eval ListComp") => `(tactic| (k_here; lcg_calm; k_dflt (refine ListComp_str (F₀ := by k_asm) (by with_unfolding_all rfl) (by decide) (by rfl) (by decide) (by rfl) ?_)))
local macro_rules | `(tactic| walk_at "call ref") => `(tactic| (k_here; first | ((refine' (c_in _ _ _) _ _ _ _ _ _ _ _ _ _ _ _ _ _ _ _ _ ?k1 ?k2 ?k3 ?k4 ?k5 ?kK ?kd ?ku ?_; (case k1 => k_asm); (case k2 => k_asm); (case k3 => k_asm); (case k4 => k_asm); (case k5 => k_asm); (case kK => first | exact rfl | assumption); (case kd => ktr_room); (case ku => ktr_units); intro a9 h9 tk9 p9 F9 N9; (try dsimp only))) | ((refine' (c_map _ _ _) _ _ _ _ _ _ _ _ _ _ _ _ _ _ _ _ _ ?k1 ?k2 ?k3 ?k4 ?k5 ?kK ?kd ?ku ?_; (case k1 => k_asm); (case k2 => k_asm); (case k3 => k_asm); (case k4 => k_asm); (case k5 => k_asm); (case kK => first | exact rfl | assumption); (case kd => ktr_room); (case ku => ktr_units); intro a9 h9 tk9 p9 F9 N9; (try dsimp only)))))
theorem c_prep {p : Program} {w : World} {loose : List Str} {mean : ExcName → Option Value} {mg mb : Str → Option Value} (news : List (Addr × Obj)) (x : Str) (t : Tok) (hx : x.cps.size ≤ 100000) :
   Cl pw w (KF w.params) p loose mean mg mb 164 3 16 news [.str x t] (fun _ : Tok => True) (fun t => .str (prep w.params x) t) (fun _ => news) := by
  ((intro dp un gd cn cs a ccd cl outer A₀ base h₀ L m s Q E hB hF hX hN hT hK hdp hun hret; have hdp1 : dp + 1 < recursionLimit := (by omega); have hun1 : un + 8 < cLine := (by omega); refine wpAny_call ?_; k_dflt cell_enter))
  refine wpAny_retok fun tk9 => ?_
  k_steps
  refine SrcS.intro (by rfl) (by k_asm) (by k_asm) (by size_fits) fun h5 => ?_
  refine compRest_str (fun c : Nat => !b1 w.params c) b3 ?turn _ 0 [] [] rfl .nil ?fin
  case turn =>
    intro c u ys I oI C oC D m₂ h tk E' hC hm₂ F5 N5 off ne
    k_steps
    all_goals first | assumption | simp_all
  case fin =>
    intro ys hys D h tk F6 N6 O6
    k_steps
    refine join_list (News.isList N6 (.head _)) hys (by
      have e := outs_sum (fun c : Nat => !b1 w.params c) x.cps.toList
      have e' : x.cps.toList.length = x.cps.size := Array.length_toList
      show ((([] : List Str) ++ ((x.cps.toList.drop 0).filter _).map b3).map _).sum + _ * 0 ≤ _
      rw [List.nil_append, List.drop_zero]
      exact Nat.le_trans e (by omega)) fun t' k => ?_
    rw [show Txt.join (Str.ofString "") ([] ++ outs (fun c : Nat => !b1 w.params c) b3 (x.cps.toList.drop 0)) = prep w.params x from prep_join _ _ (by decide) _]
    k_steps
    (exact hret _ _ _ trivial (by k_asm) (by (first | k_asm | exact news_tl (by assumption) | exact news_tl (news_tl (by assumption)) | exact news_tl (news_tl (news_tl (by assumption))))))
end
-- an attribute of a function: stored, read
section
open Builtin Builtin.ObjectAttr
variable {prog : Program} {w : World} {A : Around} {E : Value → Shared → Prop} {s : Shared}
theorem slot_fn_setattr : Slot "function" "__setattr__" "object.__setattr__" :=
  .of (owner := "object") (n := "__setattr__") (by rw [typeLookup_type, builtinLookup_eq_fast]; kernel_rfl) (by decide +kernel) (by decide +kernel) (by decide +kernel)
    (by first | exact .inl (by decide +kernel) | exact .inr (by decide +kernel)) (by rw [isSubtype_type]; kernel_rfl)
def dict0 : Obj := { cls := .type "dict", data := .dict #[] }
def putRead (w : World) (name : Str) (tk : Tok) (v : Value) : Obj → Obj := Obj.putName name (PyData.keyHash w.params name) (.str name tk) v
def dictR (w : World) (name : Str) (tk : Tok) (v : Value) : Obj := { cls := .type "dict", data := .dict #[⟨PyData.keyHash w.params name, .str name tk, v⟩] 1 }
theorem putRead_eq (w : World) (name : Str) (tk : Tok) (v : Value) : putRead w name tk v dict0 = dictR w name tk v := rfl
theorem refuse_fn (self : Value) : refuseLoop self "__setattr__" [.type "function", .type "object"] = pure () := by
  kernel_rfl
theorem mro_fn : mroOf (.type "function") = pure [.type "function", .type "object"] := by kernel_rfl
theorem hasDict_fn : typeHasDict (.type "function") = true := by decide +kernel
theorem noread_fn : typeLookup (.type "function") (Str.ofString "read") = pure none := by rw [typeLookup_type, builtinLookup_eq_fast]; kernel_rfl
theorem fn_setattr {f : Addr} {of : Obj} {fd : FuncData} {name : Str} {v : Value} {Q : Unit → Shared → Prop} (hf : s.heap.get? f = some of) (hc : of.cls = .type "function") (hd : of.dict = none) (hdat : of.data = .func fd) (hn : typeLookup (.type "function") name = pure none)
    (h : ∀ tk tk', Q () { s with heap := ((s.heap.push dict0).update f (fun o => { o with dict := some s.heap.objs.size })).update s.heap.objs.size (putRead w name tk' v), toks := tk }) :
    wpAny (model prog w) A (setAttr (.ref f) name v) Q E s := by
  have hT : ∀ (t : Nat), ({ s with toks := t } : Shared).TypeIs (.ref f) "function" := fun t => ⟨of, hf, hc⟩
  unfold setAttr
  refine wpAny_bind (wpAny_mkText ?_)
  refine wpAny_bind (wpAny_callSpecial?_slot (hT _) slot_fn_setattr (wpAny_call_entry slot_fn_setattr (hT _) PySem.F.store_object.entry ?_ (PySem.F.store_object.args _ _ _)))
  rw [osa_eq, refuse_eq]
  refine wpAny_bind (wpAny_bind (wpAny_typeOf (hT _) ?_))
  rw [mro_fn]
  refine wpAny_bind (wpAny_pure ?_)
  rw [refuse_fn]
  refine wpAny_pure (wpAny_bind (wpAny_typeOf (hT _) (wpAny_bind ?_)))
  rw [hn]
  refine wpAny_pure (wpAny_bind (wpAny_pure (a := none) ?_))
  show wpAny _ _ (storeInOwnDict (.ref f) (.type "function") (.str name _) name v false) _ _ _
  unfold storeInOwnDict
  refine wpAny_bind (wpAny_pure ?_)
  have e1 : ((Value.type "function") == (.type "module")) = false := by decide
  rw [e1]
  simp only [Bool.false_eq_true, if_false]
  unfold ownDictForStores instanceDict
  refine wpAny_bind (wpAny_bind (wpAny_loadPart hf ?_))
  obtain ⟨oc, od, oda, osl⟩ := of
  dsimp only at hc hd hdat
  subst hc hd hdat
  dsimp only
  rw [hasDict_fn]
  simp only [Bool.not_true, Bool.or_self, Bool.false_eq_true, if_false]
  refine wpAny_bind (wpAny_alloc ?_)
  have hf1 : (s.heap.push dict0).get? f = some { cls := .type "function", dict := none, data := .func fd, slots := osl } := Heap.get?_push_of_some _ hf
  refine wpAny_bind (wpAny_update hf1 ?_)
  have hne : f ≠ s.heap.objs.size := Nat.ne_of_lt (Heap.lt_size hf)
  have e2 : finalisedInACycleAlone "function" = false := by decide
  unfold dictMade
  simp only [e2, Bool.false_eq_true, if_false]
  refine wpAny_bind (wpAny_pure (wpAny_pure (a := some s.heap.objs.size) ?_))
  dsimp only
  have D : ((s.heap.push dict0).update f fun o => { o with dict := some s.heap.objs.size }).get? s.heap.objs.size = some dict0 :=
    (Heap.get?_update_ne _ _ _ _ (Ne.symm hne)).trans (Heap.get?_push_size _ rfl)
  unfold storeInDict newKeyGuard nsSet
  refine wpAny_bind (wpAny_pure (wpAny_bind ?_))
  refine wpAny_bind (wpAny_bind (wpAny_askSetting (wpAny_pure (wpAny_bind (wpAny_mkText (wpAny_bind (wpAny_loadPart D ?_)))))))
  have e3 : aRefKeyMayBeTheName name #[] = false := by rw [aRefKeyMayBeTheName_at]; simp
  rw [show dict0.data = .dict #[] from rfl]
  dsimp only
  rw [e3]
  refine wpAny_updatePart D ?_
  have D' : ∀ tk, _ := fun tk => Heap.get?_update_self (putRead w name tk v) D rfl
  refine wpAny_bind (wpAny_lookBehind (D' _) (pastItsLine_dict (by rw [sizeLine_eq]; show 1 ≤ _; decide)) ?_)
  exact wpAny_pure ⟨_, rfl, wpAny_pure (h _ _)⟩
theorem fn_setattr_K {h₀ : Heap} {L f : Addr} {of : Obj} {fd : FuncData} {m : Str → Option Value} {news : List (Addr × Obj)} {g : Obj → List (Addr × Obj)} {name : Str} {v : Value} {Q : Unit → Shared → Prop} (F : Fr h₀ L s.heap m) (N : News h₀ L s.heap news)
    (U : UpdF f of news g) (hc : of.cls = .type "function") (hd : of.dict = none) (hdat : of.data = .func fd) (hn : typeLookup (.type "function") name = pure none)
    (h : ∀ D h' tk tk', Fr h₀ L h' m → News h₀ L h' ((D, dictR w name tk' v) :: g { of with dict := some D }) → (∀ p ∈ news, p.1 < D) → Q () { s with heap := h', toks := tk }) :
    wpAny (model prog w) A (setAttr (.ref f) name v) Q E s := by
  obtain ⟨pre, post, rfl, hg, h1, h2⟩ := U.split
  have hf := (N (f, of) (by simp)).1
  refine fn_setattr hf hc hd hdat hn fun tk tk' => ?_
  have N1 := N.push F dict0
  have F1 := F.push dict0
  have hlt : ∀ p ∈ pre ++ (f, of) :: post, p.1 < s.heap.objs.size := fun p hp => Heap.lt_size (N p hp).1
  have hne : s.heap.objs.size ≠ f := Nat.ne_of_gt (Heap.lt_size hf)
  obtain ⟨F2, N2⟩ := news_upd (pre := (s.heap.objs.size, dict0) :: pre) (post := post) (f := fun o : Obj => { o with dict := some s.heap.objs.size }) F1 N1 (fun p hp => by
    rcases List.mem_cons.mp hp with rfl | hp
    · exact hne
    · exact h1 p hp) h2 rfl (by obtain ⟨a, b, c, d⟩ := of; cases hdat; rfl)
  obtain ⟨F3, N3⟩ := news_upd (pre := []) (post := pre ++ (f, { of with dict := some s.heap.objs.size }) :: post) (f := putRead w name tk' v) F2 N2 (fun p hp => nomatch hp) (fun p hp => by
    rcases List.mem_append.mp hp with hp | hp
    · exact Nat.ne_of_lt (hlt p (List.mem_append_left _ hp))
    · rcases List.mem_cons.mp hp with rfl | hp
      · exact Ne.symm hne
      · exact Nat.ne_of_lt (hlt p (List.mem_append_right _ (.tail _ hp)))) (putRead_eq w name tk' v) rfl
  exact h s.heap.objs.size _ tk tk' F3 (by rw [hg]; exact N3) hlt
end
section
open Builtin Builtin.ObjectAttr
theorem slot_fn_ga : Slot "function" "__getattribute__" "object.__getattribute__" :=
  .of (owner := "object") (n := "__getattribute__") (by rw [typeLookup_type, builtinLookup_eq_fast]; kernel_rfl) (by decide +kernel) (by decide +kernel) (by decide +kernel)
    (by first | exact .inl (by decide +kernel) | exact .inr (by decide +kernel)) (by rw [isSubtype_type]; kernel_rfl)
theorem fn_noGetattr : typeLookup (.type "function") "__getattr__" = pure none := by rw [typeLookup_type, builtinLookup_eq_fast]; kernel_rfl
theorem entry_object_ga : entryFor table "object.__getattribute__" = some Builtin.«object.__getattribute__» := entryFor_of_tree (by kernel_rfl)
theorem args_object_ga (a b : Value) : argsOk "object.__getattribute__" ⟨[a, b], []⟩ := by unfold argsOk; kernel_rfl
variable {prog : Program} {w : World} {A : Around} {E : Value → Shared → Prop} {s : Shared}
theorem fn_ownread {f D : Addr} {fd : FuncData} {osl : Array (Option Value)} {v : Value} {tk u : Tok} {Q : Fin → Shared → Prop}
    (hf : s.heap.get? f = some { cls := .type "function", dict := some D, data := .func fd, slots := osl }) (hD : s.heap.get? D = some (dictR w (Str.ofString "read") tk v)) (hv : handedOut v = pure v)
    (h : Q (.done (.ret v)) s) : wpAny (model prog w) A (Builtin.«object.__getattribute__» ⟨[.ref f, .str (Str.ofString "read") u], []⟩) Q E s := by
  have hT : s.TypeIs (.ref f) "function" := ⟨_, hf, rfl⟩
  have f1 := noread_fn
  unfold Builtin.«object.__getattribute__»
  repeat (any_goals (first | assumption | wp_step))
theorem fn_getread {f D : Addr} {fd : FuncData} {osl : Array (Option Value)} {v : Value} {tk : Tok} {pl : Sem Bool} {Q : Value × List Value → Shared → Prop}
    (hf : s.heap.get? f = some { cls := .type "function", dict := some D, data := .func fd, slots := osl }) (hD : s.heap.get? D = some (dictR w (Str.ofString "read") tk v)) (hv : handedOut v = pure v)
    (h : ∀ tk, Q (v, []) { s with toks := tk }) : wpAny (model prog w) A (getMethod (.ref f) (Str.ofString "read") pl) Q E s := by
  have hT : ∀ t : Nat, ({ s with toks := t } : Shared).TypeIs (.ref f) "function" := fun t => ⟨_, hf, rfl⟩
  have f1 := noread_fn
  have f2 := fn_noGetattr
  have f3 := slot_fn_ga.lookup
  have f4 := slot_fn_ga.bind (.ref f)
  unfold getMethod
  refine wpAny_bind (wpAny_specialOf (hT _) slot_fn_ga.lookup ?_)
  show wpAny _ A (if (Manifest.canonical "object.__getattribute__" != "object.__getattribute__") = true then _ else _) Q E s
  rw [show (Manifest.canonical "object.__getattribute__" != "object.__getattribute__") = false by decide +kernel, if_neg Bool.false_ne_true]
  refine wpAny_bind (wpAny_specialOf (hT _) f2 ?_)
  refine wpAny_bind (wpAny_specialOf (hT _) f1 ?_)
  refine wpAny_bind ?_
  unfold getAttr
  refine wpAny_bind (wpAny_mkText ?_)
  unfold getAttrBy
  repeat (any_goals (first | assumption | exact hT _ | ((with_reducible show wpAny _ _ (call (Value.builtin "object.__getattribute__") _ _) _ _ _); refine wpAny_call_entry slot_fn_ga (hT _) entry_object_ga (fn_ownread (s := { s with toks := _ }) hf hD hv ⟨_, rfl, ?_⟩) (args_object_ga _ _)) | wp_step))
  exact h _
end
-- iter(f, sentinel): made; its next
section
open Builtin Builtin.SmallTypes
variable {prog : Program} {w : World} {A : Around} {E : Value → Shared → Prop} {s : Shared}
abbrev ciObj (f se : Value) : Obj := { cls := .type "callable_iterator", data := .fields #[f, se, .bool false] }
theorem slot_ci_next : Slot "callable_iterator" "__next__" "callable_iterator.__next__" :=
  .of (owner := "callable_iterator") (n := "__next__") (by rw [typeLookup_type, builtinLookup_eq_fast]; kernel_rfl) (by decide +kernel) (by decide +kernel) (by decide +kernel)
    (by first | exact .inl (by decide +kernel) | exact .inr (by decide +kernel)) (by rw [isSubtype_type]; kernel_rfl)
theorem entry_ci_next : entryFor table "callable_iterator.__next__" = some Builtin.«callable_iterator.__next__» := entryFor_of_tree (by kernel_rfl)
theorem args_ci_next (a : Value) : argsOk "callable_iterator.__next__" ⟨[a], []⟩ := by unfold argsOk; kernel_rfl
theorem slot_ci_iter : Slot "callable_iterator" "__iter__" "callable_iterator.__iter__" :=
  .of (owner := "callable_iterator") (n := "__iter__") (by rw [typeLookup_type, builtinLookup_eq_fast]; kernel_rfl) (by decide +kernel) (by decide +kernel) (by decide +kernel)
    (by first | exact .inl (by decide +kernel) | exact .inr (by decide +kernel)) (by rw [isSubtype_type]; kernel_rfl)
theorem entry_ci_iter : entryFor table "callable_iterator.__iter__" = some Builtin.«dict_keyiterator.__iter__» :=
  entryFor_alias (id' := "dict_keyiterator.__iter__") (by kernel_rfl) rfl (by decide +kernel) (by kernel_rfl)
theorem args_ci_iter (a : Value) : argsOk "callable_iterator.__iter__" ⟨[a], []⟩ := by unfold argsOk; kernel_rfl
theorem ci_iter {I : Addr} {f se : Value} {Q : Value → Shared → Prop} (hI : s.heap.get? I = some (ciObj f se)) (h : Q (.ref I) s) : wpAny (model prog w) A (pyIter (.ref I)) Q E s := by
  have hT : s.TypeIs (.ref I) "callable_iterator" := ⟨_, hI, rfl⟩
  refine wpAny_pyIter_slot hT slot_ci_iter (wpAny_call_entry slot_ci_iter hT entry_ci_iter ?_ (args_ci_iter _))
  show wpAny _ _ (ret (.ref I)) _ _ s
  exact wpAny_pure ⟨_, rfl, "callable_iterator", _, hT, slot_ci_next.lookup, h⟩
theorem borrows_meth {B fa : Addr} {x : Value} {o : Obj} {fd : FuncData} {Q : Bool → Shared → Prop} (hB : s.heap.get? B = some (methodObj (.ref fa) x)) (hf : s.heap.get? fa = some o) (hd : o.data = .func fd) (h : Q true s) : wpAny (model prog w) A (borrowsExactly (.ref B)) Q E s := by
  unfold borrowsExactly
  refine wpAny_bind (wpAny_load hB ?_)
  dsimp only
  rw [if_pos (by decide)]
  show wpAny _ _ (load fa >>= _) _ _ _
  refine wpAny_bind (wpAny_load hf ?_)
  rw [hd]
  exact wpAny_pure h
theorem wpAny_callBorrowed {f : Value} {pos : List Value} {Q : Value → Shared → Prop} (hc : codeAny (model prog w) A (.call f ⟨pos, []⟩) (fun r s' => match r with | .ok (.ret v) => Q v s' | .ok _ => False | .error e => E e s') s) : wpAny (model prog w) A (callBorrowed f pos) Q E s := fun Γ p hΓ => by
  unfold callBorrowed
  rw [Sem.wp_call]
  have := hc _ p rfl (hΓ.enter (.call f ⟨pos, []⟩) none p (by intro x; cases x))
  refine Eq.mp (congrArg (fun R => wpCode _ _ R _ _) ?_) this
  funext r s'
  cases r with
  | error e => rfl
  | ok f => cases f <;> rfl
abbrev ciEnd : Obj := { cls := .type "callable_iterator", data := .fields #[.none, .none, .bool true] }
theorem ci_stop {α : Type} {Q : Option Value → Shared → Prop} (hh : A.handled = none) {s₁ : Shared}
    (hQ : ∀ h', (∀ b o, s₁.heap.get? b = some o → h'.get? b = some o) → Q none { s₁ with heap := h' }) {Q' : α → Shared → Prop} :
    wpAny (model prog w) A.in1 (stopIteration : Sem α) Q' (fun e s' => wpAny (model prog w) A (do if ← isInstance e (.type "StopIteration") then pure none else throw e) Q E s') s₁ := by
  unfold stopIteration
  show wpAny _ _ (newExc (.type "StopIteration") [] >>= _) _ _ _
  refine wpAny_bind ?_
  simp only [newExc, newTuple]
  refine wpAny_bind (wpAny_newObj_type ?_ (by size_fits))
  refine wpAny_bind (m := firstArgMember _ _) (wpAny_of_eq (a := Value.none) (by first | rfl | (simp only [firstArgMember]; rfl)) ?_)
  refine wpAny_newObj_type ?_ (by size_fits)
  simp only [raiseNew]
  refine wpAny_bind (wpAny_handled ?_)
  rw [show A.in1.handled = none from hh]
  refine wpAny_bind (wpAny_pure (wpAny_throw ?_))
  refine wpAny_bind (wpAny_isInstance (T := "StopIteration") (b := true) ⟨_, Heap.get?_push_size _ rfl, rfl⟩ isSubtype_stop ?_)
  exact wpAny_pure (hQ _ fun b o e => Heap.get?_push_of_some _ (Heap.get?_push_of_some _ e))
theorem ci_next_ended {I : Addr} {Q : Option Value → Shared → Prop} (hh : A.handled = none) (hI : s.heap.get? I = some ciEnd)
    (hQ : ∀ h', (∀ b o, s.heap.get? b = some o → h'.get? b = some o) → Q none { s with heap := h' }) : wpAny (model prog w) A (pyNext (.ref I)) Q E s := by
  have hT : s.TypeIs (.ref I) "callable_iterator" := ⟨_, hI, rfl⟩
  unfold pyNext
  refine wpAny_bind (wpAny_attempt (wpAny_callSpecial?_slot (name := Str.ofString "__next__") hT slot_ci_next (wpAny_call_entry slot_ci_next hT entry_ci_next ?_ (args_ci_next _))))
  show wpAny _ _ (field (.ref I) 2 >>= _) _ _ s
  refine wpAny_bind (wpAny_field hI rfl (x := .bool true) rfl ?_)
  rw [if_pos (by decide)]
  refine wpAny_bind (wpAny_rule (wpAny_bind ?_))
  exact ci_stop hh hQ
theorem ci_next {I B fa : Addr} {x : Value} {fd : FuncData} {o : Obj} {se : Str} {st : Tok} {Q : Option Value → Shared → Prop} (hh : A.handled = none) (hI : s.heap.get? I = some (ciObj (.ref B) (.str se st)))
    (hB : s.heap.get? B = some (methodObj (.ref fa) x)) (hf : s.heap.get? fa = some o) (hd : o.data = .func fd)
    (hc : codeAny (model prog w) A.in1 (.call (.ref B) ⟨[], []⟩) (fun r s₁ => match r with
      | .ok (.ret v) => ∃ y t, v = .str y t ∧ s₁.heap.get? I = some (ciObj (.ref B) (.str se st)) ∧ s₁.heap.get? B = some (methodObj (.ref fa) x) ∧ s₁.heap.get? fa = some o ∧
          (if se = y then ∀ h', h'.get? I = some ciEnd → (∀ b o, b ≠ I → s₁.heap.get? b = some o → h'.get? b = some o) → Q none { s₁ with heap := h' } else Q (some v) s₁)
      | _ => False) s) : wpAny (model prog w) A (pyNext (.ref I)) Q E s := by
  have hT : s.TypeIs (.ref I) "callable_iterator" := ⟨_, hI, rfl⟩
  unfold pyNext
  refine wpAny_bind (wpAny_attempt (wpAny_callSpecial?_slot (name := Str.ofString "__next__") hT slot_ci_next (wpAny_call_entry slot_ci_next hT entry_ci_next ?_ (args_ci_next _))))
  show wpAny _ _ (field (.ref I) 2 >>= _) _ _ s
  refine wpAny_bind (wpAny_field hI rfl (x := .bool false) rfl ?_)
  rw [if_neg (by decide)]
  refine wpAny_bind (wpAny_field hI rfl (x := .ref B) rfl (wpAny_bind (wpAny_attempt ?_)))
  unfold callOutOfASlot
  refine wpAny_bind (borrows_meth hB hf hd ?_)
  rw [if_pos rfl]
  refine wpAny_callBorrowed (codeAny_mono hc fun r s₁ hr => ?_)
  cases r with
  | error e => exact hr.elim
  | ok fl =>
    cases fl with
    | ret v =>
      obtain ⟨y, t, rfl, hI1, hB1, hf1, hq⟩ := hr
      dsimp only
      refine wpAny_bind (wpAny_field hI1 rfl (x := .bool false) rfl ?_)
      rw [if_neg (by decide)]
      refine wpAny_bind (wpAny_field hI1 rfl (x := .str se st) rfl ?_)
      refine wpAny_bind (wpAny_holding (wpAny_eqBool_str ?_))
      by_cases e : se = y
      · rw [if_pos e] at hq
        rw [decide_eq_true e]
        refine wpAny_bind (wpAny_rule (wpAny_bind ?_))
        show wpAny _ _ (field (.ref I) 0 >>= _) _ _ _
        refine wpAny_bind (wpAny_field hI1 rfl (x := .ref B) rfl ?_)
        refine wpAny_bind ?_
        show wpAny _ _ (borrowsExactly (.ref B) >>= _) _ _ _
        refine wpAny_bind (borrows_meth hB1 hf1 hd ?_)
        refine wpAny_pure ?_
        refine wpAny_bind (wpAny_setField_rec hI1 (by simp) fun h1 e1 k1 => ?_)
        refine wpAny_bind (wpAny_setField_rec e1 (by simp) fun h2 e2 k2 => ?_)
        refine wpAny_setField_rec e2 (by simp) fun h3 e3 k3 => ?_
        exact ci_stop (s₁ := { s₁ with heap := h3 }) hh fun h4 hk4 => hq h4 (hk4 _ _ e3) fun b o hb eb => hk4 _ _ (k3.extBut b o hb (k2.extBut b o hb (k1.extBut b o hb eb)))
      · rw [if_neg e] at hq
        rw [decide_eq_false e]
        exact wpAny_bind (wpAny_pure (wpAny_pure ⟨_, rfl, wpAny_pure hq⟩))
    | _ => exact hr.elim
end
-- a list of texts against the empty list; the last of a list
section
open PyProof.V PySem.Spec
theorem cs_canLayAll0 : ∀ ns : List Str, (∀ y ∈ ns, PyData.strOk y = true) → PyData.canLayAll0 (ns.map PyData.str) = true
  | [], _ => rfl
  | y :: r, h => by simp [PyData.canLayAll0, PyData.canLay0, cs_canLayAll0 r fun z hz => h z (.tail _ hz), h y (.head _)]
theorem cs_depthAll : ∀ ns : List Str, PyData.depthAll (ns.map PyData.str) = 0
  | [] => rfl
  | _ :: r => by simp [PyData.depthAll, PyData.depth, cs_depthAll r]
theorem cs_shaped (ns : List Str) (h : ∀ y ∈ ns, PyData.strOk y = true) : SeqAt.shaped (.list (ns.map PyData.str)) = true := by
  simp [SeqAt.shaped, PyData.canLay0, PyData.depth, cs_canLayAll0 ns h, cs_depthAll]
theorem cs_sameAll : ∀ ns ms : List Str, PySem.Spec.sameAll (ns.map PyData.str) (ms.map PyData.str) = decide (ns = ms)
  | [], [] => by simp [PySem.Spec.sameAll]
  | [], _ :: _ => by simp [PySem.Spec.sameAll]
  | _ :: _, [] => by simp [PySem.Spec.sameAll]
  | a :: r, b :: t => by
    simp only [List.map_cons, PySem.Spec.sameAll, PySem.Spec.same, cs_sameAll r t]
    by_cases h : a = b <;> by_cases h' : r = t <;> simp [h, h']
theorem cs_same (ns ms : List Str) : PySem.Spec.same (.list (ns.map PyData.str)) (.list (ms.map PyData.str)) = decide (ns = ms) := by
  simp only [PySem.Spec.same]; exact cs_sameAll ns ms
theorem cs_carried : ∀ {vs : List Value} {ns : List Str}, StrsAre vs ns → CarriedAll vs (ns.map PyData.str)
  | _, _, .nil => .nil
  | _, _, .cons _ t r => .cons (.str _ t) (cs_carried r)
variable {prog : Program} {w : World} {A : Around} {E : Value → Shared → Prop} {s : Shared} {a b : Addr} {xs ys : List Value} {ns ms : List Str} {Q : Value → Shared → Prop}
theorem cs_ne (ha : s.heap.IsList a xs.toArray) (hb : s.heap.IsList b ys.toArray) (hi : StrsAre xs ns) (hj : StrsAre ys ms) (ho : ∀ y ∈ ns, PyData.strOk y = true) (ho' : ∀ y ∈ ms, PyData.strOk y = true) (hu : A.units + 64 < cLine) (h : Q (.bool (!decide (ns = ms))) s) :
    wpAny (model prog w) A (compareOp .NotEq (.ref a) (.ref b)) Q E s :=
  ne_dataH_same (reads_newData ha (cs_carried hi)) (reads_newData hb (cs_carried hj)) (cs_shaped _ ho) (cs_shaped _ ho') hu (SeqAt.noMix_of_shape (.list .str) rfl _ _ (list_map_has fun _ => rfl) (list_map_has fun _ => rfl)) (by rw [cs_same]; exact h)
end
section
variable {prog : Program} {w : World} {A : Around} {E : Value → Shared → Prop} {s : Shared} {h₀ : Heap} {L : Addr} {m : Str → Option Value} {news : List (Addr × Obj)} {Q : Value → Shared → Prop}
theorem list_str_K {x : Str} {t : Tok} (hh : A.handled = none) (F : Fr h₀ L s.heap m) (N : News h₀ L s.heap news) (hsz : x.length ≤ sizeLine)
    (h : ∀ S h' tk ys c, Fr h₀ L h' m → News h₀ L h' ((S, listOf ys.toArray c) :: news) → StrsAre ys (signs x) → (∀ p ∈ news, p.1 < S) → Q (.ref S) { s with heap := h', toks := tk }) :
    wpAny (model prog w) A (call (.type "list") [.str x t]) Q E s := by
  refine list_strD hh F N (fun h' tk ys F' N' hk hfr _ hp hc => ?_) hsz
  obtain ⟨⟨c, e⟩, _⟩ := hp
  have hL : s.heap.objs.size ≠ L := by
    obtain ⟨oL, _, _, hL, _⟩ := F.ns
    exact Nat.ne_of_gt (Heap.lt_size hL)
  exact h _ h' tk ys c F' (fun p hp => by
    rcases List.mem_cons.mp hp with rfl | hp
    · exact ⟨e, hL, hfr⟩
    · exact N' p hp) (StrsAre.of_carried hc) fun p hp => Heap.lt_size (N p hp).1
end
theorem rev_slice (x : Str) (u : Tok) : Txt.sliceBy x none none (-1, u) = ⟨x.cps.toList.reverse.toArray⟩ := by
  have h := step_rev_list x u
  have e : (Txt.sliceBy x none none (-1, u)).cps.toList = x.cps.toList.reverse := by
    rw [h]
    apply List.ext_getElem
    · simp [Str.length]
    · intro i h1 h2
      simp only [List.getElem_map, List.getElem_range, List.getElem_reverse]
      have : x.length - 1 - i < x.cps.size := by simp [Str.length] at h1 ⊢; omega
      rw [Array.getD_eq_getD_getElem?, Array.getElem?_eq_getElem this]
      simp [Str.length]
  generalize Txt.sliceBy x none none (-1, u) = y at e
  obtain ⟨⟨l⟩⟩ := y
  dsimp only at e
  rw [← e]
-- iter(bound method, sentinel)
section
open Builtin
variable {prog : Program} {w : World} {A : Around} {E : Value → Shared → Prop} {s : Shared}
theorem entry_iter2 : entryFor table "iter" = some Builtin.«iter» := entryFor_of_tree (by kernel_rfl)
theorem kind_iter2 : builtinKind "iter" = none := by decide +kernel
theorem plain_iter2 : plainId "iter" = true := by decide +kernel
theorem args_iter2 (a b : Value) : argsOk "iter" ⟨[a, b], []⟩ := by unfold argsOk; kernel_rfl
theorem meth_hasCall : ∃ v, typeLookup (.type "method") "__call__" = pure (some v) := ⟨.builtin "method.__call__", by rw [typeLookup_type, builtinLookup_eq_fast]; kernel_rfl⟩
theorem iter2 {B : Addr} {f x se : Value} {Q : Value → Shared → Prop} (hB : s.heap.get? B = some (methodObj f x))
    (h : Q (.ref s.heap.objs.size) { s with heap := s.heap.push (ciObj (.ref B) se) }) : wpAny (model prog w) A (call (.builtin "iter") [.ref B, se]) Q E s := by
  refine call_function_any kind_iter2 plain_iter2 entry_iter2 (args_iter2 _ _) ?_
  have hT : s.TypeIs (.ref B) "method" := ⟨_, hB, rfl⟩
  obtain ⟨v, hv⟩ := meth_hasCall
  unfold Builtin.«iter»
  show wpAny _ _ (specialOf (.ref B) "__call__" >>= _) _ _ _
  refine wpAny_bind (wpAny_specialOf hT hv ?_)
  refine wpAny_bind (wpAny_rule ?_)
  refine wpAny_bind ?_
  unfold newFields
  exact wpAny_newObj_type (wpAny_pure h) (by size_fits)
theorem iter2_K {h₀ : Heap} {L B : Addr} {m : Str → Option Value} {news : List (Addr × Obj)} {f x se : Value} {Q : Value → Shared → Prop} (F : Fr h₀ L s.heap m) (N : News h₀ L s.heap news) (hm : (B, methodObj f x) ∈ news)
    (h : ∀ I h', Fr h₀ L h' m → News h₀ L h' ((I, ciObj (.ref B) se) :: news) → (∀ p ∈ news, p.1 < I) → Q (.ref I) { s with heap := h' }) : wpAny (model prog w) A (call (.builtin "iter") [.ref B, se]) Q E s :=
  iter2 (N _ hm).1 (h _ _ (F.push _) (N.push F _) fun p hp => Heap.lt_size (N p hp).1)
end
-- a for loop over an iterator whose state the body may change
def FStepD (h₀ : Heap) (L : Addr) (s : Shared) (J : Nat → (Str → Option Value) → List (Addr × Obj) → Prop) (Q : Flow → Shared → Prop) (n : Nat) (f : Flow) (s₃ : Shared) : Prop :=
  match f with
  | .next | .cont => ∃ h' tk m₂ news₂ n', s₃ = { s with heap := h', toks := tk } ∧ Fr h₀ L h' m₂ ∧ News h₀ L h' news₂ ∧ n' < n ∧ J n' m₂ news₂
  | .brk => Q .next s₃
  | .ret v => Q (.ret v) s₃
structure FStep (h₀ : Heap) (L : Addr) (s : Shared) (J : Nat → (Str → Option Value) → List (Addr × Obj) → Prop) (Q : Flow → Shared → Prop) (n : Nat) (f : Flow) (s₃ : Shared) : Prop where
  out : FStepD h₀ L s J Q n f s₃
section
variable {prog : Program} {w : World} {A : Around} {E : Value → Shared → Prop} {Q : Flow → Shared → Prop} {s : Shared} {env : Env} {h₀ : Heap} {L : Addr}
theorem FStep.next {h' : Heap} {tk : Nat} {m₂ : Str → Option Value} {n n' : Nat} {J : Nat → (Str → Option Value) → List (Addr × Obj) → Prop} {news : List (Addr × Obj)} (F : Fr h₀ L h' m₂) (N : News h₀ L h' news) (hn : n' < n) (hJ : J n' m₂ news) : FStep h₀ L s J Q n .next { s with heap := h', toks := tk } :=
  ⟨⟨h', tk, m₂, news, n', rfl, F, N, hn, hJ⟩⟩
theorem FStep.cont {h' : Heap} {tk : Nat} {m₂ : Str → Option Value} {n n' : Nat} {J : Nat → (Str → Option Value) → List (Addr × Obj) → Prop} {news : List (Addr × Obj)} (F : Fr h₀ L h' m₂) (N : News h₀ L h' news) (hn : n' < n) (hJ : J n' m₂ news) : FStep h₀ L s J Q n .cont { s with heap := h', toks := tk } :=
  ⟨⟨h', tk, m₂, news, n', rfl, F, N, hn, hJ⟩⟩
theorem FStep.brk {n : Nat} {J : Nat → (Str → Option Value) → List (Addr × Obj) → Prop} {s₃ : Shared} (h : Q .next s₃) : FStep h₀ L s J Q n .brk s₃ := ⟨h⟩
theorem FStep.ret {n : Nat} {v : Value} {J : Nat → (Str → Option Value) → List (Addr × Obj) → Prop} {s₃ : Shared} (h : Q (.ret v) s₃) : FStep h₀ L s J Q n (.ret v) s₃ := ⟨h⟩
theorem For_J {x : Str} {px : Pos} {I : Addr} {body : List Stmt} {m : Str → Option Value} {news : List (Addr × Obj)} (J : Nat → (Str → Option Value) → List (Addr × Obj) → Prop) {n₀ : Nat}
    (F : Fr h₀ L s.heap m) (N : News h₀ L s.heap news) (hJ : J n₀ m news)
    (turn : ∀ n m₁ news₁ h₁ tk₁, Fr h₀ L h₁ m₁ → News h₀ L h₁ news₁ → J n m₁ news₁ →
      wpAny (model prog w) A (pyNext (.ref I)) (fun r s₂ => match r with
        | none => Q .next s₂
        | some v => wpAny (model prog w) A (assign (.Name x px) env v) (fun _ s₃ => wpAny (model prog w) A (execs body env) (FStep h₀ L s J Q n) E s₃) E s₂) E { s with heap := h₁, toks := tk₁ })
    (hE : PassesOwn (model prog w) A env E) :
    codeAny (model prog w) A (.forLoop (.Name x px) (.ref I) body [] env) (fun r s' => match r with | .ok f => Q f s' | .error e => cameBackBy (model prog w) A env E e s') s := by
  refine codeAny_forLoop_any (fun n s' => ∃ h₁ tk₁ m₁ news₁, s' = { s with heap := h₁, toks := tk₁ } ∧ Fr h₀ L h₁ m₁ ∧ News h₀ L h₁ news₁ ∧ J n m₁ news₁) ?_ n₀ ⟨s.heap, s.toks, m, news, rfl, F, N, hJ⟩
  rintro n s' ⟨h₁, tk₁, m₁, news₁, rfl, F₁, N₁, J₁⟩
  refine wpAny_mono (turn n m₁ news₁ h₁ tk₁ F₁ N₁ J₁) (fun r s₂ h₂ => ?_) hE
  cases r with
  | none => exact wpAny_execs_nil h₂
  | some v =>
    dsimp only at h₂ ⊢
    refine wpAny_of_eq (a := ()) rfl ?_
    refine wpAny_mono h₂ (fun _ s₃ h₃ => wpAny_mono h₃ (fun f s₄ h₄ => ?_) hE) hE
    cases f with
    | next =>
      obtain ⟨h', tk, m₂, news₂, n', rfl, F₂, N₂, hn, J₂⟩ := h₄.out
      exact ⟨n', hn, h', tk, m₂, news₂, rfl, F₂, N₂, J₂⟩
    | cont =>
      obtain ⟨h', tk, m₂, news₂, n', rfl, F₂, N₂, hn, J₂⟩ := h₄.out
      exact ⟨n', hn, h', tk, m₂, news₂, rfl, F₂, N₂, J₂⟩
    | brk => exact h₄.out
    | ret v => exact h₄.out
end
section
variable {prog : Program} {w : World} {A : Around} {E : Value → Shared → Prop} {Q : Flow → Shared → Prop} {s : Shared} {h₀ : Heap} {L a : Addr} {cn : Str} {cs : Scope} {cd : Value}
def ForTodo (prog : Program) (w : World) (A : Around) (E : Value → Shared → Prop) (Q : Flow → Shared → Prop) (s : Shared) (env : Env) (h₀ : Heap) (L : Addr) (x : Str) (px : Pos) (I : Addr) (body : List Stmt) (m : Str → Option Value) (news : List (Addr × Obj)) : Prop :=
  ∃ (J : Nat → (Str → Option Value) → List (Addr × Obj) → Prop) (n₀ : Nat), J n₀ m news ∧ ∀ n m₁ news₁ h₁ tk₁, Fr h₀ L h₁ m₁ → News h₀ L h₁ news₁ → J n m₁ news₁ →
      wpAny (model prog w) A (pyNext (.ref I)) (fun r s₂ => match r with
        | none => Q .next s₂
        | some v => wpAny (model prog w) A (assign (.Name x px) env v) (fun _ s₃ => wpAny (model prog w) A (execs body env) (FStep h₀ L s J Q n) E s₃) E s₂) E { s with heap := h₁, toks := tk₁ }
theorem For_todo {x fi : Str} {px pf pos : Pos} {I : Addr} {f se : Value} {body : List Stmt} {m : Str → Option Value} {news : List (Addr × Obj)}
    (F : Fr h₀ L s.heap m) (N : News h₀ L s.heap news) (hm : m fi = some (.ref I)) (hI : (I, ciObj f se) ∈ news) (hk : cs.kind = .function) (hl : (envOf cn cs L a cd).kindOf fi = some .local) (hd : (fi == ("__debug__" : Str)) = false)
    (hE : PassesOwn (model prog w) A (envOf cn cs L a cd) E) (h : ForTodo prog w A E Q s (envOf cn cs L a cd) h₀ L x px I body m news) :
    wpAny (model prog w) A (exec (.For (.Name x px) (.Name fi pf) body [] pos) (envOf cn cs L a cd)) Q E s := by
  obtain ⟨J, n₀, hJ, turn⟩ := h
  refine wpAny_For (ld F hm ?_ hk hl hd)
  refine ci_iter (N _ hI).1 ?_
  exact For_J J F N hJ turn hE
end
-- what get_token tells: within quotes, without
def inq : List Nat → List Nat × Option (List Nat)
  | [] => ([], none)
  | c :: r => if c = 34 then ([], some r) else if c = 92 then (match r with
      | [] => ([], none)
      | d :: r' => (d :: (inq r').1, (inq r').2)) else (c :: (inq r).1, (inq r).2)
def unq : List Nat → List Nat
  | [] => []
  | c :: r => if c = 92 then (match r with
      | [] => []
      | d :: r' => d :: unq r') else c :: unq r
def tokOf : List Nat → List Nat × List Nat
  | [] => ([], [])
  | c :: r => if c = 34 then ((inq r).1, (inq r).2.getD []) else if c = 92 then (match r with
      | [] => ([], [])
      | d :: r' => (d :: unq r', [])) else (c :: unq r, [])
def sg (c : Nat) : Str := ⟨#[c]⟩
-- the reader holds the codes `cur` (last first)
def Holds (vs : List Value) (cur : List Nat) : Prop := StrsAre vs (cur.reverse.map sg)
theorem holds_cons {vs : List Value} {c : Nat} {cur : List Nat} (h : Holds vs (c :: cur)) : ∃ us u, vs = us ++ [Value.str ⟨#[c]⟩ u] ∧ Holds us cur := by
  unfold Holds at h
  rw [List.reverse_cons, List.map_append] at h
  have key : ∀ {vs : List Value} {a : List Str} {b : Str}, StrsAre vs (a ++ [b]) → ∃ us u, vs = us ++ [Value.str b u] ∧ StrsAre us a := by
    intro vs a b h
    induction a generalizing vs with
    | nil =>
      cases h with
      | cons y t h' => cases h'; exact ⟨[], t, rfl, .nil⟩
    | cons x r ih =>
      cases h with
      | cons y t h' =>
        obtain ⟨us, u, rfl, hs⟩ := ih h'
        exact ⟨.str x t :: us, u, rfl, .cons _ _ hs⟩
  exact key h
theorem holds_nil {vs : List Value} (h : Holds vs []) : vs = [] := by cases h; rfl
theorem okAll {cur : List Nat} (h : ∀ c ∈ cur, c < 0x110000) : ∀ y ∈ cur.reverse.map sg, PyData.strOk y = true := by
  intro y hy
  obtain ⟨c, hc, rfl⟩ := List.mem_map.mp hy
  have := h c (List.mem_reverse.mp hc)
  simp [sg, PyData.strOk]; exact this
theorem holds_len {vs : List Value} {cur : List Nat} (h : Holds vs cur) (hl : cur.length + 1 ≤ 100000) : vs.length + 1 ≤ sizeLine := by
  have : vs.length = (cur.reverse.map sg).length := by
    unfold Holds at h
    generalize cur.reverse.map sg = ys at h
    induction h with
    | nil => rfl
    | cons _ _ _ ih => simp [ih]
  simp at this
  rw [sizeLine_eq]; omega
theorem inq_n : inq [] = ([], none) := by rw [inq.eq_def]
theorem unq_n : unq [] = [] := by rw [unq.eq_def]
theorem inq_q (r : List Nat) : inq (34 :: r) = ([], some r) := by rw [inq.eq_def]; simp
theorem inq_b0 : inq [92] = ([], none) := by rw [inq.eq_def]; simp
theorem inq_b (d : Nat) (r : List Nat) : inq (92 :: d :: r) = (d :: (inq r).1, (inq r).2) := by rw [inq.eq_def]; simp
theorem inq_o {c : Nat} (h1 : c ≠ 34) (h2 : c ≠ 92) (r : List Nat) : inq (c :: r) = (c :: (inq r).1, (inq r).2) := by rw [inq.eq_def]; simp [h1, h2]
theorem unq_b0 : unq [92] = [] := by rw [unq.eq_def]; simp
theorem unq_b (d : Nat) (r : List Nat) : unq (92 :: d :: r) = d :: unq r := by rw [unq.eq_def]; simp
theorem unq_o {c : Nat} (h2 : c ≠ 92) (r : List Nat) : unq (c :: r) = c :: unq r := by rw [unq.eq_def]; simp [h2]
theorem len_app {y : Str} {c i : Nat} (h : y.length ≤ i) : (y ++ ⟨#[c]⟩ : Str).length ≤ i + 1 := by
  show (y.cps ++ #[c]).size ≤ _
  rw [Array.size_append]
  have : y.cps.size ≤ i := h
  show y.cps.size + 1 ≤ _
  omega
theorem app_ls (a b : Str) : (a ++ b).cps.toList = a.cps.toList ++ b.cps.toList := by show (a.cps ++ b.cps).toList = _; simp
theorem tokOf_q (r : List Nat) : tokOf (34 :: r) = ((inq r).1, (inq r).2.getD []) := rfl
theorem tokOf_b0 : tokOf [92] = ([], []) := rfl
theorem tokOf_b (d : Nat) (r : List Nat) : tokOf (92 :: d :: r) = (d :: unq r, []) := rfl
theorem tokOf_o {c : Nat} (h1 : c ≠ 34) (h2 : c ≠ 92) (r : List Nat) : tokOf (c :: r) = (c :: unq r, []) := by simp [tokOf, h1, h2]
theorem app_nil (a : Str) : a ++ Str.ofString "" = a := str_ext (by rw [app_ls]; exact List.append_nil _)
-- a ledger whose tail is a letter
theorem allNe_of {b d : Addr} : ∀ {l : List (Addr × Obj)}, AllLt b l → @LE.le Nat _ b d → ∀ p ∈ l, p.1 ≠ d
  | [], _, _, _, h => nomatch h
  | q :: r, h, hb, p, hp => by
    rcases List.mem_cons.mp hp with rfl | hp
    · exact Nat.ne_of_lt (Nat.lt_of_lt_of_le h.1 hb)
    · exact allNe_of h.2 hb p hp
local macro_rules | `(tactic| walk_at "kt_all") => `(tactic| first
  | (with_reducible rename AllLt _ _ => hz9; first | exact allNe_of hz9 (by (try dsimp only); omega) | (clear hz9; walk_at "kt_all"))
  | (with_reducible rename _ ∧ AllLt _ _ => hz9; first | exact allNe_of hz9.2 (by (try dsimp only); omega) | (have hy9 := hz9.1; clear hz9; walk_at "kt_all"))
  | (with_reducible rename _ ∧ _ ∧ AllLt _ _ => hz9; first | exact allNe_of hz9.2.2 (by (try dsimp only); omega) | (have hy9 := And.intro hz9.1 hz9.2.1; clear hz9; walk_at "kt_all"))
  | (with_reducible rename _ ∧ _ ∧ _ ∧ AllLt _ _ => hz9; first | exact allNe_of hz9.2.2.2 (by (try dsimp only); omega) | (have hy9 := And.intro hz9.1 (And.intro hz9.2.1 hz9.2.2.1); clear hz9; walk_at "kt_all"))
  | (with_reducible rename _ ∧ _ ∧ _ ∧ _ ∧ AllLt _ _ => hz9; first | exact allNe_of hz9.2.2.2.2 (by (try dsimp only); omega) | (have hy9 := And.intro hz9.1 (And.intro hz9.2.1 (And.intro hz9.2.2.1 hz9.2.2.2.1)); clear hz9; walk_at "kt_all"))
  | (with_reducible rename _ ∧ _ ∧ _ ∧ _ ∧ _ ∧ AllLt _ _ => hz9; first | exact allNe_of hz9.2.2.2.2.2 (by (try dsimp only); omega) | (have hy9 := And.intro hz9.1 (And.intro hz9.2.1 (And.intro hz9.2.2.1 (And.intro hz9.2.2.2.1 hz9.2.2.2.2.1))); clear hz9; walk_at "kt_all"))
  | (with_reducible rename _ ∧ _ ∧ _ ∧ _ ∧ _ ∧ _ ∧ AllLt _ _ => hz9; first | exact allNe_of hz9.2.2.2.2.2.2 (by (try dsimp only); omega) | (have hy9 := And.intro hz9.1 (And.intro hz9.2.1 (And.intro hz9.2.2.1 (And.intro hz9.2.2.2.1 (And.intro hz9.2.2.2.2.1 hz9.2.2.2.2.2.1)))); clear hz9; walk_at "kt_all"))
  | (with_reducible rename _ ∧ _ ∧ _ ∧ _ ∧ _ ∧ _ ∧ _ ∧ AllLt _ _ => hz9; first | exact allNe_of hz9.2.2.2.2.2.2.2 (by (try dsimp only); omega) | (have hy9 := And.intro hz9.1 (And.intro hz9.2.1 (And.intro hz9.2.2.1 (And.intro hz9.2.2.2.1 (And.intro hz9.2.2.2.2.1 (And.intro hz9.2.2.2.2.2.1 hz9.2.2.2.2.2.2.1))))); clear hz9; walk_at "kt_all"))
  | (with_reducible rename _ ∧ _ ∧ _ ∧ _ ∧ _ ∧ _ ∧ _ ∧ _ ∧ AllLt _ _ => hz9; first | exact allNe_of hz9.2.2.2.2.2.2.2.2 (by (try dsimp only); omega) | (have hy9 := And.intro hz9.1 (And.intro hz9.2.1 (And.intro hz9.2.2.1 (And.intro hz9.2.2.2.1 (And.intro hz9.2.2.2.2.1 (And.intro hz9.2.2.2.2.2.1 (And.intro hz9.2.2.2.2.2.2.1 hz9.2.2.2.2.2.2.2.1)))))); clear hz9; walk_at "kt_all"))
  | (with_reducible rename _ ∧ _ ∧ _ ∧ _ ∧ _ ∧ _ ∧ _ ∧ _ ∧ _ ∧ AllLt _ _ => hz9; first | exact allNe_of hz9.2.2.2.2.2.2.2.2.2 (by (try dsimp only); omega) | (have hy9 := And.intro hz9.1 (And.intro hz9.2.1 (And.intro hz9.2.2.1 (And.intro hz9.2.2.2.1 (And.intro hz9.2.2.2.2.1 (And.intro hz9.2.2.2.2.2.1 (And.intro hz9.2.2.2.2.2.2.1 (And.intro hz9.2.2.2.2.2.2.2.1 hz9.2.2.2.2.2.2.2.2.1))))))); clear hz9; walk_at "kt_all"))
  | (with_reducible rename _ ∧ _ ∧ _ ∧ _ ∧ _ ∧ _ ∧ _ ∧ _ ∧ _ ∧ _ ∧ AllLt _ _ => hz9; first | exact allNe_of hz9.2.2.2.2.2.2.2.2.2.2 (by (try dsimp only); omega) | (have hy9 := And.intro hz9.1 (And.intro hz9.2.1 (And.intro hz9.2.2.1 (And.intro hz9.2.2.2.1 (And.intro hz9.2.2.2.2.1 (And.intro hz9.2.2.2.2.2.1 (And.intro hz9.2.2.2.2.2.2.1 (And.intro hz9.2.2.2.2.2.2.2.1 (And.intro hz9.2.2.2.2.2.2.2.2.1 hz9.2.2.2.2.2.2.2.2.2.1)))))))); clear hz9; walk_at "kt_all"))
  | (with_reducible rename _ ∧ _ ∧ _ ∧ _ ∧ _ ∧ _ ∧ _ ∧ _ ∧ _ ∧ _ ∧ _ ∧ AllLt _ _ => hz9; first | exact allNe_of hz9.2.2.2.2.2.2.2.2.2.2.2 (by (try dsimp only); omega) | (have hy9 := And.intro hz9.1 (And.intro hz9.2.1 (And.intro hz9.2.2.1 (And.intro hz9.2.2.2.1 (And.intro hz9.2.2.2.2.1 (And.intro hz9.2.2.2.2.2.1 (And.intro hz9.2.2.2.2.2.2.1 (And.intro hz9.2.2.2.2.2.2.2.1 (And.intro hz9.2.2.2.2.2.2.2.2.1 (And.intro hz9.2.2.2.2.2.2.2.2.2.1 hz9.2.2.2.2.2.2.2.2.2.2.1))))))))); clear hz9; walk_at "kt_all"))
  | (with_reducible rename _ ∧ _ ∧ _ ∧ _ ∧ _ ∧ _ ∧ _ ∧ _ ∧ _ ∧ _ ∧ _ ∧ _ ∧ AllLt _ _ => hz9; first | exact allNe_of hz9.2.2.2.2.2.2.2.2.2.2.2.2 (by (try dsimp only); omega) | (have hy9 := And.intro hz9.1 (And.intro hz9.2.1 (And.intro hz9.2.2.1 (And.intro hz9.2.2.2.1 (And.intro hz9.2.2.2.2.1 (And.intro hz9.2.2.2.2.2.1 (And.intro hz9.2.2.2.2.2.2.1 (And.intro hz9.2.2.2.2.2.2.2.1 (And.intro hz9.2.2.2.2.2.2.2.2.1 (And.intro hz9.2.2.2.2.2.2.2.2.2.1 (And.intro hz9.2.2.2.2.2.2.2.2.2.2.1 hz9.2.2.2.2.2.2.2.2.2.2.2.1)))))))))); clear hz9; walk_at "kt_all"))
  | (with_reducible rename _ ∧ _ ∧ _ ∧ _ ∧ _ ∧ _ ∧ _ ∧ _ ∧ _ ∧ _ ∧ _ ∧ _ ∧ _ ∧ AllLt _ _ => hz9; first | exact allNe_of hz9.2.2.2.2.2.2.2.2.2.2.2.2.2 (by (try dsimp only); omega) | (have hy9 := And.intro hz9.1 (And.intro hz9.2.1 (And.intro hz9.2.2.1 (And.intro hz9.2.2.2.1 (And.intro hz9.2.2.2.2.1 (And.intro hz9.2.2.2.2.2.1 (And.intro hz9.2.2.2.2.2.2.1 (And.intro hz9.2.2.2.2.2.2.2.1 (And.intro hz9.2.2.2.2.2.2.2.2.1 (And.intro hz9.2.2.2.2.2.2.2.2.2.1 (And.intro hz9.2.2.2.2.2.2.2.2.2.2.1 (And.intro hz9.2.2.2.2.2.2.2.2.2.2.2.1 hz9.2.2.2.2.2.2.2.2.2.2.2.2.1))))))))))); clear hz9; walk_at "kt_all")))
local macro_rules | `(tactic| k_all) => `(tactic| first | assumption | walk_at "kt_all")
theorem allLt_mono {b d : Addr} : ∀ {l : List (Addr × Obj)}, AllLt b l → @LE.le Nat _ b d → AllLt d l
  | [], _, _ => trivial
  | _ :: _, h, hb => ⟨Nat.lt_of_lt_of_le h.1 hb, allLt_mono h.2 hb⟩
local macro_rules | `(tactic| k_mem) => `(tactic| first | with_reducible assumption | exact List.mem_cons_of_mem _ (by with_reducible assumption) | exact List.mem_cons_of_mem _ (List.mem_cons_of_mem _ (by with_reducible assumption)) | exact List.mem_cons_of_mem _ (List.mem_cons_of_mem _ (List.mem_cons_of_mem _ (by with_reducible assumption))))
-- a while loop that may break
def WStepD (h₀ : Heap) (L : Addr) (s : Shared) (J : Nat → (Str → Option Value) → Prop) (news : List (Addr × Obj)) (Q : Flow → Shared → Prop) (n : Nat) (f : Flow) (s₃ : Shared) : Prop :=
  match f with
  | .next | .cont => ∃ h' tk m₂ n', s₃ = { s with heap := h', toks := tk } ∧ Fr h₀ L h' m₂ ∧ News h₀ L h' news ∧ n' < n ∧ J n' m₂
  | .brk => Q .next s₃
  | .ret v => Q (.ret v) s₃
structure WStep (h₀ : Heap) (L : Addr) (s : Shared) (J : Nat → (Str → Option Value) → Prop) (news : List (Addr × Obj)) (Q : Flow → Shared → Prop) (n : Nat) (f : Flow) (s₃ : Shared) : Prop where
  out : WStepD h₀ L s J news Q n f s₃
section
variable {prog : Program} {w : World} {A : Around} {E : Value → Shared → Prop} {Q : Flow → Shared → Prop} {s : Shared} {env : Env} {h₀ : Heap} {L : Addr}
theorem WStep.next {h' : Heap} {tk : Nat} {m₂ : Str → Option Value} {n n' : Nat} {J : Nat → (Str → Option Value) → Prop} {news : List (Addr × Obj)} (F : Fr h₀ L h' m₂) (N : News h₀ L h' news) (hn : n' < n) (hJ : J n' m₂) : WStep h₀ L s J news Q n .next { s with heap := h', toks := tk } :=
  ⟨⟨h', tk, m₂, n', rfl, F, N, hn, hJ⟩⟩
theorem WStep.cont {h' : Heap} {tk : Nat} {m₂ : Str → Option Value} {n n' : Nat} {J : Nat → (Str → Option Value) → Prop} {news : List (Addr × Obj)} (F : Fr h₀ L h' m₂) (N : News h₀ L h' news) (hn : n' < n) (hJ : J n' m₂) : WStep h₀ L s J news Q n .cont { s with heap := h', toks := tk } :=
  ⟨⟨h', tk, m₂, n', rfl, F, N, hn, hJ⟩⟩
theorem WStep.brk {n : Nat} {J : Nat → (Str → Option Value) → Prop} {news : List (Addr × Obj)} {s₃ : Shared} (h : Q .next s₃) : WStep h₀ L s J news Q n .brk s₃ := ⟨h⟩
theorem WStep.ret {n : Nat} {v : Value} {J : Nat → (Str → Option Value) → Prop} {news : List (Addr × Obj)} {s₃ : Shared} (h : Q (.ret v) s₃) : WStep h₀ L s J news Q n (.ret v) s₃ := ⟨h⟩
theorem While_J {test : Expr} {body : List Stmt} {pos : Pos} {m : Str → Option Value} {news : List (Addr × Obj)} (J : Nat → (Str → Option Value) → Prop) {n₀ : Nat}
    (F : Fr h₀ L s.heap m) (N : News h₀ L s.heap news) (hJ : J n₀ m)
    (turn : ∀ n m₁ h₁ tk₁, Fr h₀ L h₁ m₁ → News h₀ L h₁ news → J n m₁ →
      wpAny (model prog w) A (isTrue test env (eval test env)) (fun b s₂ =>
        if b = true then wpAny (model prog w) A (execs body env) (WStep h₀ L s J news Q n) E s₂ else Q .next s₂) E { s with heap := h₁, toks := tk₁ })
    (hE : PassesOwn (model prog w) A env E := by passes_own) :
    wpAny (model prog w) A (exec (.While test body [] pos) env) Q E s := by
  refine wpAny_While (codeAny_whileLoop (fun n s' => ∃ h₁ tk₁ m₁, s' = { s with heap := h₁, toks := tk₁ } ∧ Fr h₀ L h₁ m₁ ∧ News h₀ L h₁ news ∧ J n m₁) ?_ n₀ ⟨s.heap, s.toks, m, rfl, F, N, hJ⟩)
  rintro n s' ⟨h₁, tk₁, m₁, rfl, F₁, N₁, J₁⟩
  refine wpAny_mono (turn n m₁ h₁ tk₁ F₁ N₁ J₁) (fun b s₂ h₂ => ?_) hE
  cases b with
  | false =>
    simp only [Bool.false_eq_true, if_false] at h₂ ⊢
    exact wpAny_execs_nil h₂
  | true =>
    simp only [if_true] at h₂ ⊢
    refine wpAny_mono h₂ (fun f s₃ h₃ => ?_) hE
    cases f with
    | next =>
      obtain ⟨h', tk, m₂, n', rfl, F₂, N₂, hn, J₂⟩ := h₃.out
      exact ⟨n', hn, h', tk, m₂, rfl, F₂, N₂, J₂⟩
    | cont =>
      obtain ⟨h', tk, m₂, n', rfl, F₂, N₂, hn, J₂⟩ := h₃.out
      exact ⟨n', hn, h', tk, m₂, rfl, F₂, N₂, J₂⟩
    | brk => exact h₃.out
    | ret v => exact h₃.out
end
def WhileTodo (prog : Program) (w : World) (A : Around) (E : Value → Shared → Prop) (Q : Flow → Shared → Prop) (s : Shared) (env : Env) (h₀ : Heap) (L : Addr) (test : Expr) (body : List Stmt) (m : Str → Option Value) (news : List (Addr × Obj)) : Prop :=
  ∃ (J : Nat → (Str → Option Value) → Prop) (n₀ : Nat), J n₀ m ∧ ∀ n m₁ h₁ tk₁, Fr h₀ L h₁ m₁ → News h₀ L h₁ news → J n m₁ →
      wpAny (model prog w) A (isTrue test env (eval test env)) (fun b s₂ =>
        if b = true then wpAny (model prog w) A (execs body env) (WStep h₀ L s J news Q n) E s₂ else Q .next s₂) E { s with heap := h₁, toks := tk₁ }
theorem While_todo {prog : Program} {w : World} {A : Around} {E : Value → Shared → Prop} {Q : Flow → Shared → Prop} {s : Shared} {env : Env} {h₀ : Heap} {L : Addr} {test : Expr} {body : List Stmt} {pos : Pos} {m : Str → Option Value} {news : List (Addr × Obj)}
    (F : Fr h₀ L s.heap m) (N : News h₀ L s.heap news) (hE : PassesOwn (model prog w) A env E) (h : WhileTodo prog w A E Q s env h₀ L test body m news) : wpAny (model prog w) A (exec (.While test body [] pos) env) Q E s := by
  obtain ⟨J, n₀, hJ, turn⟩ := h
  exact While_J J F N hJ turn hE
theorem item_at {prog : Program} {w : World} {A : Around} {E : Value → Shared → Prop} {s : Shared} {Q : Value → Shared → Prop} {x : Str} {t u : Tok} {j : Int} {k c : Nat} {value slice : Expr} (e : j = (k : Int)) (hc : x.cps.toList[k]? = some c) (hsz : x.length ≤ sizeLine)
    (h : Q (.str ⟨#[c]⟩ s.toks) { s with toks := s.toks + 1 })
    (hs : subscripted slice false (.str x t) (.int j u) = operate [.str x t, .int j u] (getItem (.str x t) (.int j u)) := by with_unfolding_all rfl)
    (ht : ∀ r, letTemporaryGo value (.str x t) r = pure () := by intro _; with_unfolding_all rfl) :
    wpAny (model prog w) A (subscriptTail value slice (.str x t) (.int j u)) Q E s := by
  subst e
  obtain ⟨hl, e⟩ := List.getElem?_eq_some_iff.mp hc
  have hl' : k < x.length := by rw [Array.length_toList] at hl; exact hl
  have hz := sizeLine_eq
  refine item_str (fitsSsize_of (N := 9223372036854775808) (by omega) (by omega) (Int.le_refl _)) (by omega) (by omega) (fun _ => ?_) hs ht
  have : Txt.item x (k : Int) = ⟨#[c]⟩ := by
    have h0 : ¬ ((k : Int) < 0) := by omega
    have h1 : ((0 : Int) ≤ k && decide ((k : Int) < x.length)) = true := by simp; exact hl'
    unfold Txt.item Txt.charAt seqIndex?
    simp only [h0, if_false, h1, if_true, Int.toNat_natCast, Option.bind_some]
    rw [← Array.getElem?_toList, hc]; rfl
  rw [this]; exact h
theorem ite_t {c : Prop} [Decidable c] {P Q : Prop} (hc : c) (h : P) : if c then P else Q := by rw [if_pos hc]; exact h
theorem ite_f {c : Prop} [Decidable c] {P Q : Prop} (hc : ¬ c) (h : Q) : if c then P else Q := by rw [if_neg hc]; exact h
theorem nt_of {b : Bool} (h : b = false) : ¬ (b = true) := by rw [h]; exact Bool.false_ne_true
theorem not_t {b : Bool} (h : b = false) : (!b) = true := by rw [h]; rfl
theorem not_f {b : Bool} (h : b = true) : (!b) = false := by rw [h]; rfl
theorem bne_t {x y : Str} (h : (x == y) = false) : (x != y) = true := by rw [bne, h]; rfl
theorem bne_f {x y : Str} (h : (x == y) = true) : (x != y) = false := by rw [bne, h]; rfl
theorem sign_ne {c d : Nat} (h : c ≠ d) : (({ cps := #[c] } : Str) == ({ cps := #[d] } : Str)) = false := by
  rw [beq_eq_false_iff_ne]; intro e; injection e with e; injection e with e; injection e with e _; exact h e
section
variable {prog : Program} {w : World} {A : Around} {E : Value → Shared → Prop} {s : Shared} {Q : Value → Shared → Prop} {x : Str} {t u : Tok} {k c : Nat} {value slice : Expr}
theorem item_at0 (hc : x.cps.toList[k]? = some c) (hsz : x.length ≤ sizeLine)
    (h : Q (.str ⟨#[c]⟩ s.toks) { s with toks := s.toks + 1 })
    (hs : subscripted slice false (.str x t) (.int (k : Int) u) = operate [.str x t, .int (k : Int) u] (getItem (.str x t) (.int (k : Int) u)) := by with_unfolding_all rfl)
    (ht : ∀ r, letTemporaryGo value (.str x t) r = pure () := by intro _; with_unfolding_all rfl) :
    wpAny (model prog w) A (subscriptTail value slice (.str x t) (.int (k : Int) u)) Q E s := item_at rfl hc hsz h hs ht
theorem item_at1 (hc : x.cps.toList[k + 1]? = some c) (hsz : x.length ≤ sizeLine)
    (h : Q (.str ⟨#[c]⟩ s.toks) { s with toks := s.toks + 1 })
    (hs : subscripted slice false (.str x t) (.int ((k : Int) + 1) u) = operate [.str x t, .int ((k : Int) + 1) u] (getItem (.str x t) (.int ((k : Int) + 1) u)) := by with_unfolding_all rfl)
    (ht : ∀ r, letTemporaryGo value (.str x t) r = pure () := by intro _; with_unfolding_all rfl) :
    wpAny (model prog w) A (subscriptTail value slice (.str x t) (.int ((k : Int) + 1) u)) Q E s := item_at (k := k + 1) (by omega) hc hsz h hs ht
end
section
variable {prog : Program} {w : World} {A : Around} {E : Value → Shared → Prop} {s : Shared} {h₀ : Heap} {L D : Addr} {m : Str → Option Value} {news : List (Addr × Obj)} {n : Nat}
theorem upd_of {d : Addr} {o o' : Obj} {l : List (Addr × Obj)} {g : Obj → List (Addr × Obj)} (U : UpdF d o l g) : Upd d o o' l (g o') := by
  induction U with
  | head h => exact .head h
  | tail h _ ih => exact .tail h ih
theorem updF_mem {d : Addr} {o : Obj} {l : List (Addr × Obj)} {g : Obj → List (Addr × Obj)} (U : UpdF d o l g) : (d, o) ∈ l := by
  induction U with
  | head h => exact .head _
  | tail h _ ih => exact .tail _ ih
theorem updF_keep {d : Addr} {o : Obj} {l : List (Addr × Obj)} {g : Obj → List (Addr × Obj)} (U : UpdF d o l g) {p : Addr × Obj} (hp : p ∈ l) (hne : p.1 ≠ d) (o' : Obj) : p ∈ g o' := by
  induction U with
  | head h =>
    rcases List.mem_cons.mp hp with rfl | hp
    · exact absurd rfl hne
    · exact .tail _ hp
  | tail h _ ih =>
    rcases List.mem_cons.mp hp with rfl | hp
    · exact .head _
    · exact .tail _ (ih hp)
theorem updF_re {d : Addr} {o : Obj} {l : List (Addr × Obj)} {g : Obj → List (Addr × Obj)} (U : UpdF d o l g) (o' : Obj) : UpdF d o' (g o') g := by
  induction U with
  | head h => exact .head h
  | tail h _ ih => exact .tail h ih
theorem updF_on {d x : Addr} {o ox : Obj} {l : List (Addr × Obj)} {g : Obj → List (Addr × Obj)} (U : UpdF d o l g) (hx : AllLt x l) : UpdF d o ((x, ox) :: l) (fun o' => (x, ox) :: g o') := by
  refine .tail (fun e => ?_) U
  have : ∀ {l : List (Addr × Obj)}, AllLt x l → ∀ p ∈ l, @LT.lt Nat _ p.1 x := by
    intro l
    induction l with
    | nil => intro _ p hp; cases hp
    | cons q r ih =>
      intro h p hp
      rcases List.mem_cons.mp hp with rfl | hp
      · exact h.1
      · exact ih h.2 p hp
  have := this hx _ (updF_mem U)
  dsimp only at e this
  rw [e] at this
  exact Nat.lt_irrefl _ this
theorem pop_U {p : List Value} {y : Value} {g : Obj → List (Addr × Obj)} {Q : Value → Shared → Prop} (F : Fr h₀ L s.heap m) (N : News h₀ L s.heap news) (U : UpdF D (listOf (p ++ [y]).toArray n) news g)
    (hz : (p ++ [y]).length ≤ sizeLine) (h : ∀ h', Fr h₀ L h' m → News h₀ L h' (g (listOf p.toArray (n + 1))) → Q y { s with heap := h' }) : wpAny (model prog w) A (call (.builtin "list.pop") [.ref D]) Q E s :=
  kl_pop F N (by simpa using kpa_last y p) (upd_of U) (by simpa using hz) h
theorem isl_of {h : Heap} {a : Addr} {xs : List Value} {n : Nat} (N : News h₀ L h news) (hm : (a, listOf xs.toArray n) ∈ news) : h.IsList a xs.toArray := ⟨_, (N _ hm).1, rfl, _, rfl⟩
theorem updF_addr {d : Addr} {o o' : Obj} {l : List (Addr × Obj)} {g : Obj → List (Addr × Obj)} (U : UpdF d o l g) {P : Addr → Prop} (h : ∀ q ∈ l, P q.1) : ∀ q ∈ g o', P q.1 := by
  induction U with
  | head _ =>
    intro q hq
    rcases List.mem_cons.mp hq with rfl | hq
    · exact h (d, o) (.head _)
    · exact h q (.tail _ hq)
  | tail _ _ ih =>
    intro q hq
    rcases List.mem_cons.mp hq with rfl | hq
    · exact h _ (.head _)
    · exact ih (fun q hq => h q (.tail _ hq)) q hq
end
-- what _law_stream leaves
def lamAt (s : Stmt) : Arguments × Expr × Scope × Pos := match s with | .Assign _ (.Lambda a b sc p) _ => (a, b, sc, p) | _ => (default, default, default, default)
def lamSt : Stmt := nth (fB st14) 1
def lamRd : Stmt := nth (fB st14) 2
def lamQ : Str := Str.ofString "_law_stream" ++ Str.ofString ".<locals>." ++ Str.ofString "<lambda>"
def lamS (pm : Value) (c1 : Addr) (ct : Value) : Obj := kla_obj (Str.ofString "<lambda>") lamQ (lamAt lamSt).1 (lamAt lamSt).2.1 (lamAt lamSt).2.2.1 [] pm c1 ct
def lamR (pm : Value) (C c2 : Addr) (ct : Value) : Obj := kla_obj (Str.ofString "<lambda>") lamQ (lamAt lamRd).1 (lamAt lamRd).2.1 (lamAt lamRd).2.2.1 [(Str.ofString "signs", C)] pm c2 ct
structure Strm where
  D : Addr
  f2 : Addr
  f1 : Addr
  S : Addr
  C : Addr
  c2 : Addr
  c1 : Addr
  o2 : Obj
  o1 : Obj
  oC : Obj
  tR : Tok
  ct2 : Value
  ct1 : Value
  ys : List Value
  k : Nat
abbrev tabOf (c1 c2 : Addr) : Obj := tabObj #[rawInt (lamAt lamSt).2.2.2.line, rawInt (lamAt lamSt).2.2.2.col, .ref c1, rawInt (lamAt lamRd).2.2.2.line, rawInt (lamAt lamRd).2.2.2.col, .ref c2]
def Strm.tab (z : Strm) : Obj := tabOf z.c1 z.c2
def Strm.codes (z : Strm) : List (Addr × Obj) := [(166, z.tab), (z.c2, z.o2), (z.c1, z.o1)]
def Strm.objs (w : World) (pm : Value) (z : Strm) : List (Addr × Obj) := [(z.D, dictR w (Str.ofString "read") z.tR (.ref z.f2)), (z.f2, lamR pm z.C z.c2 z.ct2), (z.f1, { lamS pm z.c1 z.ct1 with dict := some z.D }), (z.S, listOf z.ys.toArray z.k), (z.C, z.oC)]
def CodeOk (o : Obj) : Prop := ∃ vs t, o.data = .fields vs ∧ vs[1]? = some (.str lamQ t)
structure Strm.Ok (z : Strm) (x : Str) : Prop where
  ys : StrsAre z.ys (signs ⟨x.cps.toList.reverse.toArray⟩)
  cell : z.oC.data = .cell (some (.ref z.S))
  ok2 : CodeOk z.o2
  ok1 : CodeOk z.o1
  l1 : @LT.lt Nat _ z.C z.S
  l2 : @LT.lt Nat _ z.S z.f1
  l3 : @LT.lt Nat _ z.f1 z.f2
  l4 : @LT.lt Nat _ z.f2 z.D
  l5 : @Ne Nat z.c1 z.S
  l6 : @Ne Nat z.c2 z.S
  l7 : @LT.lt Nat _ 166 z.C
theorem strm_newsA {h₀ h : Heap} {L D f2 f1 S C c2 c1 : Addr} {w : World} {pm : Value} {o2 o1 oC : Obj} {tR : Tok} {ct2 ct1 : Value} {ys : List Value} {k : Nat} {news : List (Addr × Obj)}
    (N : News h₀ L h ((D, dictR w (Str.ofString "read") tR (.ref f2)) :: (f2, lamR pm C c2 ct2) :: (c2, o2) :: (f1, { lamS pm c1 ct1 with dict := some D }) :: (c1, o1) :: (S, listOf ys.toArray k) :: (C, oC) :: (166, (Strm.mk D f2 f1 S C c2 c1 o2 o1 oC tR ct2 ct1 ys k).tab) :: news)) :
    News h₀ L h ((Strm.mk D f2 f1 S C c2 c1 o2 o1 oC tR ct2 ct1 ys k).objs w pm ++ (Strm.mk D f2 f1 S C c2 c1 o2 o1 oC tR ct2 ct1 ys k).codes ++ news) := by
  intro p hp
  refine N p ?_
  simp only [Strm.objs, Strm.codes, List.mem_append, List.mem_cons, List.not_mem_nil, or_false] at hp ⊢
  rcases hp with ((h | h | h | h | h) | (h | h | h)) | h <;> simp [h]
theorem strm_newsB {h₀ h : Heap} {L D f2 f1 S C c2 c1 : Addr} {w : World} {pm : Value} {o2 o1 oC : Obj} {tR : Tok} {ct2 ct1 : Value} {ys : List Value} {k : Nat} {news : List (Addr × Obj)}
    (N : News h₀ L h ((D, dictR w (Str.ofString "read") tR (.ref f2)) :: (f2, lamR pm C c2 ct2) :: (f1, { lamS pm c1 ct1 with dict := some D }) :: (S, listOf ys.toArray k) :: (C, oC) :: (166, tabOf c1 c2) :: (c2, o2) :: (c1, o1) :: news)) :
    News h₀ L h ((Strm.mk D f2 f1 S C c2 c1 o2 o1 oC tR ct2 ct1 ys k).objs w pm ++ (Strm.mk D f2 f1 S C c2 c1 o2 o1 oC tR ct2 ct1 ys k).codes ++ news) := by
  intro p hp
  refine N p ?_
  simp only [Strm.objs, Strm.codes, Strm.tab, List.mem_append, List.mem_cons, List.not_mem_nil, or_false] at hp ⊢
  rcases hp with ((h | h | h | h | h) | (h | h | h)) | h <;> simp [h]
-- what _netrclex(...) leaves
structure Lex where
  P : Addr
  X : Addr
  DX : Addr
  k1 : Tok
  v1 : Tok
  k2 : Tok
  k3 : Tok
  v3 : Tok
  k4 : Tok
def wsp : Str := Str.ofString "\n\t\r "
def Lex.es (w : World) (f1 : Addr) (z : Lex) : List DictEntry := [⟨PyData.keyHash w.params (Str.ofString "lineno"), .str (Str.ofString "lineno") z.k1, .int 1 z.v1⟩, ⟨PyData.keyHash w.params (Str.ofString "instream"), .str (Str.ofString "instream") z.k2, .ref f1⟩,
  ⟨PyData.keyHash w.params (Str.ofString "whitespace"), .str (Str.ofString "whitespace") z.k3, .str wsp z.v3⟩, ⟨PyData.keyHash w.params (Str.ofString "pushback"), .str (Str.ofString "pushback") z.k4, .ref z.P⟩]
def Lex.objs (w : World) (f1 : Addr) (z : Lex) : List (Addr × Obj) := [(z.P, listOf #[] 0), (z.X, instObj 91 z.DX), (z.DX, dictOf (z.es w f1) 4)]
theorem lex_news {h₀ h : Heap} {L P X DX f1 : Addr} {w : World} {k1 v1 k2 k3 v3 k4 : Tok} {news : List (Addr × Obj)}
    (N : News h₀ L h ((P, listOf #[] 0) :: (X, instObj 91 DX) :: (DX, dictOf [⟨PyData.keyHash w.params (Str.ofString "lineno"), .str (Str.ofString "lineno") k1, .int 1 v1⟩, ⟨PyData.keyHash w.params (Str.ofString "instream"), .str (Str.ofString "instream") k2, .ref f1⟩,
  ⟨PyData.keyHash w.params (Str.ofString "whitespace"), .str (Str.ofString "whitespace") k3, .str wsp v3⟩, ⟨PyData.keyHash w.params (Str.ofString "pushback"), .str (Str.ofString "pushback") k4, .ref P⟩] 4) :: news)) : News h₀ L h ((Lex.mk P X DX k1 v1 k2 k3 v3 k4).objs w f1 ++ news) := N
def p257 : List Nat → List Nat
  | [] => []
  | [c] => if c = 34 then [] else [c]
  | c :: c' :: r => if c = 34 then (if c' = 34 then 34 :: p257 r else []) else c :: p257 (c' :: r)
def J257 (x : Str) (l : List Nat) (n : Nat) (m : Str → Option Value) : Prop :=
  ∃ (i : Nat) (j : Int) (y : Str) (t ti td tn : Tok), i ≤ x.cps.size ∧ n = x.cps.size - i ∧ y.cps.toList ++ p257 (x.cps.toList.drop i) = p257 l ∧ j = (i : Int) ∧ y.length ≤ i ∧
    m (Str.ofString "resp") = some (.str x t) ∧ m (Str.ofString "i") = some (.int j ti) ∧ m (Str.ofString "n") = some (.int x.length tn) ∧ m (Str.ofString "dirname") = some (.str y td)
theorem J257_end {y : Str} {l : List Nat} (h : y.cps.toList = p257 l) : (⟨(p257 l).toArray⟩ : Str) = y := str_ext (by simpa using h.symm)
theorem len_app1 {y : Str} {c i : Nat} (h : y.length ≤ i) : (y ++ ⟨#[c]⟩ : Str).length ≤ i + 1 := by
  show (y.cps ++ #[c]).size ≤ _
  rw [Array.size_append]
  have : y.cps.size ≤ i := h
  show y.cps.size + 1 ≤ _
  omega
section
local macro_rules | `(tactic| walk_at "subscriptTail Name Slice str ref") => `(tactic| (k_here; (first
  | k_dflt (refine' slice_strN_ns (hsz := ?hsz) (s := ⟨_, _, _, _, _⟩) ?F ?N ?_; (case hsz => assumption); (case F => k_asm); (case N => k_asm); k_whole)
  | k_dflt (refine' slice_strN_ss (hsz := ?hsz) (s := ⟨_, _, _, _, _⟩) ?F ?N ?_; (case hsz => assumption); (case F => k_asm); (case N => k_asm); k_whole)); intro h' t' k' F' N'; (first | rw [show Txt.slice _ none (some 3) = _ by assumption] | rw [show Txt.slice _ (some 3) (some 5) = _ by assumption])))
local macro_rules | `(tactic| walk_at "call builtin:len") => `(tactic| (k_here; refine P.len_str (by assumption) ?_))
local macro_rules | `(tactic| walk_at "exec While") => `(tactic| (k_here; k_dflt (refine While_todo (by k_asm) (by k_asm) (by passes_own) ?_)))
local macro_rules | `(tactic| walk_at "exec While Compare") => `(tactic| (k_here; k_dflt (refine While_todo (by k_asm) (by k_asm) (by passes_own) ?_)))
local macro_rules | `(tactic| walk_at "eval Name") => `(tactic| (k_here; k_dflt (refine' ld ?k1 ?k2 ?_; (case k1 => k_asm); (case k2 => first | exact rfl | assumption); k_whole)))
local macro_rules | `(tactic| walk_at "subscriptTail Name Name str int") => `(tactic| (k_here; first | k_dflt (refine item_at0 (by assumption) (by assumption) ?_) | k_dflt (refine item_at1 (by assumption) (by assumption) ?_)))
local macro_rules | `(tactic| walk_at "ite") => `(tactic| (k_here; (first | (refine ite_t (by (first | exact decide_eq_true (by omega) | assumption | exact not_t (by assumption) | exact bne_t (by assumption) | decide)) ?_) | (refine ite_f (by ((refine nt_of ?_; first | exact decide_eq_false (by omega) | assumption | exact not_f (by assumption) | exact bne_f (by assumption) | decide))) ?_))))
set_option maxHeartbeats 0 in
theorem c_257 {p : Program} {w : World} {loose : List Str} {mean : ExcName → Option Value} {mg mb : Str → Option Value} (news : List (Addr × Obj)) (x : Str) (l : List Nat) (t : Tok) (hl : l.length ≤ 100000) (hx : x.cps.toList = 50 :: 53 :: 55 :: 32 :: 34 :: l) :
   Cl pw w (KF w.params) p loose mean mg mb 53 1 8 news [.str x t] (fun _ : Tok => True) (fun t => .str ⟨(p257 l).toArray⟩ t) (fun _ => news) := by
  have hsz : x.length ≤ sizeLine := by
    show x.cps.size ≤ _
    rw [← Array.length_toList, hx, sizeLine_eq]; simp; omega
  have hfit : ¬ (x.length : Int) ≥ 2 ^ 63 := by have := sizeLine_eq; omega
  have hl5 : (5 : Int) ≤ x.length := by
    have e : x.length = x.cps.toList.length := Array.length_toList.symm
    rw [e, hx]; simp; omega
  have hs1 : Txt.slice x none (some 3) = Str.ofString "257" := by
    have e := eq_of_beq (slice_closes_toL (x := x) (j := 3) (by decide) (by omega))
    rw [hx] at e; exact e
  have hs2 : Txt.slice x (some 3) (some 5) = Str.ofString " \"" := by
    have e := eq_of_beq (slice_closesL (x := x) (i := 3) (j := 5) (by decide) (by decide) (by omega))
    rw [hx] at e; exact e
  ((intro dp un gd cn cs a ccd cl outer A₀ base h₀ L m s Q E hB hF hX hN hT hK hdp hun hret; have hdp1 : dp + 1 < recursionLimit := (by omega); have hun1 : un + 8 < cLine := (by omega); refine wpAny_call ?_; k_dflt cell_enter))
  refine wpAny_retok fun tk9 => ?_
  k_steps
  refine ⟨J257 x l, _, ⟨5, _, _, _, _, _, _, ?_, rfl, ?_, rfl, Nat.zero_le _, rfl, rfl, rfl, rfl⟩, ?_⟩
  case refine_3 =>
    rintro n m₁ h₁ tk₁ F₁ N₁ ⟨i, j, y, t, ti, td, tn, hi, rfl, hd, rfl, hyl, e1, e2, e3, e4⟩
    have hln : x.cps.toList.length = x.cps.size := Array.length_toList
    have hxl : x.length = x.cps.size := rfl
    rcases Nat.lt_or_ge i x.cps.size with hlt | hge
    · obtain ⟨c, r, hcr⟩ : ∃ c r, x.cps.toList.drop i = c :: r := by
        cases q : x.cps.toList.drop i with
        | nil => rw [List.drop_eq_nil_iff] at q; omega
        | cons c r => exact ⟨c, r, rfl⟩
      have hc : x.cps.toList[i]? = some c := by have := congrArg (fun l => l[0]?) hcr; simpa using this
      have hr : x.cps.toList.drop (i + 1) = r := by rw [← List.drop_drop, hcr]; rfl
      rw [hcr] at hd
      rcases Nat.decEq c 34 with hne | rfl
      · have hb : (({ cps := #[c] } : Str) == Str.ofString "\"") = false := sign_ne hne
        k_steps
        refine WStep.next (J := J257 x l) (n := x.cps.size - i) (n' := x.cps.size - (i + 1)) (by k_asm) (by k_asm) (by omega) ⟨i + 1, (i : Int) + 1, y ++ ⟨#[c]⟩, _, _, _, _, by omega, rfl, ?_, by omega, len_app1 hyl, by first | exact rfl | assumption, by first | exact rfl | assumption, by first | exact rfl | assumption, by first | exact rfl | assumption⟩
        rw [hr, ← hd]
        show (y.cps ++ #[c]).toList ++ _ = _
        cases r <;> simp [p257, hne]
      · have hb : (({ cps := #[34] } : Str) == Str.ofString "\"") = true := by decide
        cases r with
        | nil =>
          have hi1 : i + 1 = x.cps.size := by have := congrArg List.length hr; rw [List.length_drop] at this; simp at this; omega
          k_steps
          refine WStep.brk ?_
          k_steps
          have hJ := J257_end (y := y) (l := l) (by simpa [p257] using hd)
          rw [hJ] at hret
          (exact hret _ _ _ trivial (by k_asm) (by (first | k_asm | exact news_tl (by assumption) | exact news_tl (news_tl (by assumption)) | exact news_tl (news_tl (news_tl (by assumption))))))
        | cons c' r' =>
          have hc' : x.cps.toList[i + 1]? = some c' := by have := congrArg (fun l => l[0]?) hr; simpa using this
          have hi1 : i + 1 < x.cps.size := by have := congrArg List.length hr; rw [List.length_drop] at this; simp at this; omega
          have hr' : x.cps.toList.drop (i + 1 + 1) = r' := by rw [← List.drop_drop, hr]; rfl
          rcases Nat.decEq c' 34 with hne | rfl
          · have hb : (({ cps := #[c'] } : Str) == Str.ofString "\"") = false := sign_ne hne
            k_steps
            refine WStep.brk ?_
            k_steps
            have hJ := J257_end (y := y) (l := l) (by simpa [p257, hne] using hd)
            rw [hJ] at hret
            (exact hret _ _ _ trivial (by k_asm) (by (first | k_asm | exact news_tl (by assumption) | exact news_tl (news_tl (by assumption)) | exact news_tl (news_tl (news_tl (by assumption))))))
          · k_steps
            refine WStep.next (J := J257 x l) (n := x.cps.size - i) (n' := x.cps.size - (i + 1 + 1)) (by k_asm) (by k_asm) (by omega) ⟨i + 1 + 1, (i : Int) + 1 + 1, y ++ ⟨#[34]⟩, _, _, _, _, by omega, rfl, ?_, by omega, Nat.le_succ_of_le (len_app1 hyl), by first | exact rfl | assumption, by first | exact rfl | assumption, by first | exact rfl | assumption, by first | exact rfl | assumption⟩
            rw [hr', ← hd]
            show (y.cps ++ #[34]).toList ++ _ = _
            simp [p257]
    · k_steps
      have : x.cps.toList.drop i = [] := by rw [List.drop_eq_nil_iff]; omega
      have hJ := J257_end (y := y) (l := l) (by simpa [p257, this] using hd)
      rw [hJ] at hret
      (exact hret _ _ _ trivial (by k_asm) (by (first | k_asm | exact news_tl (by assumption) | exact news_tl (news_tl (by assumption)) | exact news_tl (news_tl (news_tl (by assumption))))))
  · have := congrArg List.length hx
    simp at this
    omega
  · rw [hx]; rfl
end
section
local macro_rules | `(tactic| walk_at "setAttr ref") => `(tactic| (k_here; k_dflt (refine' fn_setattr_K ?F ?N ?U ?c ?d ?dd noread_fn ?_; (case F => k_asm); (case N => k_asm); (case U => k_updF); (case c => rfl); (case d => rfl); (case dd => rfl); k_whole); intro D9 h9 tk9 tk99 F9 N9 l9; (try k_lt l9); (try dsimp only at N9); (try k_sweep)))
local macro_rules | `(tactic| walk_at "subscriptTail Name Slice str ref") => `(tactic| (k_here; k_dflt (refine' slice_strK_nn (hsz := ?hsz) (s := ⟨_, _, _, _, _⟩) ?F ?N (by decide) ?_; (case hsz => assumption); (case F => k_asm); (case N => k_asm); k_whole); intro h' t' k' F' N'; rw [rev_slice]))
local macro_rules | `(tactic| walk_at "call type:list") => `(tactic| (k_here; (with_reducible show wpAny _ _ (call (Value.type _) [Value.str _ _]) _ _ _); k_dflt (refine list_str_K (by rfl) (by k_asm) (by k_asm) (by assumption) ?_); intro S' h' tk' ys' c' F' N' sa' l1; (try k_lt l1); (try k_sweep)))
set_option maxHeartbeats 2000000 in
theorem c_streamA {p : Program} {w : World} {loose : List Str} {mean : ExcName → Option Value} {mg mb : Str → Option Value} (news : List (Addr × Obj)) (x : Str) (t : Tok) (hsz : x.length ≤ sizeLine) (h166 : ∀ p ∈ news, p.1 ≠ 166) :
   ClH (fun h => CodeHd h 170 166) pw w (KF w.params) p loose mean mg mb 171 1 8 ((166, tabObj #[]) :: news) [.str x t] (fun z : Strm => z.Ok x ∧ AllLt z.C news) (fun z => .ref z.f1) (fun z => z.objs w ((mg "__name__").getD .none) ++ z.codes ++ news) := by
  have hsz' : (⟨x.cps.toList.reverse.toArray⟩ : Str).length ≤ sizeLine := by simpa [Str.length] using hsz
  ((intro dp un gd cn cs a ccd cl outer A₀ base h₀ L m s Q E hB hF hX hN hT hK hpre hdp hun hret; have hdp1 : dp + 1 < recursionLimit := (by omega); have hun1 : un + 8 < cLine := (by omega); refine wpAny_call ?_))
  k_dflt ((refine' code_defC ?k1 ?k2 ?k3 ?k4 ?k5 ?kA ?kF ?kK ?k6 ?k7 ?k8 ?k9 ?kB ?kD ?_ ?c2 ?c3 ?c4; (case kA => exact rfl); (case kF => exact rfl); (case kK => assumption); (case k1 => k_asm); (case k2 => k_asm); (case k3 => k_asm); (case k4 => k_asm); (case k5 => k_asm); (case k6 => k_is); (case k7 => k_is); (case k8 => ktr_room); (case k9 => exact BindsTo.of_eq rfl); (case kB => exact rfl); (case kD => decide +kernel); (case c2 => exact rfl); (case c3 => exact rfl); (case c4 => exact rfl); k_whole; intro g' L' h' tk' cells' FG' F' N' Y' B' X' T' l1; (try k_lt l1); k_cells Y'; (try simp only [List.cons_append, List.nil_append] at N'); (try dsimp only); (try k_lift B'); (try k_fold)))
  k_steps
  rename_i kF kN _ _
  have kN9 := strm_newsA kN
  refine hret _ _ _ ⟨⟨?_, ?_, ?_, ?_, ?_, ?_, ?_, ?_, ?_, ?_, ?_⟩, ?_⟩ (by k_asm) kN9
  all_goals first
    | k_asm
    | exact ⟨_, _, by assumption, by assumption⟩
    | (dsimp only; omega)
    | exact allLt_mono (And.right (by assumption : 166 < _ ∧ AllLt _ _)) (by dsimp only; omega)
set_option maxHeartbeats 2000000 in
theorem c_streamB {p : Program} {w : World} {loose : List Str} {mean : ExcName → Option Value} {mg mb : Str → Option Value} (news : List (Addr × Obj)) (x : Str) (t : Tok) (hsz : x.length ≤ sizeLine) (h166 : ∀ p ∈ news, p.1 ≠ 166) (c2 c1 : Addr) (o2 o1 : Obj) (k2 : CodeOk o2) (k1 : CodeOk o1) :
   ClH (fun h => CodeHd h 170 166) pw w (KF w.params) p loose mean mg mb 171 1 8 ((166, tabOf c1 c2) :: (c2, o2) :: (c1, o1) :: news) [.str x t] (fun z : Strm => z.Ok x ∧ AllLt z.C news) (fun z => .ref z.f1) (fun z => z.objs w ((mg "__name__").getD .none) ++ z.codes ++ news) := by
  have hsz' : (⟨x.cps.toList.reverse.toArray⟩ : Str).length ≤ sizeLine := by simpa [Str.length] using hsz
  ((intro dp un gd cn cs a ccd cl outer A₀ base h₀ L m s Q E hB hF hX hN hT hK hpre hdp hun hret; have hdp1 : dp + 1 < recursionLimit := (by omega); have hun1 : un + 8 < cLine := (by omega); refine wpAny_call ?_))
  k_dflt ((refine' code_defC ?k1 ?k2 ?k3 ?k4 ?k5 ?kA ?kF ?kK ?k6 ?k7 ?k8 ?k9 ?kB ?kD ?_ ?c2 ?c3 ?c4; (case kA => exact rfl); (case kF => exact rfl); (case kK => assumption); (case k1 => k_asm); (case k2 => k_asm); (case k3 => k_asm); (case k4 => k_asm); (case k5 => k_asm); (case k6 => k_is); (case k7 => k_is); (case k8 => ktr_room); (case k9 => exact BindsTo.of_eq rfl); (case kB => exact rfl); (case kD => decide +kernel); (case c2 => exact rfl); (case c3 => exact rfl); (case c4 => exact rfl); k_whole; intro g' L' h' tk' cells' FG' F' N' Y' B' X' T' l1; (try k_lt l1); k_cells Y'; (try simp only [List.cons_append, List.nil_append] at N'); (try dsimp only); (try k_lift B'); (try k_fold)))
  k_steps
  rename_i kF kN _ _
  have kN9 := strm_newsB kN
  refine hret _ _ _ ⟨⟨?_, ?_, ?_, ?_, ?_, ?_, ?_, ?_, ?_, ?_, ?_⟩, ?_⟩ (by k_asm) kN9
  all_goals first
    | k_asm
    | (dsimp only; omega)
    | exact allLt_mono (And.right (And.right (And.right (by assumption : 166 < _ ∧ _ < _ ∧ _ < _ ∧ AllLt _ _)))) (by dsimp only; omega)
end
section
theorem c_new {p : Program} {w : World} {loose : List Str} {mean : ExcName → Option Value} {mg mb : Str → Option Value} (news : List (Addr × Obj)) (f1 : Addr) :
   Cl pw w (KF w.params) p loose mean mg mb 91 3 32 news [.ref f1] (fun z : Lex => @LT.lt Nat _ z.DX z.X ∧ @LT.lt Nat _ z.X z.P ∧ AllLt z.DX news) (fun z => .ref z.X) (fun z => z.objs w f1 ++ news) := by
  intro dp un gd cn cs a ccd cl outer A₀ base h₀ L m s Q E hB hF hX hN hT hK hdp hun hret
  have hdp1 : dp + 1 < recursionLimit := by omega
  have hun1 : un + 8 < cLine := by omega
  k_dflt (refine' call_cls hF hX hN ?hm ?hi ?hf ?h)
  case hm => k_is
  case hi => k_is
  case hf => k_is
  intro x9 dx9 h9 F9 N9 l9 l99
  replace l9 := allLt_of l9
  k_lt2 l99
  k_dflt cell_enter
  k_steps
  rename_i kF kN _ _
  have kN9 := lex_news kN
  refine hret _ _ _ ⟨?_, ?_, ?_⟩ (by k_asm) kN9
  all_goals first
    | assumption
    | (dsimp only; omega)
end
section
open PyProof.V PySem.Spec
local macro_rules | `(tactic| walk_at "getMethod ref") => `(tactic| (k_here; refine fn_getread (News.get (by assumption) (by k_mem)) (News.get (by assumption) (by k_mem)) rfl ?_; intro tk9; (try dsimp only)))
local macro_rules | `(tactic| walk_at "callWith ref") => `(tactic| (k_here; k_dflt (refine' callWith_F ?k1 ?_; (case k1 => exact FnAt.of (by k_asm) (by k_mem)); k_whole)))
local macro_rules | `(tactic| walk_at "call ref") => `(tactic| (k_here; k_dflt (refine wpAny_call ?_; ((refine' kla_code ?k1 ?k2 ?k3 ?k4 ?k5 ?kA ?kF ?kK ?k6 ?k7 ?k8 ?k9 ?kB ?_ ?c2 ?c3 ?c4 ?c5; (case kA => exact rfl); (case kF => exact rfl); (case kK => exact rfl); (case k1 => k_asm); (case k2 => k_asm); (case k3 => k_asm); (case k4 => k_asm); (case k5 => k_asm); (case k6 => k_mem); (case k7 => exact codeRec_news (by k_asm) (by k_mem) (by assumption) (by assumption)); (case k8 => ktr_room); (case k9 => exact rfl); (case c5 => decide); (case kB => exact locs rfl); (case c2 => exact rfl); (case c3 => exact rfl); (case c4 => exact rfl); k_whole; intro g' L' h' FG' F' N' B' X' T'; (try dsimp only); (try k_lift B'); (try k_fold); k_dflt (refine IfExp_ ?_))))))
local macro_rules | `(tactic| walk_at "eval Name") => `(tactic| (k_here; k_dflt (refine' nameX_F ?N ?c ?m ?d ?_ ?a ?b; (case a => rfl); (case b => rfl); (case N => k_asm); (case c => rfl); (case m => k_mem); (case d => assumption); k_whole)))
local macro_rules | `(tactic| walk_at "compareOp NotEq ref ref") => `(tactic| (k_here; k_dflt (refine' cs_ne (ys := []) (ms := []) ?ha ?hb ?hi .nil ?ho (fun _ h => nomatch h) ?hu ?_; (case ha => exact isl_of (by k_asm) (by k_mem)); (case hb => exact isl_of (n := 0) (by k_asm) (by k_mem)); (case hi => assumption); (case ho => assumption); (case hu => ktr_units); k_whole)))
local macro_rules | `(tactic| walk_at "ite") => `(tactic| (k_here; first | (first | (refine ite_t (by (first | exact decide_eq_true (by omega) | assumption | exact not_t (by assumption) | exact bne_t (by assumption) | decide)) ?_) | (refine ite_f (by ((refine nt_of ?_; first | exact decide_eq_false (by omega) | assumption | exact not_f (by assumption) | exact bne_f (by assumption) | decide))) ?_)) | refine ite_t (by simp) ?_ | refine ite_f (by simp) ?_))
local macro_rules | `(tactic| walk_at "call builtin:list.pop") => `(tactic| (k_here; (try dsimp only); k_dflt (refine' pop_U ?F ?N ?U ?z ?_; (case F => k_asm); (case N => k_asm); (case U => first | assumption | exact updF_on (by assumption) (by first | assumption | exact allLt_of (by assumption))); (case z => assumption); k_whole); intro h' F' N'; (try dsimp only at N')))
set_option maxHeartbeats 400000 in
theorem c_readA {p : Program} {w : World} {loose : List Str} {mean : ExcName → Option Value} {mg mb : Str → Option Value} (news : List (Addr × Obj)) (g : Obj → List (Addr × Obj)) (z : Strm) (y : Lex) (x : Str) (hz : z.Ok x) (pm : Value)
   (vs : List Value) (ns : List Str) (c : Nat) (u : Tok) (k : Nat) (hvs : StrsAre vs ns) (hns : ∀ y ∈ ns, PyData.strOk y = true) (hc : c < 0x110000) (hc10 : c ≠ 10) (hlen : vs.length + 1 ≤ sizeLine) (hU : UpdF z.S (listOf (vs ++ [Value.str ⟨#[c]⟩ u]).toArray k) news g)
   (h1 : (y.X, instObj 91 y.DX) ∈ news) (h2 : (y.DX, dictOf (y.es w z.f1) 4) ∈ news) (h3 : (z.f1, { lamS pm z.c1 z.ct1 with dict := some z.D }) ∈ news) (h4 : (z.D, dictR w (Str.ofString "read") z.tR (.ref z.f2)) ∈ news)
   (h5 : (z.f2, lamR pm z.C z.c2 z.ct2) ∈ news) (h6 : (z.c2, z.o2) ∈ news) (h7 : (z.C, z.oC) ∈ news) :
   ClC pw w (KF w.params) p loose mean mg mb 74 3 96 news [.ref y.X] (fun _ : Unit => True) (fun _ => .str ⟨#[c]⟩ u) (fun _ => g (listOf vs.toArray (k + 1))) := by
  obtain ⟨vs2, t2, d1, d2⟩ := hz.ok2
  have hdC := hz.cell
  have hS := updF_mem hU
  have hvs' := strsAre_snoc hvs ⟨#[c]⟩ u
  have hns' : ∀ y ∈ ns ++ [(⟨#[c]⟩ : Str)], PyData.strOk y = true := by
    intro y hy
    rcases List.mem_append.mp hy with hy | hy
    · exact hns y hy
    · rw [List.mem_singleton.mp hy]; simp [PyData.strOk]; exact hc
  have hz9 : (vs ++ [Value.str ⟨#[c]⟩ u]).length ≤ sizeLine := by simpa using hlen
  have hb : (({ cps := #[c] } : Str) == Str.ofString "\n") = false := sign_ne hc10
  ((intro dp un gd cn cs a ccd cl outer A₀ base h₀ L m s Q E hB hF hX hN hT hK hdp hun hret; have hdp1 : dp + 1 < recursionLimit := (by omega); have hun1 : un + 8 < cLine := (by omega); k_dflt cell_enter))
  refine wpAny_retok fun tk9 => ?_
  k_steps
  (exact hret () _ _ trivial (by k_asm) (by (first | k_asm | exact news_tl (by assumption) | exact news_tl (news_tl (by assumption)) | exact news_tl (news_tl (news_tl (by assumption))))))
set_option maxHeartbeats 400000 in
theorem c_readB {p : Program} {w : World} {loose : List Str} {mean : ExcName → Option Value} {mg mb : Str → Option Value} (news : List (Addr × Obj)) (z : Strm) (y : Lex) (x : Str) (hz : z.Ok x) (pm : Value) (k : Nat)
   (hS : (z.S, listOf ([] : List Value).toArray k) ∈ news)
   (h1 : (y.X, instObj 91 y.DX) ∈ news) (h2 : (y.DX, dictOf (y.es w z.f1) 4) ∈ news) (h3 : (z.f1, { lamS pm z.c1 z.ct1 with dict := some z.D }) ∈ news) (h4 : (z.D, dictR w (Str.ofString "read") z.tR (.ref z.f2)) ∈ news)
   (h5 : (z.f2, lamR pm z.C z.c2 z.ct2) ∈ news) (h6 : (z.c2, z.o2) ∈ news) (h7 : (z.C, z.oC) ∈ news) :
   ClC pw w (KF w.params) p loose mean mg mb 74 3 96 news [.ref y.X] (fun _ : Tok => True) (fun t => .str (Str.ofString "") t) (fun _ => news) := by
  obtain ⟨vs2, t2, d1, d2⟩ := hz.ok2
  have hdC := hz.cell
  have hvs' : StrsAre [] [] := .nil
  have hns' : ∀ y ∈ ([] : List Str), PyData.strOk y = true := fun _ h => nomatch h
  ((intro dp un gd cn cs a ccd cl outer A₀ base h₀ L m s Q E hB hF hX hN hT hK hdp hun hret; have hdp1 : dp + 1 < recursionLimit := (by omega); have hun1 : un + 8 < cLine := (by omega); k_dflt cell_enter))
  refine wpAny_retok fun tk9 => ?_
  k_steps
  all_goals first | (exact hret _ _ _ trivial (by k_asm) (by (first | k_asm | exact news_tl (by assumption) | exact news_tl (news_tl (by assumption)) | exact news_tl (news_tl (news_tl (by assumption))))))
end
-- the reader's iterator: its next
structure LexIn (w : World) (pm : Value) (z : Strm) (y : Lex) (x : Str) (news : List (Addr × Obj)) : Prop where
  ok : z.Ok x
  h0 : (y.P, listOf #[] 0) ∈ news
  h1 : (y.X, instObj 91 y.DX) ∈ news
  h2 : (y.DX, dictOf (y.es w z.f1) 4) ∈ news
  h3 : (z.f1, { lamS pm z.c1 z.ct1 with dict := some z.D }) ∈ news
  h4 : (z.D, dictR w (Str.ofString "read") z.tR (.ref z.f2)) ∈ news
  h5 : (z.f2, lamR pm z.C z.c2 z.ct2) ∈ news
  h6 : (z.c2, z.o2) ∈ news
  h7 : (z.C, z.oC) ∈ news
theorem LexIn.on {w : World} {pm : Value} {z : Strm} {y : Lex} {x : Str} {news : List (Addr × Obj)} (h : LexIn w pm z y x news) (q : Addr × Obj) : LexIn w pm z y x (q :: news) :=
  ⟨h.ok, .tail _ h.h0, .tail _ h.h1, .tail _ h.h2, .tail _ h.h3, .tail _ h.h4, .tail _ h.h5, .tail _ h.h6, .tail _ h.h7⟩
section
variable {w : World} {p : Program} {loose : List Str} {mean : ExcName → Option Value} {mg mb : Str → Option Value}
  {dp un : Nat} {gd : Option (List Code)} {cn : Str} {cs : Scope} {a : Addr} {ccd : Value} {cl : List (Str × Addr)} {outer : List Env} {A₀ : Around} {base h₀ : Heap} {L : Addr} {m : Str → Option Value} {s : Shared} {E : Value → Shared → Prop}
theorem next_sign {z : Strm} {y : Lex} {x : Str} {pm : Value} {news : List (Addr × Obj)} {g : Obj → List (Addr × Obj)} {I B : Addr} {st : Tok} {vs : List Value} {ns : List Str} {c : Nat} {u : Tok} {k : Nat} {Q : Option Value → Shared → Prop}
    (hB : Below A₀ base outer h₀) (F : Fr h₀ L s.heap m) (X₀ : (KF w.params).In h₀) (N : News h₀ L s.heap news) (T : Top p loose mean mg mb h₀) (hK : cs.kind = .function) (hdp : dp + 3 < recursionLimit) (hun : un + 100 < cLine)
    (hL : LexIn w pm z y x news) (hvs : StrsAre vs ns) (hns : ∀ y ∈ ns, PyData.strOk y = true) (hc : c < 0x110000) (hc10 : c ≠ 10) (hlen : vs.length + 1 ≤ sizeLine) (hU : UpdF z.S (listOf (vs ++ [Value.str ⟨#[c]⟩ u]).toArray k) news g)
    (hI : (I, ciObj (.ref B) (.str (Str.ofString "") st)) ∈ news) (hBm : (B, methodObj (.ref 74) (.ref y.X)) ∈ news) (hIS : I ≠ z.S) (hBS : B ≠ z.S)
    (h : ∀ h' tk', Fr h₀ L h' m → News h₀ L h' (g (listOf vs.toArray (k + 1))) → Q (some (.str ⟨#[c]⟩ u)) { s with heap := h', toks := tk' }) :
    wpAny (model pw w) (ktrTop dp un gd cn cs L a ccd cl outer) (pyNext (.ref I)) Q E s := by
  refine ci_next (A := ktrTop dp un gd cn cs L a ccd cl outer) rfl (N _ hI).1 (N _ hBm).1 (F.keep _ _ (X₀ 74 _ rfl)) rfl (method_call (N _ hBm).1 ?_)
  have C := c_readA (p := p) (w := w) (loose := loose) (mean := mean) (mg := mg) (mb := mb) news g z y x hL.ok pm vs ns c u k hvs hns hc hc10 hlen hU hL.h1 hL.h2 hL.h3 hL.h4 hL.h5 hL.h6 hL.h7
  refine codeAny_mono (C dp (un + 1) gd cn cs a ccd cl outer A₀ base h₀ L m s
    (fun v s' => v = .str ⟨#[c]⟩ u ∧ ∃ h' tk', s' = { s with heap := h', toks := tk' } ∧ Fr h₀ L h' m ∧ News h₀ L h' (g (listOf vs.toArray (k + 1)))) (fun _ _ => False) hB F X₀ N T hK hdp (by omega) fun _ h' tk' _ F' N' => ⟨rfl, h', tk', rfl, F', N'⟩) ?_
  intro r s' hr
  cases r with
  | error e => exact hr
  | ok fl =>
    cases fl with
    | ret v =>
      obtain ⟨rfl, h', tk', rfl, F', N'⟩ := hr
      refine ⟨_, _, rfl, (N' _ (updF_keep hU hI hIS _)).1, (N' _ (updF_keep hU hBm hBS _)).1, F'.keep _ _ (X₀ 74 _ rfl), ?_⟩
      rw [if_neg (by intro e; injection e with e; cases e)]
      exact h h' tk' F' N'
    | _ => exact hr
theorem next_end {z : Strm} {y : Lex} {x : Str} {pm : Value} {pre : List (Addr × Obj)} {I B : Addr} {st : Tok} {k : Nat} {Q : Option Value → Shared → Prop}
    (hB : Below A₀ base outer h₀) (F : Fr h₀ L s.heap m) (X₀ : (KF w.params).In h₀) (N : News h₀ L s.heap ((I, ciObj (.ref B) (.str (Str.ofString "") st)) :: pre)) (T : Top p loose mean mg mb h₀) (hK : cs.kind = .function) (hdp : dp + 3 < recursionLimit) (hun : un + 100 < cLine)
    (hL : LexIn w pm z y x pre) (hS : (z.S, listOf ([] : List Value).toArray k) ∈ pre) (hBm : (B, methodObj (.ref 74) (.ref y.X)) ∈ pre) (hne : ∀ q ∈ pre, q.1 ≠ I)
    (h : ∀ h' tk', Fr h₀ L h' m → News h₀ L h' ((I, ciEnd) :: pre) → Q none { s with heap := h', toks := tk' }) :
    wpAny (model pw w) (ktrTop dp un gd cn cs L a ccd cl outer) (pyNext (.ref I)) Q E s := by
  have hI := N _ (.head _)
  have hB1 := N _ (.tail _ hBm)
  refine ci_next (A := ktrTop dp un gd cn cs L a ccd cl outer) rfl hI.1 hB1.1 (F.keep _ _ (X₀ 74 _ rfl)) rfl (method_call hB1.1 ?_)
  have hL' := hL.on (I, ciObj (.ref B) (.str (Str.ofString "") st))
  have C := c_readB (p := p) (w := w) (loose := loose) (mean := mean) (mg := mg) (mb := mb) _ z y x hL'.ok pm k (.tail _ hS) hL'.h1 hL'.h2 hL'.h3 hL'.h4 hL'.h5 hL'.h6 hL'.h7
  refine codeAny_mono (C dp (un + 1) gd cn cs a ccd cl outer A₀ base h₀ L m s
    (fun v s' => ∃ t, v = .str (Str.ofString "") t ∧ ∃ h' tk', s' = { s with heap := h', toks := tk' } ∧ Fr h₀ L h' m ∧ News h₀ L h' ((I, ciObj (.ref B) (.str (Str.ofString "") st)) :: pre)) (fun _ _ => False) hB F X₀ N T hK hdp (by omega) fun t h' tk' _ F' N' => ⟨t, rfl, h', tk', rfl, F', N'⟩) ?_
  intro r s' hr
  cases r with
  | error e => exact hr
  | ok fl =>
    cases fl with
    | ret v =>
      obtain ⟨t, rfl, h', tk', rfl, F', N'⟩ := hr
      have hI' := N' _ (.head _)
      refine ⟨_, _, rfl, hI'.1, (N' _ (.tail _ hBm)).1, F'.keep _ _ (X₀ 74 _ rfl), ?_⟩
      rw [if_pos rfl]
      intro h2 e2 k2
      refine h h2 tk' (LCg.fr_but F' (fun b o hb e => k2 b o (fun q => hb (by rw [q]; exact List.mem_singleton.mpr rfl)) e) (Ne.symm hI'.2.1) hI'.2.2) (fun q hq => ?_)
      rcases List.mem_cons.mp hq with rfl | hq
      · exact ⟨e2, hI'.2⟩
      · exact ⟨k2 _ _ (hne q hq) (N' _ (.tail _ hq)).1, (N' _ (.tail _ hq)).2⟩
    | _ => exact hr
theorem next_over {I : Addr} {pre : List (Addr × Obj)} {Q : Option Value → Shared → Prop} (F : Fr h₀ L s.heap m) (N : News h₀ L s.heap ((I, ciEnd) :: pre))
    (h : ∀ h', Fr h₀ L h' m → News h₀ L h' ((I, ciEnd) :: pre) → Q none { s with heap := h' }) :
    wpAny (model pw w) (ktrTop dp un gd cn cs L a ccd cl outer) (pyNext (.ref I)) Q E s :=
  ci_next_ended rfl (N _ (.head _)).1 fun h' hk => h h' (F.keeps hk) fun q hq => ⟨hk _ _ (N q hq).1, (N q hq).2⟩
end
section
variable {prog : Program} {w : World} {A : Around} {E : Value → Shared → Prop} {s : Shared} {x y : Str} {t u : Tok}
theorem in_no {Q : Value → Shared → Prop} (hw : (!(Builtin.Str.occurrences x y 0 x.length 1).isEmpty) = false) (h : Q (.bool false) s) : wpAny (model prog w) A (compareOp .In (.str y u) (.str x t)) Q E s :=
  in_str (by rw [hw]; exact h)
end
section
local macro_rules | `(tactic| walk_at "exec For Name Name cons nil") => `(tactic| (k_here; k_dflt (refine' For_todo ?F ?N ?m ?I rfl rfl (by decide) (by passes_own) ?_; (case F => k_asm); (case N => k_asm); (case m => first | exact rfl | assumption); (case I => k_mem); k_whole)))
local macro_rules | `(tactic| walk_at "exec For Name Name") => `(tactic| (k_here; k_dflt (refine' For_todo ?F ?N ?m ?I rfl rfl (by decide) (by passes_own) ?_; (case F => k_asm); (case N => k_asm); (case m => first | exact rfl | assumption); (case I => k_mem); k_whole)))
local macro_rules | `(tactic| walk_at "truthy ref") => `(tactic| (k_here; k_dflt (refine wpAny_truthy_list (isl_of (xs := []) (n := 0) (by k_asm) (by assumption)) (by decide) ?_)))
local macro_rules | `(tactic| walk_at "call builtin:iter") => `(tactic| (k_here; k_dflt (refine' iter2_K ?F ?N ?m ?_; (case F => k_asm); (case N => k_asm); (case m => k_mem); k_whole); intro I9 h9 F9 N9 l9))
local macro_rules | `(tactic| walk_at "compareOp In str str") => `(tactic| (k_here; k_dflt (refine in_no (by assumption) ?_)))
local macro_rules | `(tactic| walk_at "loadName") => `(tactic| (k_here; k_dflt (refine' ldn ?k1 ?k2 ?_; (case k1 => k_asm); (case k2 => first | exact rfl | assumption); k_whole)))
local macro_rules | `(tactic| walk_at "ite") => `(tactic| (k_here; (first | (refine ite_t (by (first | exact decide_eq_true (by omega) | assumption | exact not_t (by assumption) | exact bne_t (by assumption) | decide)) ?_) | (refine ite_f (by ((refine nt_of ?_; first | exact decide_eq_false (by omega) | assumption | exact not_f (by assumption) | exact bne_f (by assumption) | decide))) ?_))))
local macro_rules | `(tactic| walk_at "eval Name") => `(tactic| (k_here; k_dflt (refine' ld ?k1 ?k2 ?_; (case k1 => k_asm); (case k2 => assumption); k_whole)))
def JOut (w : World) (I B : Addr) (g : Obj → List (Addr × Obj)) (y : Lex) (st : Tok) (cur : List Nat) (vs : List Value) (k : Nat) (n : Nat) (m : Str → Option Value) (news : List (Addr × Obj)) : Prop :=
  (n = 2 ∧ news = (I, ciObj (.ref B) (.str (Str.ofString "") st)) :: (B, methodObj (.ref 74) (.ref y.X)) :: g (listOf vs.toArray k) ∧ m (Str.ofString "self") = some (.ref y.X) ∧ m (Str.ofString "fiter") = some (.ref I) ∧ ∃ t, m (Str.ofString "token") = some (.str (Str.ofString "") t))
  ∨ (n = 1 ∧ ∃ k', news = (I, ciEnd) :: (B, methodObj (.ref 74) (.ref y.X)) :: g (listOf ([] : List Value).toArray k') ∧ ∃ tk t, m (Str.ofString "token") = some (.str tk t) ∧ tk.cps.toList = (tokOf cur).1 ∧ (tokOf cur).2 = [])
def TokOk (c : Nat) : Prop := c < 0x110000 ∧ c ≠ 10 ∧ c ≠ 9 ∧ c ≠ 13 ∧ c ≠ 32
theorem ws_no {c : Nat} (h : TokOk c) : (!(Builtin.Str.occurrences wsp ⟨#[c]⟩ 0 wsp.length 1).isEmpty) = false := by
  rw [PySem.StrLaws.found_one]
  obtain ⟨h0, h1, h2, h3, h4⟩ := h
  refine decide_eq_false ?_
  show c ∉ [10, 9, 13, 32]
  simp [h1, h2, h3, h4]
def JIn (G : List Nat → List Nat × Option (List Nat)) (I B : Addr) (g : Obj → List (Addr × Obj)) (y : Lex) (st : Tok) (out : List Nat × Option (List Nat)) (n : Nat) (m : Str → Option Value) (news : List (Addr × Obj)) : Prop :=
  ∃ (cur : List Nat) (vs : List Value) (k : Nat) (acc : Str) (t : Tok), n = cur.length + 1 ∧ Holds vs cur ∧ news = (I, ciObj (.ref B) (.str (Str.ofString "") st)) :: (B, methodObj (.ref 74) (.ref y.X)) :: g (listOf vs.toArray k) ∧ m (Str.ofString "self") = some (.ref y.X) ∧ m (Str.ofString "fiter") = some (.ref I) ∧ m (Str.ofString "token") = some (.str acc t) ∧ acc.cps.toList ++ (G cur).1 = out.1 ∧ (G cur).2 = out.2 ∧ (∀ c ∈ cur, TokOk c) ∧ acc.length + cur.length ≤ 100000
set_option maxHeartbeats 0 in
theorem c_tok {p : Program} {w : World} {loose : List Str} {mean : ExcName → Option Value} {mg mb : Str → Option Value} (news : List (Addr × Obj)) (g : Obj → List (Addr × Obj)) (z : Strm) (y : Lex) (x : Str) (pm : Value)
   (cur : List Nat) (vs : List Value) (k : Nat) (hv : Holds vs cur) (hU : UpdF z.S (listOf vs.toArray k) news g) (hg : ∀ o, LexIn w pm z y x (g o)) (hgn : news = g (listOf vs.toArray k)) (hok : ∀ c ∈ cur, TokOk c) (hlen : cur.length ≤ 100000) :
   Cl pw w (KF w.params) p loose mean mg mb 81 4 128 news [.ref y.X] (fun q : Tok × Nat × List Value => Holds q.2.2 (tokOf cur).2) (fun q => .str ⟨(tokOf cur).1.toArray⟩ q.1) (fun q => g (listOf q.2.2.toArray q.2.1)) := by
  have hL := hgn ▸ hg (listOf vs.toArray k)
  have h0 := hL.h0
  have h1 := hL.h1
  have h2 := hL.h2
  ((intro dp un gd cn cs a ccd cl outer A₀ base h₀ L m s Q E hB hF hX hN hT hK hdp hun hret; have hdp1 : dp + 1 < recursionLimit := (by omega); have hun1 : un + 8 < cLine := (by omega); refine wpAny_call ?_; k_dflt cell_enter))
  refine wpAny_retok fun tk9 => ?_
  k_steps
  refine' ⟨JOut w _ _ g y _ cur vs k, 2, .inl ⟨rfl, ?a1, rfl, rfl, _, rfl⟩, ?a2⟩
  case a1 => rw [hgn]
  case a2 =>
    rintro n m₁ news₁ h₁ tk₁ F₁ N₁ (⟨rfl, rfl, e1, e2, t, e3⟩ | ⟨rfl, k', rfl, tkn, t, e1, e2, e3⟩)
    · have hIS : ∀ I9 B9 : Addr, (∀ p ∈ (B9, methodObj (.ref 74) (.ref y.X)) :: news, @LT.lt Nat _ p.1 I9) → @Ne Nat I9 z.S := fun I9 B9 h => Nat.ne_of_gt (h _ (.tail _ (updF_mem hU)))
      have hBS : ∀ B9 : Addr, (∀ p ∈ news, @LT.lt Nat _ p.1 B9) → @Ne Nat B9 z.S := fun B9 h => Nat.ne_of_gt (h _ (updF_mem hU))
      have hI := hIS _ _ (by assumption)
      have hB := hBS _ (by assumption)
      have hne : ∀ (I9 B9 : Addr) (o' : Obj), (∀ p ∈ (B9, methodObj (.ref 74) (.ref y.X)) :: news, @LT.lt Nat _ p.1 I9) → ∀ q ∈ (B9, methodObj (.ref 74) (.ref y.X)) :: g o', q.1 ≠ I9 := fun I9 B9 o' h q hq => by
        rcases List.mem_cons.mp hq with rfl | hq
        · exact Nat.ne_of_lt (h _ (.head _))
        · exact updF_addr hU (P := fun a => a ≠ I9) (fun q hq => Nat.ne_of_lt (h q (.tail _ hq))) q hq
      have hI9 := fun o' => hne _ _ o' (by assumption)
      cases cur with
      | nil =>
        obtain rfl := holds_nil hv
        k_dflt (refine next_end (by k_asm) F₁ (by k_asm) N₁ (by k_asm) rfl (by ktr_room) (by ktr_units) ((hg _).on _) (.tail _ (updF_mem (updF_re hU _))) (.head _) (hI9 _) fun h' tk' F' N' => ?_)
        dsimp only
        k_steps
        exact hret (t, k, []) _ _ StrsAre.nil (by k_asm) (news_tl (news_tl (by assumption)))
      | cons c r =>
        obtain ⟨us, u, rfl, hv'⟩ := holds_cons hv
        have hc := hok c (.head _)
        k_dflt (refine next_sign (by k_asm) F₁ (by k_asm) N₁ (by k_asm) rfl (by ktr_room) (by ktr_units) (((hg _).on _).on _) hv' (okAll fun d hd => (hok d (.tail _ hd)).1) hc.1 hc.2.1 (holds_len hv' (by simp at hlen; omega)) (UpdF.tail hI (UpdF.tail hB (updF_re hU _))) (.head _) (.tail _ (.head _)) hI hB fun h' tk' F' N' => ?_)
        dsimp only at N' ⊢
        have hL2 := hg (listOf us.toArray (k + 1))
        have h12 := hL2.h1
        have h22 := hL2.h2
        have hw := ws_no hc
        rcases Nat.decEq c 34 with hne | rfl
        · have hb : (({ cps := #[c] } : Str) == Str.ofString "\"") = false := sign_ne hne
          have hL4 := fun I9 q9 st9 => (hL2.on (q9, methodObj (.ref 74) (.ref y.X))).on (I9, ciObj (.ref q9) (.str (Str.ofString "") st9))
          rcases Nat.decEq c 92 with hne2 | rfl
          · have hb2 : (({ cps := #[c] } : Str) == Str.ofString "\\") = false := sign_ne hne2
            k_steps
            refine ⟨JIn (fun l => (unq l, none)) _ _ g y _ (c :: unq r, none), r.length + 1, ⟨r, us, k + 1, _, _, rfl, hv', rfl, by (first | exact rfl | assumption), by (first | exact rfl | assumption), by (first | exact rfl | assumption), ?c1, rfl, fun d hd => hok d (.tail _ hd), ?c2⟩, ?c3⟩
            case c1 => rw [app_ls]; rfl
            case c2 => have := len_app (y := Str.ofString "") (c := c) (Nat.le_refl _); have e0 : (Str.ofString "").length = 0 := rfl; simp at hlen; omega
            case c3 =>
              rintro n m₂ news₂ h₂ tk₂ F₂ N₂ ⟨cur', vs', k', acc, ta, rfl, hv2, rfl, f1, f2, f3, f4, f5, hok2, hl2⟩
              dsimp only at f4 f5
              cases cur' with
              | nil =>
                obtain rfl := holds_nil hv2
                rw [unq_n] at f4
                k_dflt (refine next_end (by k_asm) F₂ (by k_asm) N₂ (by k_asm) rfl (by ktr_room) (by ktr_units) ((hg _).on _) (.tail _ (updF_mem (updF_re hU _))) (.head _) (hI9 _) fun h' tk' F' N' => ?_)
                dsimp only
                k_steps
                refine FStep.next (n := 2) (n' := 1) (by k_asm) (by k_asm) (by decide) (.inr ⟨rfl, k', rfl, acc, ta, f3, ?_, ?_⟩)
                · rw [tokOf_o hne hne2]; simpa using f4
                · rw [tokOf_o hne hne2]
              | cons d r' =>
                obtain ⟨us', u', rfl, hv3⟩ := holds_cons hv2
                have hd := hok2 d (.head _)
                have hwd := ws_no hd
                k_dflt (refine next_sign (by k_asm) F₂ (by k_asm) N₂ (by k_asm) rfl (by ktr_room) (by ktr_units) (((hg _).on _).on _) hv3 (okAll fun e he => (hok2 e (.tail _ he)).1) hd.1 hd.2.1 (holds_len hv3 (by simp at hl2; omega)) (UpdF.tail hI (UpdF.tail hB (updF_re hU _))) (.head _) (.tail _ (.head _)) hI hB fun h' tk' F' N' => ?_)
                dsimp only at N' ⊢
                have hL3 := hg (listOf us'.toArray (k' + 1))
                have h13 := hL3.h1
                have h23 := hL3.h2
                have hL4 := fun I9 q9 st9 => (hL3.on (q9, methodObj (.ref 74) (.ref y.X))).on (I9, ciObj (.ref q9) (.str (Str.ofString "") st9))
                rcases Nat.decEq d 92 with hne2 | rfl
                · have hb2 : (({ cps := #[d] } : Str) == Str.ofString "\\") = false := sign_ne hne2
                  k_steps
                  refine FStep.next (J := JIn (fun l => (unq l, none)) _ _ g y _ (c :: unq r, none)) (n := r'.length + 1 + 1) (n' := r'.length + 1) (by k_asm) (by k_asm) (by omega) ⟨r', us', k' + 1, _, _, rfl, hv3, rfl, by (first | exact rfl | assumption), by (first | exact rfl | assumption), by (first | exact rfl | assumption), ?d1, rfl, fun e he => hok2 e (.tail _ he), ?d3⟩
                  case d1 => refine Eq.trans ?_ f4; dsimp only; rw [app_ls, unq_o hne2]; simp
                  case d3 => have := len_app (y := acc) (c := d) (Nat.le_refl _); simp at hl2 ⊢; omega
                · have hb2 : (({ cps := #[92] } : Str) == Str.ofString "\\") = true := by decide
                  have hwd2 : (!(Builtin.Str.occurrences wsp (Str.ofString "\\") 0 wsp.length 1).isEmpty) = false := hwd
                  cases r' with
                  | nil =>
                    obtain rfl := holds_nil hv3
                    k_steps
                    dsimp only [List.append_nil]
                    ((refine' ((c_readB _ z y x hL3.ok pm _ (.tail _ (.tail _ (updF_mem (updF_re hU _)))) (hL4 _ _ _).h1 (hL4 _ _ _).h2 (hL4 _ _ _).h3 (hL4 _ _ _).h4 (hL4 _ _ _).h5 (hL4 _ _ _).h6 (hL4 _ _ _).h7).cl) _ _ _ _ _ _ _ _ _ _ _ _ _ _ _ _ _ ?k1 ?k2 ?k3 ?k4 ?k5 ?kK ?kd ?ku ?_; (case k1 => k_asm); (case k2 => k_asm); (case k3 => k_asm); (case k4 => k_asm); (case k5 => k_asm); (case kK => first | exact rfl | assumption); (case kd => ktr_room); (case ku => ktr_units); intro a9 h9 tk9 p9 F9 N9; (try dsimp only)))
                    k_steps
                    refine FStep.next (J := JIn (fun l => (unq l, none)) _ _ g y _ (c :: unq r, none)) (n := [92].length + 1) (n' := 0 + 1) (by k_asm) (by k_asm) (by decide) ⟨[], [], k' + 1, _, _, rfl, .nil, rfl, by (first | exact rfl | assumption), by (first | exact rfl | assumption), by (first | exact rfl | assumption), ?d1, rfl, fun _ he => absurd he List.not_mem_nil, ?d3⟩
                    case d1 => refine Eq.trans ?_ f4; dsimp only; rw [app_nil, unq_b0, unq_n]
                    case d3 => rw [app_nil]; exact Nat.le_of_succ_le hl2
                  | cons e r2 =>
                    obtain ⟨us2, u2, rfl, hv4⟩ := holds_cons hv3
                    have he := hok2 e (.tail _ (.head _))
                    k_steps
                    dsimp only [List.append_nil]
                    ((refine' ((c_readA _ (fun o => (_ :: _ :: g o)) z y x hL3.ok pm us2 _ e u2 (k' + 1) hv4 (okAll fun a ha => (hok2 a (.tail _ (.tail _ ha))).1) he.1 he.2.1 (holds_len hv4 (by simp at hl2; omega)) (UpdF.tail hI (UpdF.tail hB (updF_re hU _))) (hL4 _ _ _).h1 (hL4 _ _ _).h2 (hL4 _ _ _).h3 (hL4 _ _ _).h4 (hL4 _ _ _).h5 (hL4 _ _ _).h6 (hL4 _ _ _).h7).cl) _ _ _ _ _ _ _ _ _ _ _ _ _ _ _ _ _ ?k1 ?k2 ?k3 ?k4 ?k5 ?kK ?kd ?ku ?_; (case k1 => k_asm); (case k2 => k_asm); (case k3 => k_asm); (case k4 => k_asm); (case k5 => k_asm); (case kK => first | exact rfl | assumption); (case kd => ktr_room); (case ku => ktr_units); intro a9 h9 tk9 p9 F9 N9; (try dsimp only)))
                    k_steps
                    refine FStep.next (J := JIn (fun l => (unq l, none)) _ _ g y _ (c :: unq r, none)) (n := (92 :: e :: r2).length + 1) (n' := r2.length + 1) (by k_asm) (by k_asm) (by simp) ⟨r2, us2, k' + 1 + 1, _, _, rfl, hv4, rfl, by (first | exact rfl | assumption), by (first | exact rfl | assumption), by (first | exact rfl | assumption), ?d1, rfl, fun a ha => hok2 a (.tail _ (.tail _ ha)), ?d3⟩
                    case d1 => refine Eq.trans ?_ f4; dsimp only; rw [app_ls, unq_b]; simp
                    case d3 => have := len_app (y := acc) (c := e) (Nat.le_refl _); simp at hl2 ⊢; omega
          · have hb2 : (({ cps := #[92] } : Str) == Str.ofString "\\") = true := by decide
            have hb3 : (Str.ofString "\\" == Str.ofString "\"") = false := by decide
            have hw2 : (!(Builtin.Str.occurrences wsp (Str.ofString "\\") 0 wsp.length 1).isEmpty) = false := hw
            cases r with
            | nil =>
              obtain rfl := holds_nil hv'
              k_steps
              dsimp only [List.append_nil]
              ((refine' ((c_readB _ z y x hL2.ok pm _ (.tail _ (.tail _ (updF_mem (updF_re hU _)))) (hL4 _ _ _).h1 (hL4 _ _ _).h2 (hL4 _ _ _).h3 (hL4 _ _ _).h4 (hL4 _ _ _).h5 (hL4 _ _ _).h6 (hL4 _ _ _).h7).cl) _ _ _ _ _ _ _ _ _ _ _ _ _ _ _ _ _ ?k1 ?k2 ?k3 ?k4 ?k5 ?kK ?kd ?ku ?_; (case k1 => k_asm); (case k2 => k_asm); (case k3 => k_asm); (case k4 => k_asm); (case k5 => k_asm); (case kK => first | exact rfl | assumption); (case kd => ktr_room); (case ku => ktr_units); intro a9 h9 tk9 p9 F9 N9; (try dsimp only)))
              k_steps
              refine ⟨JIn (fun l => (unq l, none)) _ _ g y _ (([] : List Nat), none), 0 + 1, ⟨[], [], k + 1, _, _, rfl, .nil, rfl, by (first | exact rfl | assumption), by (first | exact rfl | assumption), by (first | exact rfl | assumption), ?c1, rfl, fun _ he => absurd he List.not_mem_nil, ?c2⟩, ?c3⟩
              case c1 => dsimp only; rw [unq_n]; rfl
              case c2 => decide
              case c3 =>
                rintro n m₂ news₂ h₂ tk₂ F₂ N₂ ⟨cur', vs', k', acc, ta, rfl, hv2, rfl, f1, f2, f3, f4, f5, hok2, hl2⟩
                dsimp only at f4 f5
                cases cur' with
                | nil =>
                  obtain rfl := holds_nil hv2
                  rw [unq_n] at f4
                  k_dflt (refine next_end (by k_asm) F₂ (by k_asm) N₂ (by k_asm) rfl (by ktr_room) (by ktr_units) ((hg _).on _) (.tail _ (updF_mem (updF_re hU _))) (.head _) (hI9 _) fun h' tk' F' N' => ?_)
                  dsimp only
                  k_steps
                  refine FStep.next (n := 2) (n' := 1) (by k_asm) (by k_asm) (by decide) (.inr ⟨rfl, k', rfl, acc, ta, f3, ?_, ?_⟩)
                  · rw [tokOf_b0]; simpa using f4
                  · rw [tokOf_b0]
                | cons d r' =>
                  obtain ⟨us', u', rfl, hv3⟩ := holds_cons hv2
                  have hd := hok2 d (.head _)
                  have hwd := ws_no hd
                  k_dflt (refine next_sign (by k_asm) F₂ (by k_asm) N₂ (by k_asm) rfl (by ktr_room) (by ktr_units) (((hg _).on _).on _) hv3 (okAll fun e he => (hok2 e (.tail _ he)).1) hd.1 hd.2.1 (holds_len hv3 (by simp at hl2; omega)) (UpdF.tail hI (UpdF.tail hB (updF_re hU _))) (.head _) (.tail _ (.head _)) hI hB fun h' tk' F' N' => ?_)
                  dsimp only at N' ⊢
                  have hL3 := hg (listOf us'.toArray (k' + 1))
                  have h13 := hL3.h1
                  have h23 := hL3.h2
                  have hL4 := fun I9 q9 st9 => (hL3.on (q9, methodObj (.ref 74) (.ref y.X))).on (I9, ciObj (.ref q9) (.str (Str.ofString "") st9))
                  rcases Nat.decEq d 92 with hne2 | rfl
                  · have hb2 : (({ cps := #[d] } : Str) == Str.ofString "\\") = false := sign_ne hne2
                    k_steps
                    refine FStep.next (J := JIn (fun l => (unq l, none)) _ _ g y _ (([] : List Nat), none)) (n := r'.length + 1 + 1) (n' := r'.length + 1) (by k_asm) (by k_asm) (by omega) ⟨r', us', k' + 1, _, _, rfl, hv3, rfl, by (first | exact rfl | assumption), by (first | exact rfl | assumption), by (first | exact rfl | assumption), ?d1, rfl, fun e he => hok2 e (.tail _ he), ?d3⟩
                    case d1 => refine Eq.trans ?_ f4; dsimp only; rw [app_ls, unq_o hne2]; simp
                    case d3 => have := len_app (y := acc) (c := d) (Nat.le_refl _); simp at hl2 ⊢; omega
                  · have hb2 : (({ cps := #[92] } : Str) == Str.ofString "\\") = true := by decide
                    have hwd2 : (!(Builtin.Str.occurrences wsp (Str.ofString "\\") 0 wsp.length 1).isEmpty) = false := hwd
                    cases r' with
                    | nil =>
                      obtain rfl := holds_nil hv3
                      k_steps
                      dsimp only [List.append_nil]
                      ((refine' ((c_readB _ z y x hL3.ok pm _ (.tail _ (.tail _ (updF_mem (updF_re hU _)))) (hL4 _ _ _).h1 (hL4 _ _ _).h2 (hL4 _ _ _).h3 (hL4 _ _ _).h4 (hL4 _ _ _).h5 (hL4 _ _ _).h6 (hL4 _ _ _).h7).cl) _ _ _ _ _ _ _ _ _ _ _ _ _ _ _ _ _ ?k1 ?k2 ?k3 ?k4 ?k5 ?kK ?kd ?ku ?_; (case k1 => k_asm); (case k2 => k_asm); (case k3 => k_asm); (case k4 => k_asm); (case k5 => k_asm); (case kK => first | exact rfl | assumption); (case kd => ktr_room); (case ku => ktr_units); intro a9 h9 tk9 p9 F9 N9; (try dsimp only)))
                      k_steps
                      refine FStep.next (J := JIn (fun l => (unq l, none)) _ _ g y _ (([] : List Nat), none)) (n := [92].length + 1) (n' := 0 + 1) (by k_asm) (by k_asm) (by decide) ⟨[], [], k' + 1, _, _, rfl, .nil, rfl, by (first | exact rfl | assumption), by (first | exact rfl | assumption), by (first | exact rfl | assumption), ?d1, rfl, fun _ he => absurd he List.not_mem_nil, ?d3⟩
                      case d1 => refine Eq.trans ?_ f4; dsimp only; rw [app_nil, unq_b0, unq_n]
                      case d3 => rw [app_nil]; exact Nat.le_of_succ_le hl2
                    | cons e r2 =>
                      obtain ⟨us2, u2, rfl, hv4⟩ := holds_cons hv3
                      have he := hok2 e (.tail _ (.head _))
                      k_steps
                      dsimp only [List.append_nil]
                      ((refine' ((c_readA _ (fun o => (_ :: _ :: g o)) z y x hL3.ok pm us2 _ e u2 (k' + 1) hv4 (okAll fun a ha => (hok2 a (.tail _ (.tail _ ha))).1) he.1 he.2.1 (holds_len hv4 (by simp at hl2; omega)) (UpdF.tail hI (UpdF.tail hB (updF_re hU _))) (hL4 _ _ _).h1 (hL4 _ _ _).h2 (hL4 _ _ _).h3 (hL4 _ _ _).h4 (hL4 _ _ _).h5 (hL4 _ _ _).h6 (hL4 _ _ _).h7).cl) _ _ _ _ _ _ _ _ _ _ _ _ _ _ _ _ _ ?k1 ?k2 ?k3 ?k4 ?k5 ?kK ?kd ?ku ?_; (case k1 => k_asm); (case k2 => k_asm); (case k3 => k_asm); (case k4 => k_asm); (case k5 => k_asm); (case kK => first | exact rfl | assumption); (case kd => ktr_room); (case ku => ktr_units); intro a9 h9 tk9 p9 F9 N9; (try dsimp only)))
                      k_steps
                      refine FStep.next (J := JIn (fun l => (unq l, none)) _ _ g y _ (([] : List Nat), none)) (n := (92 :: e :: r2).length + 1) (n' := r2.length + 1) (by k_asm) (by k_asm) (by simp) ⟨r2, us2, k' + 1 + 1, _, _, rfl, hv4, rfl, by (first | exact rfl | assumption), by (first | exact rfl | assumption), by (first | exact rfl | assumption), ?d1, rfl, fun a ha => hok2 a (.tail _ (.tail _ ha)), ?d3⟩
                      case d1 => refine Eq.trans ?_ f4; dsimp only; rw [app_ls, unq_b]; simp
                      case d3 => have := len_app (y := acc) (c := e) (Nat.le_refl _); simp at hl2 ⊢; omega
            | cons e0 r0 =>
              obtain ⟨us0, u0, rfl, hv0⟩ := holds_cons hv'
              have he0 := hok e0 (.tail _ (.head _))
              k_steps
              dsimp only [List.append_nil]
              ((refine' ((c_readA _ (fun o => (_ :: _ :: g o)) z y x hL2.ok pm us0 _ e0 u0 (k + 1) hv0 (okAll fun a ha => (hok a (.tail _ (.tail _ ha))).1) he0.1 he0.2.1 (holds_len hv0 (by simp at hlen; omega)) (UpdF.tail hI (UpdF.tail hB (updF_re hU _))) (hL4 _ _ _).h1 (hL4 _ _ _).h2 (hL4 _ _ _).h3 (hL4 _ _ _).h4 (hL4 _ _ _).h5 (hL4 _ _ _).h6 (hL4 _ _ _).h7).cl) _ _ _ _ _ _ _ _ _ _ _ _ _ _ _ _ _ ?k1 ?k2 ?k3 ?k4 ?k5 ?kK ?kd ?ku ?_; (case k1 => k_asm); (case k2 => k_asm); (case k3 => k_asm); (case k4 => k_asm); (case k5 => k_asm); (case kK => first | exact rfl | assumption); (case kd => ktr_room); (case ku => ktr_units); intro a9 h9 tk9 p9 F9 N9; (try dsimp only)))
              k_steps
              refine ⟨JIn (fun l => (unq l, none)) _ _ g y _ (e0 :: unq r0, none), r0.length + 1, ⟨r0, us0, k + 1 + 1, _, _, rfl, hv0, rfl, by (first | exact rfl | assumption), by (first | exact rfl | assumption), by (first | exact rfl | assumption), ?c1, rfl, fun a ha => hok a (.tail _ (.tail _ ha)), ?c2⟩, ?c3⟩
              case c1 => rw [app_ls]; rfl
              case c2 => have := len_app (y := Str.ofString "") (c := e0) (Nat.le_refl _); have z0 : (Str.ofString "").length = 0 := rfl; simp at hlen; omega
              case c3 =>
                rintro n m₂ news₂ h₂ tk₂ F₂ N₂ ⟨cur', vs', k', acc, ta, rfl, hv2, rfl, f1, f2, f3, f4, f5, hok2, hl2⟩
                dsimp only at f4 f5
                cases cur' with
                | nil =>
                  obtain rfl := holds_nil hv2
                  rw [unq_n] at f4
                  k_dflt (refine next_end (by k_asm) F₂ (by k_asm) N₂ (by k_asm) rfl (by ktr_room) (by ktr_units) ((hg _).on _) (.tail _ (updF_mem (updF_re hU _))) (.head _) (hI9 _) fun h' tk' F' N' => ?_)
                  dsimp only
                  k_steps
                  refine FStep.next (n := 2) (n' := 1) (by k_asm) (by k_asm) (by decide) (.inr ⟨rfl, k', rfl, acc, ta, f3, ?_, ?_⟩)
                  · rw [tokOf_b]; simpa using f4
                  · rw [tokOf_b]
                | cons d r' =>
                  obtain ⟨us', u', rfl, hv3⟩ := holds_cons hv2
                  have hd := hok2 d (.head _)
                  have hwd := ws_no hd
                  k_dflt (refine next_sign (by k_asm) F₂ (by k_asm) N₂ (by k_asm) rfl (by ktr_room) (by ktr_units) (((hg _).on _).on _) hv3 (okAll fun e he => (hok2 e (.tail _ he)).1) hd.1 hd.2.1 (holds_len hv3 (by simp at hl2; omega)) (UpdF.tail hI (UpdF.tail hB (updF_re hU _))) (.head _) (.tail _ (.head _)) hI hB fun h' tk' F' N' => ?_)
                  dsimp only at N' ⊢
                  have hL3 := hg (listOf us'.toArray (k' + 1))
                  have h13 := hL3.h1
                  have h23 := hL3.h2
                  have hL4 := fun I9 q9 st9 => (hL3.on (q9, methodObj (.ref 74) (.ref y.X))).on (I9, ciObj (.ref q9) (.str (Str.ofString "") st9))
                  rcases Nat.decEq d 92 with hne2 | rfl
                  · have hb2 : (({ cps := #[d] } : Str) == Str.ofString "\\") = false := sign_ne hne2
                    k_steps
                    refine FStep.next (J := JIn (fun l => (unq l, none)) _ _ g y _ (e0 :: unq r0, none)) (n := r'.length + 1 + 1) (n' := r'.length + 1) (by k_asm) (by k_asm) (by omega) ⟨r', us', k' + 1, _, _, rfl, hv3, rfl, by (first | exact rfl | assumption), by (first | exact rfl | assumption), by (first | exact rfl | assumption), ?d1, rfl, fun e he => hok2 e (.tail _ he), ?d3⟩
                    case d1 => refine Eq.trans ?_ f4; dsimp only; rw [app_ls, unq_o hne2]; simp
                    case d3 => have := len_app (y := acc) (c := d) (Nat.le_refl _); simp at hl2 ⊢; omega
                  · have hb2 : (({ cps := #[92] } : Str) == Str.ofString "\\") = true := by decide
                    have hwd2 : (!(Builtin.Str.occurrences wsp (Str.ofString "\\") 0 wsp.length 1).isEmpty) = false := hwd
                    cases r' with
                    | nil =>
                      obtain rfl := holds_nil hv3
                      k_steps
                      dsimp only [List.append_nil]
                      ((refine' ((c_readB _ z y x hL3.ok pm _ (.tail _ (.tail _ (updF_mem (updF_re hU _)))) (hL4 _ _ _).h1 (hL4 _ _ _).h2 (hL4 _ _ _).h3 (hL4 _ _ _).h4 (hL4 _ _ _).h5 (hL4 _ _ _).h6 (hL4 _ _ _).h7).cl) _ _ _ _ _ _ _ _ _ _ _ _ _ _ _ _ _ ?k1 ?k2 ?k3 ?k4 ?k5 ?kK ?kd ?ku ?_; (case k1 => k_asm); (case k2 => k_asm); (case k3 => k_asm); (case k4 => k_asm); (case k5 => k_asm); (case kK => first | exact rfl | assumption); (case kd => ktr_room); (case ku => ktr_units); intro a9 h9 tk9 p9 F9 N9; (try dsimp only)))
                      k_steps
                      refine FStep.next (J := JIn (fun l => (unq l, none)) _ _ g y _ (e0 :: unq r0, none)) (n := [92].length + 1) (n' := 0 + 1) (by k_asm) (by k_asm) (by decide) ⟨[], [], k' + 1, _, _, rfl, .nil, rfl, by (first | exact rfl | assumption), by (first | exact rfl | assumption), by (first | exact rfl | assumption), ?d1, rfl, fun _ he => absurd he List.not_mem_nil, ?d3⟩
                      case d1 => refine Eq.trans ?_ f4; dsimp only; rw [app_nil, unq_b0, unq_n]
                      case d3 => rw [app_nil]; exact Nat.le_of_succ_le hl2
                    | cons e r2 =>
                      obtain ⟨us2, u2, rfl, hv4⟩ := holds_cons hv3
                      have he := hok2 e (.tail _ (.head _))
                      k_steps
                      dsimp only [List.append_nil]
                      ((refine' ((c_readA _ (fun o => (_ :: _ :: g o)) z y x hL3.ok pm us2 _ e u2 (k' + 1) hv4 (okAll fun a ha => (hok2 a (.tail _ (.tail _ ha))).1) he.1 he.2.1 (holds_len hv4 (by simp at hl2; omega)) (UpdF.tail hI (UpdF.tail hB (updF_re hU _))) (hL4 _ _ _).h1 (hL4 _ _ _).h2 (hL4 _ _ _).h3 (hL4 _ _ _).h4 (hL4 _ _ _).h5 (hL4 _ _ _).h6 (hL4 _ _ _).h7).cl) _ _ _ _ _ _ _ _ _ _ _ _ _ _ _ _ _ ?k1 ?k2 ?k3 ?k4 ?k5 ?kK ?kd ?ku ?_; (case k1 => k_asm); (case k2 => k_asm); (case k3 => k_asm); (case k4 => k_asm); (case k5 => k_asm); (case kK => first | exact rfl | assumption); (case kd => ktr_room); (case ku => ktr_units); intro a9 h9 tk9 p9 F9 N9; (try dsimp only)))
                      k_steps
                      refine FStep.next (J := JIn (fun l => (unq l, none)) _ _ g y _ (e0 :: unq r0, none)) (n := (92 :: e :: r2).length + 1) (n' := r2.length + 1) (by k_asm) (by k_asm) (by simp) ⟨r2, us2, k' + 1 + 1, _, _, rfl, hv4, rfl, by (first | exact rfl | assumption), by (first | exact rfl | assumption), by (first | exact rfl | assumption), ?d1, rfl, fun a ha => hok2 a (.tail _ (.tail _ ha)), ?d3⟩
                      case d1 => refine Eq.trans ?_ f4; dsimp only; rw [app_ls, unq_b]; simp
                      case d3 => have := len_app (y := acc) (c := e) (Nat.le_refl _); simp at hl2 ⊢; omega
        · have hb : (({ cps := #[34] } : Str) == Str.ofString "\"") = true := by decide
          have hw : (!(Builtin.Str.occurrences wsp (Str.ofString "\"") 0 wsp.length 1).isEmpty) = false := hw
          k_steps
          refine ⟨JIn inq _ _ g y _ (inq r), r.length + 1, ⟨r, us, k + 1, _, _, rfl, hv', rfl, by first | exact rfl | assumption, by first | exact rfl | assumption, by first | exact rfl | assumption, ?c1, rfl, fun d hd => hok d (.tail _ hd), ?c2⟩, ?c3⟩
          case c1 => rfl
          case c2 => show 0 + r.length ≤ 100000; simp at hlen; omega
          case c3 =>
            rintro n m₂ news₂ h₂ tk₂ F₂ N₂ ⟨cur', vs', k', acc, ta, rfl, hv2, rfl, f1, f2, f3, f4, f5, hok2, hl2⟩
            cases cur' with
            | nil =>
              obtain rfl := holds_nil hv2
              rw [inq_n] at f4 f5
              k_dflt (refine next_end (by k_asm) F₂ (by k_asm) N₂ (by k_asm) rfl (by ktr_room) (by ktr_units) ((hg _).on _) (.tail _ (updF_mem (updF_re hU _))) (.head _) (hI9 _) fun h' tk' F' N' => ?_)
              dsimp only
              k_steps
              refine FStep.next (n := 2) (n' := 1) (by k_asm) (by k_asm) (by decide) (.inr ⟨rfl, k', rfl, acc, ta, f3, ?_, ?_⟩)
              · rw [tokOf_q]; simpa using f4
              · rw [tokOf_q, ← f5]; rfl
            | cons d r' =>
              obtain ⟨us', u', rfl, hv3⟩ := holds_cons hv2
              have hd := hok2 d (.head _)
              k_dflt (refine next_sign (by k_asm) F₂ (by k_asm) N₂ (by k_asm) rfl (by ktr_room) (by ktr_units) (((hg _).on _).on _) hv3 (okAll fun e he => (hok2 e (.tail _ he)).1) hd.1 hd.2.1 (holds_len hv3 (by simp at hl2; omega)) (UpdF.tail hI (UpdF.tail hB (updF_re hU _))) (.head _) (.tail _ (.head _)) hI hB fun h' tk' F' N' => ?_)
              dsimp only at N' ⊢
              have hL3 := hg (listOf us'.toArray (k' + 1))
              have h13 := hL3.h1
              have h23 := hL3.h2
              rcases Nat.decEq d 34 with hne | rfl
              · have hbd : (({ cps := #[d] } : Str) == Str.ofString "\"") = false := sign_ne hne
                rcases Nat.decEq d 92 with hne2 | rfl
                · have hb2 : (({ cps := #[d] } : Str) == Str.ofString "\\") = false := sign_ne hne2
                  k_steps
                  refine FStep.next (J := JIn inq _ _ g y _ (inq r)) (n := r'.length + 1 + 1) (n' := r'.length + 1) (by k_asm) (by k_asm) (by omega) ⟨r', us', k' + 1, _, _, rfl, hv3, rfl, by (first | exact rfl | assumption), by (first | exact rfl | assumption), by (first | exact rfl | assumption), ?d1, ?d2, fun e he => hok2 e (.tail _ he), ?d3⟩
                  case d1 => rw [← f4]; show (acc.cps ++ #[d]).toList ++ _ = _; simp [inq_o hne hne2]
                  case d2 => rw [← f5]; simp [inq_o hne hne2]
                  case d3 => have := len_app (y := acc) (c := d) (Nat.le_refl _); simp at hl2 ⊢; omega
                · have hb2 : (({ cps := #[92] } : Str) == Str.ofString "\\") = true := by decide
                  cases r' with
                  | nil =>
                    obtain rfl := holds_nil hv3
                    k_steps
                    dsimp only [List.append_nil]
                    have hL4 := fun I9 q9 st9 => (hL3.on (q9, methodObj (.ref 74) (.ref y.X))).on (I9, ciObj (.ref q9) (.str (Str.ofString "") st9))
                    ((refine' ((c_readB _ z y x hL3.ok pm _ (.tail _ (.tail _ (updF_mem (updF_re hU _)))) (hL4 _ _ _).h1 (hL4 _ _ _).h2 (hL4 _ _ _).h3 (hL4 _ _ _).h4 (hL4 _ _ _).h5 (hL4 _ _ _).h6 (hL4 _ _ _).h7).cl) _ _ _ _ _ _ _ _ _ _ _ _ _ _ _ _ _ ?k1 ?k2 ?k3 ?k4 ?k5 ?kK ?kd ?ku ?_; (case k1 => k_asm); (case k2 => k_asm); (case k3 => k_asm); (case k4 => k_asm); (case k5 => k_asm); (case kK => first | exact rfl | assumption); (case kd => ktr_room); (case ku => ktr_units); intro a9 h9 tk9 p9 F9 N9; (try dsimp only)))
                    k_steps
                    refine FStep.next (J := JIn inq _ _ g y _ (inq r)) (n := [92].length + 1) (n' := 0 + 1) (by k_asm) (by k_asm) (by decide) ⟨[], [], k' + 1, _, _, rfl, .nil, rfl, by (first | exact rfl | assumption), by (first | exact rfl | assumption), by (first | exact rfl | assumption), ?d1, ?d2, fun _ he => absurd he List.not_mem_nil, ?d3⟩
                    case d1 => refine Eq.trans ?_ f4; rw [app_nil, inq_b0, inq_n]
                    case d2 => rw [← f5, inq_b0, inq_n]
                    case d3 => rw [app_nil]; exact Nat.le_of_succ_le hl2
                  | cons e r2 =>
                    obtain ⟨us2, u2, rfl, hv4⟩ := holds_cons hv3
                    have he := hok2 e (.tail _ (.head _))
                    k_steps
                    dsimp only [List.append_nil]
                    have hL4 := fun I9 q9 st9 => (hL3.on (q9, methodObj (.ref 74) (.ref y.X))).on (I9, ciObj (.ref q9) (.str (Str.ofString "") st9))
                    ((refine' ((c_readA _ (fun o => (_ :: _ :: g o)) z y x hL3.ok pm us2 _ e u2 (k' + 1) hv4 (okAll fun a ha => (hok2 a (.tail _ (.tail _ ha))).1) he.1 he.2.1 (holds_len hv4 (by simp at hl2; omega)) (UpdF.tail hI (UpdF.tail hB (updF_re hU _))) (hL4 _ _ _).h1 (hL4 _ _ _).h2 (hL4 _ _ _).h3 (hL4 _ _ _).h4 (hL4 _ _ _).h5 (hL4 _ _ _).h6 (hL4 _ _ _).h7).cl) _ _ _ _ _ _ _ _ _ _ _ _ _ _ _ _ _ ?k1 ?k2 ?k3 ?k4 ?k5 ?kK ?kd ?ku ?_; (case k1 => k_asm); (case k2 => k_asm); (case k3 => k_asm); (case k4 => k_asm); (case k5 => k_asm); (case kK => first | exact rfl | assumption); (case kd => ktr_room); (case ku => ktr_units); intro a9 h9 tk9 p9 F9 N9; (try dsimp only)))
                    k_steps
                    refine FStep.next (J := JIn inq _ _ g y _ (inq r)) (n := (92 :: e :: r2).length + 1) (n' := r2.length + 1) (by k_asm) (by k_asm) (by simp) ⟨r2, us2, k' + 1 + 1, _, _, rfl, hv4, rfl, by (first | exact rfl | assumption), by (first | exact rfl | assumption), by (first | exact rfl | assumption), ?d1, ?d2, fun a ha => hok2 a (.tail _ (.tail _ ha)), ?d3⟩
                    case d1 => refine Eq.trans ?_ f4; rw [app_ls, inq_b]; simp
                    case d2 => rw [← f5, inq_b]
                    case d3 => have := len_app (y := acc) (c := e) (Nat.le_refl _); simp at hl2 ⊢; omega
              · have hb : (({ cps := #[34] } : Str) == Str.ofString "\"") = true := by decide
                k_steps
                dsimp only
                refine FStep.ret ?_
                dsimp only
                refine FStep.ret ?_
                rw [inq_q] at f4 f5
                have ht : (⟨(tokOf (34 :: r)).1.toArray⟩ : Str) = acc := str_ext (by rw [tokOf_q]; simpa using f4.symm)
                rw [ht] at hret
                k_steps
                exact hret (ta, k' + 1, us') _ _ (by show Holds us' _; rw [tokOf_q, ← f5]; exact hv3) (by k_asm) (news_tl (news_tl (by assumption)))
    · k_dflt (refine next_over F₁ N₁ fun h' F' N' => ?_)
      dsimp only
      k_steps
      have ht : (⟨(tokOf cur).1.toArray⟩ : Str) = tkn := str_ext (by simpa using e2.symm)
      rw [ht] at hret
      exact hret (t, k', []) _ _ (by rw [e3]; exact StrsAre.nil) (by k_asm) (news_tl (news_tl (by assumption)))
end
-- a list comprehension over a list of whole numbers that tells texts
section
open LCg LCt
variable {prog : Program} {w : World} {A : Around} {E : Value → Shared → Prop} {s : Shared} {h₀ : Heap} {L : Addr} {m : Str → Option Value} {env : Env}
theorem ints_get {vs : List Value} {ns : List Int} (h : IntsAre vs ns) : ∀ {i : Nat} {v : Value}, vs.toArray[i]? = some v → ∃ c u, ns[i]? = some c ∧ v = .int c u := by
  intro i v e
  rw [List.getElem?_toArray] at e
  induction h generalizing i with
  | nil => simp at e
  | cons c u _ ih =>
    cases i with
    | zero => simp at e; exact ⟨c, u, rfl, e.symm⟩
    | succ i => simp at e; simpa using ih e
theorem compRest_ints {elt : Expr} {x : Str} {scope : Scope} {cl : List (Str × Addr)} {its : List Value} {ns : List Int} {news : List (Addr × Obj)} {S : List (Addr × Obj) → Prop} {Fin : List Value → List (Addr × Obj) → Prop} (hi : IntsAre its ns) (hS : S news) (g : Int → Str)
    (turn : ∀ (c : Int) (u : Tok) (ys : List Value) (I : Addr) (oI : Obj) (C : Addr) (oC : Obj) (D : Addr) (m₂ : Str → Option Value) (h : Heap) (tk : Nat) (E' : Value → Shared → Prop), c ∈ ns → NsObj oC m₂ → m₂ x = some (.int c u) → Fr h₀ L h m → News h₀ L h ((I, oI) :: (C, oC) :: (D, lst ys) :: news) → Off3 I C D news → ((@Ne Nat I C) ∧ (@Ne Nat I D) ∧ (@Ne Nat C D)) →
      wpAny (model prog w) A (eval elt (compEnvC scope cl C env)) (fun v s₂ => ∃ t' h' tk', v = .str (g c) t' ∧ s₂ = { s with heap := h', toks := tk' } ∧ Fr h₀ L h' m ∧ News h₀ L h' ((I, oI) :: (C, oC) :: (D, lst ys) :: news)) E' { s with heap := h, toks := tk }) :
    ∀ (k i : Nat) (ys : List Value) (xs : List Str), k + i = ns.length → StrsAre ys xs → (∀ ys', StrsAre ys' (xs ++ (ns.drop i).map g) → Fin ys' news) → CompRest prog w A h₀ L m env elt x scope cl s S (fun i v => its.toArray[i]? = some v) Fin k i ys news
  | 0, i, ys, xs, hk, hY, hF => CompRest.zero (hF ys (by rw [List.drop_eq_nil_of_le (by omega)]; simpa using hY))
  | k + 1, i, ys, xs, hk, hY, hF => CompRest.succ (by
    intro v I oI C oC D m₂ h tk E' hv hC hx F N off ne
    obtain ⟨c, u, hc, rfl⟩ := ints_get hi hv
    obtain ⟨hl, e⟩ := List.getElem?_eq_some_iff.mp hc
    have hd : ns.drop i = c :: ns.drop (i + 1) := by rw [List.drop_eq_getElem_cons hl, e]
    refine wpAny_mono (turn c u ys I oI C oC D m₂ h tk E' (e ▸ List.getElem_mem hl) hC hx F N off ne) (fun v s₂ hv => ?_) fun _ _ e => e
    obtain ⟨t', h', tk', rfl, rfl, F', N'⟩ := hv
    refine CompEnd.intro F' N' news (fun p hp => hp) off hS (compRest_ints hi hS g turn k (i + 1) _ (xs ++ [g c]) (by omega) (strsAre_snoc hY _ _) fun ys' hy => hF ys' ?_)
    rw [hd]; simpa using hy)
end
-- a for loop over range(0, b): the state may change with the turn
def RStepD (h₀ : Heap) (L I : Addr) (o : Obj) (J : Nat → (Str → Option Value) → List (Addr × Obj) → Prop) (s : Shared) (Q : Flow → Shared → Prop) (i : Nat) (f : Flow) (s₃ : Shared) : Prop :=
  match f with
  | .next | .cont => ∃ h' tk m₂ news₂, s₃ = { s with heap := h', toks := tk } ∧ Fr h₀ L h' m₂ ∧ News h₀ L h' ((I, o) :: news₂) ∧ (∀ p ∈ news₂, p.1 ≠ I) ∧ J (i + 1) m₂ news₂
  | .brk => Q .next s₃
  | .ret v => Q (.ret v) s₃
structure RStep (h₀ : Heap) (L I : Addr) (o : Obj) (J : Nat → (Str → Option Value) → List (Addr × Obj) → Prop) (s : Shared) (Q : Flow → Shared → Prop) (i : Nat) (f : Flow) (s₃ : Shared) : Prop where
  out : RStepD h₀ L I o J s Q i f s₃
section
variable {prog : Program} {w : World} {A : Around} {E : Value → Shared → Prop} {Q : Flow → Shared → Prop} {s : Shared} {env : Env} {h₀ : Heap} {x : Str} {body : List Stmt}
theorem RStep.next {L I : Addr} {o : Obj} {J : Nat → (Str → Option Value) → List (Addr × Obj) → Prop} {h' : Heap} {tk i : Nat} {m₂ : Str → Option Value} {news : List (Addr × Obj)} (F : Fr h₀ L h' m₂) (N : News h₀ L h' ((I, o) :: news)) (hn : ∀ p ∈ news, p.1 ≠ I) (hJ : J (i + 1) m₂ news) : RStep h₀ L I o J s Q i .next { s with heap := h', toks := tk } :=
  ⟨⟨h', tk, m₂, news, rfl, F, N, hn, hJ⟩⟩
theorem RStep.ret {L I : Addr} {o : Obj} {i : Nat} {v : Value} {J : Nat → (Str → Option Value) → List (Addr × Obj) → Prop} {s₃ : Shared} (h : Q (.ret v) s₃) : RStep h₀ L I o J s Q i (.ret v) s₃ := ⟨h⟩
theorem rangeJ {r : Addr} {b₀ : Int} {t₀ u₀ v₀ : Tok} {n : Nat} {m₀ : Str → Option Value} {news : List (Addr × Obj)} (J : Nat → (Str → Option Value) → List (Addr × Obj) → Prop)
    (hh : A.handled = none) (hr : IsRange s.heap r 0 b₀ 1 t₀ u₀ v₀) (hsmall : Builtin.Range.small 0 b₀ 1 = true) (hn : Builtin.Range.rangeSize 0 b₀ 1 = (n : Int)) (F : Fr h₀ env.locals s.heap m₀) (N : News h₀ env.locals s.heap news) (hJ : J 0 m₀ news)
    (turn : ∀ I i t m₁ news₁ h tk o, ¬ CodeOk o → (∀ p ∈ news, @LT.lt Nat _ p.1 I) → i < n → J i m₁ news₁ → (∀ p ∈ news₁, p.1 ≠ I) → Fr h₀ env.locals h (fun y => if y = x then some (.int (i : Int) t) else m₁ y) → News h₀ env.locals h ((I, o) :: news₁) →
      wpAny (model prog w) A (execs body env) (RStep h₀ env.locals I o J s Q i) E { s with heap := h, toks := tk })
    (done : ∀ h tk m' news', Fr h₀ env.locals h m' → News h₀ env.locals h news' → J n m' news' → Q .next { s with heap := h, toks := tk }) :
    wpAny (model prog w) A (pyIter (.ref r)) (fun it s₂ => LoopAtV prog w A h₀ env x body Q E it s₂) E s := by
  refine wpAny_pyIter_range hr hsmall ?_
  have W : Walks prog w A s.heap.objs.size [s.heap.objs.size] [s.heap.objs.size] n (fun i v => i < n ∧ ∃ t, v = .int ((0 : Int) + i * 1) t)
      (fun i h => IsRangeIter h s.heap.objs.size ((0 : Int) + (i : Nat) * 1) ((n : Int) - (i : Nat)) 1) := (Walks.range hh _ 0 1 n).bound
  have hI0 : h₀.get? s.heap.objs.size = none := next_is_new F
  refine ⟨s.heap.objs.size, _, _, n, _, _, m₀, news, J, rfl, W, ?_, ?_, ?_, (by show IsRangeIter _ _ _ _ _; rw [hn]; simpa using Heap.get?_push_size _ rfl), F.push _, (fun p hp => ⟨Heap.get?_push_of_some _ (N p hp).1, (N p hp).2⟩), hJ, ?_, ?_⟩
  · intro hm
    exact absurd F.ns.lt ((List.mem_singleton.mp hm) ▸ Nat.lt_irrefl _)
  · intro b hb
    rw [List.mem_singleton.mp hb]
    exact hI0
  · intro p hp hI
    exact absurd (Heap.lt_size (N p hp).1) ((List.mem_singleton.mp hI) ▸ Nat.lt_irrefl _)
  · rintro i v m₁ news₁ s₁ own ⟨hh', tk', rfl⟩ hin ⟨_, t, rfl⟩ hJ₁ hoff hown _ hall hst' F₁ N₁
    obtain ⟨oI, ho, hO⟩ : ∃ o, hh'.get? s.heap.objs.size = some o ∧ ¬ CodeOk o := ⟨_, hst', by rintro ⟨vs, t, e, e2⟩; cases e; cases e2⟩
    have hio := hall s.heap.objs.size (List.mem_singleton.mpr rfl) hI0 _ ho
    have hone := own_one hown (fun b hb => .inl (List.mem_singleton.mp hb)) ho N₁
    have hint : ((0 : Int) + (i : Int) * 1) = (i : Int) := by omega
    rw [hint] at F₁
    refine wpAny_mono (turn _ i t m₁ news₁ hh' tk' _ hO (fun p hp => Heap.lt_size (N p hp).1) hin hJ₁ (fun p hp e => hoff p hp (List.mem_singleton.mpr e)) F₁ (news_one hio N₁)) (fun f s₂ p => ?_) fun _ _ e => e
    have fin : (∃ h' tk m₂ news₂, s₂ = { s with heap := h', toks := tk } ∧ Fr h₀ env.locals h' m₂ ∧ News h₀ env.locals h' ((s.heap.objs.size, oI) :: news₂) ∧ (∀ p ∈ news₂, p.1 ≠ s.heap.objs.size) ∧ J (i + 1) m₂ news₂) → LoopStepU h₀ env.locals [s.heap.objs.size] own (J (i + 1)) { s with heap := hh', toks := tk' } .next s₂ := by
      rintro ⟨h', tk, m', news', e, F', N', hne, hJ'⟩
      exact ⟨rfl, h', tk, m', news', e, F', fun p hp => N' p (need_one hone (fun p hp => hp) p hp), fun p hp e => hne p hp (List.mem_singleton.mp e), hJ'⟩
    cases f with
    | ret v => exact .ret p.out
    | brk => exact .brk p.out
    | next => exact .next (fin p.out)
    | cont => exact .cont (fin p.out)
  · rintro h' tk m' news' F' N' _ hJ'
    exact done h' tk m' news' F' N' hJ'
end
section
variable {prog : Program} {w : World} {A : Around} {E : Value → Shared → Prop} {Q : Flow → Shared → Prop} {s : Shared} {env : Env} {h₀ : Heap} {x : Str} {body : List Stmt}
def RTodo (prog : Program) (w : World) (A : Around) (E : Value → Shared → Prop) (Q : Flow → Shared → Prop) (s : Shared) (env : Env) (h₀ : Heap) (x : Str) (body : List Stmt) (n : Nat) (m₀ : Str → Option Value) (news : List (Addr × Obj)) : Prop :=
  ∃ J : Nat → (Str → Option Value) → List (Addr × Obj) → Prop, J 0 m₀ news ∧
    (∀ I i t m₁ news₁ h tk o, ¬ CodeOk o → (∀ p ∈ news, @LT.lt Nat _ p.1 I) → i < n → J i m₁ news₁ → (∀ p ∈ news₁, p.1 ≠ I) → Fr h₀ env.locals h (fun y => if y = x then some (.int (i : Int) t) else m₁ y) → News h₀ env.locals h ((I, o) :: news₁) →
      wpAny (model prog w) A (execs body env) (RStep h₀ env.locals I o J s Q i) E { s with heap := h, toks := tk }) ∧
    (∀ h tk m' news', Fr h₀ env.locals h m' → News h₀ env.locals h news' → J n m' news' → Q .next { s with heap := h, toks := tk })
theorem rangeT {r : Addr} {b₀ : Int} {t₀ u₀ v₀ : Tok} {n : Nat} {m₀ : Str → Option Value} {news : List (Addr × Obj)}
    (hh : A.handled = none) (hr : IsRange s.heap r 0 b₀ 1 t₀ u₀ v₀) (hsmall : Builtin.Range.small 0 b₀ 1 = true) (hn : Builtin.Range.rangeSize 0 b₀ 1 = (n : Int)) (F : Fr h₀ env.locals s.heap m₀) (N : News h₀ env.locals s.heap news)
    (h : RTodo prog w A E Q s env h₀ x body n m₀ news) :
    wpAny (model prog w) A (pyIter (.ref r)) (fun it s₂ => LoopAtV prog w A h₀ env x body Q E it s₂) E s :=
  let ⟨J, hJ, turn, done⟩ := h
  rangeJ J hh hr hsmall hn F N hJ turn done
end
def smC (b : Bool) : Nat := if b then 102 else 115
def dbC (b : Bool) : Nat := if b then 64256 else 223
def rep (n c : Nat) : Str := ⟨(List.replicate n c).toArray⟩
def ofL (l : List Nat) : Str := ⟨l.toArray⟩
def SignOk (c : Nat) : Prop := TokOk c ∧ c ≠ 34 ∧ c ≠ 92
structure ShOk (P : Params) (b : Bool) (n : Nat) (sh : List Nat) : Prop where
  ok : ∀ c ∈ sh, SignOk c
  pos : sh ≠ []
  len : sh.length ≤ 200
  prep : prep P (ofL sh) = rep n (smC b)
def lawCells (L : Addr) : List (Str × Addr) := cellsFrom (L + 1) (fS st15).names []
abbrev lawTop (dp un : Nat) (gd : Option (List Code)) (L a : Addr) (ccd : Value) (outer : List Env) : Around := ktrTop dp un gd (Str.ofString "law") (fS st15) L a ccd (cellsFrom (L + 1) (fS st15).names []) outer
def lawEnd : List Stmt := (fB st15).drop 12
def TabL (l : List (Addr × Obj)) : Prop := l = [(166, tabObj #[])] ∨ ∃ c2 c1 o2 o1, CodeOk o2 ∧ CodeOk o1 ∧ l = [(166, tabOf c1 c2), (c2, o2), (c1, o1)]
theorem c_stream {p : Program} {w : World} {loose : List Str} {mean : ExcName → Option Value} {mg mb : Str → Option Value} (l news : List (Addr × Obj)) (hl : TabL l) (x : Str) (t : Tok) (hsz : x.length ≤ sizeLine) (h166 : ∀ p ∈ news, p.1 ≠ 166) :
   ClH (fun h => CodeHd h 170 166) pw w (KF w.params) p loose mean mg mb 171 1 8 (l ++ news) [.str x t] (fun z : Strm => z.Ok x ∧ AllLt z.C news) (fun z => .ref z.f1) (fun z => z.objs w ((mg "__name__").getD .none) ++ z.codes ++ news) := by
  rcases hl with rfl | ⟨c2, c1, o2, o1, k2, k1, rfl⟩
  · exact c_streamA news x t hsz h166
  · exact c_streamB news x t hsz h166 c2 c1 o2 o1 k2 k1
def JL (P : Params) (b : Bool) (n many : Nat) (t1 t2 : Tok) (i : Nat) (m : Str → Option Value) (news : List (Addr × Obj)) : Prop :=
  TabL news ∧ ∃ (sh : List Nat) (t3 t4 t5 t6 t7 t8 t9 : Tok), ShOk P b (n * 2 ^ i) sh ∧ m (Str.ofString "small") = some (.str (rep 1 (smC b)) t1) ∧ m (Str.ofString "double") = some (.str (rep 1 (dbC b)) t2) ∧ m (Str.ofString "share") = some (.str (ofL sh) t3) ∧
    m (Str.ofString "whole") = some (.str (rep n (smC b)) t4) ∧ m (Str.ofString "many") = some (.int (many : Int) t5) ∧ m (Str.ofString "strokes") = some (.int ((many / 2 ^ i : Nat) : Int) t6) ∧ m (Str.ofString "marks") = some (.int ((many / 2 ^ i : Nat) : Int) t7) ∧
    m (Str.ofString "product") = some (.str (rep (n * (many % 2 ^ i)) (smC b)) t8) ∧ m (Str.ofString "spared") = some (.str (rep (n * ((31 - many) % 2 ^ i)) (smC b)) t9)
theorem call_str_eq {prog : Program} {w : World} {A : Around} {E : Value → Shared → Prop} {Q : Value → Shared → Prop} {s : Shared} {f : Value} {x y : Str} {t : Tok} (e : x = y) (h : wpAny (model prog w) A (call f [.str y t]) Q E s) : wpAny (model prog w) A (call f [.str x t]) Q E s := e ▸ h
theorem ofL_len (l : List Nat) : (ofL l).length = l.length := by simp [ofL, Str.length]
theorem ofL_ls (l : List Nat) : (ofL l).cps.toList = l := by simp [ofL]
theorem ofL_app (a b : List Nat) : ofL a ++ ofL b = ofL (a ++ b) := str_ext (by rw [app_ls, ofL_ls, ofL_ls, ofL_ls])
theorem app_len (a b : Str) : (a ++ b).length = a.length + b.length := by show (a.cps ++ b.cps).size = _; rw [Array.size_append]; rfl
theorem mul_len (x : Str) (k : Nat) : (Txt.mul x (k : Int)).length = x.length * k := by
  have h := len_mul x (k : Int)
  rw [if_neg (by simp)] at h
  exact_mod_cast h
theorem reps_ls (c : Array Nat) : ∀ (k : Nat) (acc : Array Nat), ((List.replicate k c).foldl (· ++ ·) acc).toList = acc.toList ++ (List.replicate k c.toList).flatten
  | 0, acc => by simp
  | k + 1, acc => by rw [List.replicate_succ, List.foldl_cons, reps_ls c k, Array.toList_append, List.replicate_succ, List.flatten_cons, List.append_assoc]
theorem mul_ls (x : Str) (k : Nat) : (Txt.mul x (k : Int)).cps.toList = (List.replicate k x.cps.toList).flatten := by
  unfold Txt.mul
  by_cases h1 : (k : Int) < 1
  · rw [if_pos h1]
    have : k = 0 := by omega
    subst this; rfl
  · rw [if_neg h1]
    split
    · rename_i h
      simp only [Bool.or_eq_true, beq_iff_eq] at h
      rcases h with h | h
      · have : k = 1 := by omega
        subst this; simp
      · have : x.cps.toList = [] := by
          have : x.cps.size = 0 := h
          rw [← Array.length_toList] at this
          exact List.length_eq_zero_iff.mp this
        rw [this]; simp
    · show ((List.replicate (k : Int).toNat x.cps).foldl _ #[]).toList = _
      rw [Int.toNat_natCast, reps_ls]; simp
theorem len_q : (Str.ofString "\"").length = 1 := rfl
theorem len_b : (Str.ofString "\\").length = 1 := rfl
theorem len_257 : (Str.ofString "257 \"").length = 5 := rfl
theorem rep_len (n c : Nat) : (rep n c).length = n := by simp [rep, Str.length]
def curL (st : Nat) (sh : List Nat) : List Nat := 34 :: (List.replicate st 92 ++ 34 :: (sh ++ [34]))
theorem ls_q : (Str.ofString "\"").cps.toList = [34] := rfl
theorem ls_257 : (Str.ofString "257 \"").cps.toList = [50, 53, 55, 32, 34] := rfl
theorem ls_b : (Str.ofString "\\").cps.toList = [92] := rfl
theorem flat_rep (k c : Nat) : (List.replicate k [c]).flatten = List.replicate k c := by
  induction k with
  | zero => rfl
  | succ k ih => rw [List.replicate_succ, List.flatten_cons, ih, List.replicate_succ]; rfl
theorem curL_eq (st : Nat) (sh : List Nat) : Str.ofString "\"" ++ Txt.mul (Str.ofString "\\") (st : Int) ++ Str.ofString "\"" ++ ofL sh ++ Str.ofString "\"" = ofL (curL st sh) :=
  str_ext (by simp [app_ls, ofL_ls, ls_q, ls_b, mul_ls, flat_rep, curL])
theorem curL_len (st : Nat) (sh : List Nat) : (curL st sh).length = st + sh.length + 3 := by simp [curL]; omega
def gLex (w : World) (pm : Value) (z : Strm) (y : Lex) (rest : List (Addr × Obj)) (o : Obj) : List (Addr × Obj) := (y.P, listOf #[] 0) :: (y.X, instObj 91 y.DX) :: (y.DX, dictOf (y.es w z.f1) 4) :: (z.D, dictR w (Str.ofString "read") z.tR (.ref z.f2)) :: (z.f2, lamR pm z.C z.c2 z.ct2) :: (z.f1, { lamS pm z.c1 z.ct1 with dict := some z.D }) :: (z.S, o) :: (z.C, z.oC) :: (166, z.tab) :: (z.c2, z.o2) :: (z.c1, z.o1) :: rest
theorem gLex_in {w : World} {pm : Value} {z : Strm} {y : Lex} {x : Str} (hz : z.Ok x) (rest : List (Addr × Obj)) (o : Obj) : LexIn w pm z y x (gLex w pm z y rest o) :=
  ⟨hz, .head _, .tail _ (.head _), .tail _ (.tail _ (.head _)), .tail _ (.tail _ (.tail _ (.tail _ (.tail _ (.head _))))), .tail _ (.tail _ (.tail _ (.head _))), .tail _ (.tail _ (.tail _ (.tail _ (.head _)))), .tail _ (.tail _ (.tail _ (.tail _ (.tail _ (.tail _ (.tail _ (.tail _ (.tail _ (.head _))))))))), .tail _ (.tail _ (.tail _ (.tail _ (.tail _ (.tail _ (.tail _ (.head _)))))))⟩
theorem gLex_upd {w : World} {pm : Value} {z : Strm} {y : Lex} {x : Str} (hz : z.Ok x) (I : Addr) (oI o : Obj) (h1 : @LT.lt Nat _ y.DX y.X) (h2 : @LT.lt Nat _ y.X y.P) (h3 : @LT.lt Nat _ z.S y.DX) (h4 : @LT.lt Nat _ I z.C) : UpdF z.S o (gLex w pm z y [(I, oI)] o) (gLex w pm z y [(I, oI)]) := by
  have l1 := hz.l1
  have l2 := hz.l2
  have l3 := hz.l3
  have l4 := hz.l4
  have l5 := hz.l5
  have l6 := hz.l6
  have l7 := hz.l7
  show UpdF z.S o (gLex w pm z y [(I, oI)] o) (fun o => gLex w pm z y [(I, oI)] o)
  simp only [gLex]
  k_updF
theorem holds_ok {z : Strm} {cur : List Nat} (hz : z.Ok (ofL cur)) : Holds z.ys cur := by
  have h := hz.ys
  rw [ofL_ls] at h
  have e : signs ⟨cur.reverse.toArray⟩ = cur.reverse.map sg := by simp [signs]; intro a _; rfl
  rw [e] at h
  exact h
section
variable {prog : Program} {w : World} {A : Around} {E : Value → Shared → Prop} {s : Shared} {k : Nat} {t u : Tok} {Q : Value → Shared → Prop}
theorem mod_nat2 (h : Q (.int ((k % 2 : Nat) : Int) s.toks) { s with toks := s.toks + 1 }) : wpAny (model prog w) A (binaryOp .Mod (.int (k : Int) t) (.int 2 u)) Q E s :=
  mod_int' (by decide) (by
    have e : ((k : Int)).fmod 2 = ((k % 2 : Nat) : Int) := by rw [Int.fmod_eq_emod_of_nonneg _ (by decide)]; omega
    rw [e]; exact h)
theorem div_nat2 (hk : k < 100000) (h : Q (.int ((k / 2 : Nat) : Int) s.toks) { s with toks := s.toks + 1 }) : wpAny (model prog w) A (binaryOp .FloorDiv (.int (k : Int) t) (.int 2 u)) Q E s :=
  floordiv_int (by decide) (by
    have e : ((k : Int)).fdiv 2 = ((k / 2 : Nat) : Int) := by rw [Int.fdiv_eq_ediv_of_nonneg _ (by decide)]; omega
    rw [e]; exact h)
theorem sub_natG {c : Int} (a : Nat) (hc : c = (a : Int)) (hk : k ≤ a) (h : Q (.int ((a - k : Nat) : Int) s.toks) { s with toks := s.toks + 1 }) : wpAny (model prog w) A (binaryOp .Sub (.int c t) (.int (k : Int) u)) Q E s :=
  PyProof.Rows.sub_int (by
    have e : c - (k : Int) = ((a - k : Nat) : Int) := by omega
    rw [e]; exact h)
end
theorem mulOk_nat {x : Str} {k : Nat} (h1 : x.length ≤ 1000) (h2 : k ≤ 1000) : MulOk x (k : Int) := mulOk_of 1000 1000 h1 (by omega) (by omega) (by decide) (by decide)
theorem tabL_mem {l : List (Addr × Obj)} (h : TabL l) : ∃ ps, ((166 : Addr), tabObj ps) ∈ l := by
  rcases h with rfl | ⟨c2, c1, o2, o1, _, _, rfl⟩
  · exact ⟨_, .head _⟩
  · exact ⟨_, .head _⟩
-- laws of texts: count, strip, replace for single signs
section
open PySem.StrLaws PySem.Builtin PySem.Builtin.Str
theorem occ_run (x : Str) (c limit : Nat) : ∀ (m cur : Nat) (st : Array Nat × Nat), st.snd ≤ cur → st.fst.size + m ≤ limit →
    (forIn (List.range' cur m) st (occBody x ⟨#[c]⟩ x.length limit)).run.fst.toList = st.fst.toList ++ (List.range' cur m).filter fun i => decide (x.cps.toList[i]? = some c)
  | 0, cur, st, _, _ => by simp
  | m + 1, cur, st, h, hl => by
    rw [List.range'_succ, List.forIn_cons, List.filter_cons]
    unfold occBody
    have key := subAt_one x c cur
    by_cases hc : x.cps.toList[cur]? = some c
    · have hk := key.mpr hc
      rw [if_pos ⟨⟨⟨by omega, h⟩, hk.1⟩, hk.2⟩, if_pos (by simpa using hc)]
      have ih := occ_run x c limit m (cur + 1) (st.fst.push cur, cur + (⟨#[c]⟩ : Str).length) (Nat.le_refl _) (by rw [Array.size_push]; omega)
      refine Eq.trans ih ?_
      rw [Array.toList_push]; simp
    · rw [if_neg (fun hk => hc (key.mp ⟨hk.1.2, hk.2⟩)), if_neg (by simpa using hc)]
      exact occ_run x c limit m (cur + 1) (st.fst, st.snd) (Nat.le_succ_of_le h) (by show st.fst.size + m ≤ limit; omega)
theorem occ_one (x : Str) (c : Nat) : occurrences x ⟨#[c]⟩ 0 x.length (x.length + 1) = (List.range' 0 (x.length + 1)).filter fun i => decide (x.cps.toList[i]? = some c) := by
  rw [occ_eq]
  exact occ_run x c _ (x.length + 1) 0 (#[], 0) (Nat.le_refl _) (by simp)
theorem cnt_one (c : Nat) : ∀ (l pre : List Nat) (k : Nat), ((List.range' pre.length (l.length + k)).filter fun i => decide ((pre ++ l)[i]? = some c)).length = l.count c
  | [], pre, k => by
    rw [List.filter_eq_nil_iff.mpr]
    · rfl
    · intro i hi
      have := (List.mem_range'_1.mp hi).1
      rw [List.append_nil, List.getElem?_eq_none this]
      simp
  | d :: r, pre, k => by
    have e : (d :: r).length + k = (r.length + k) + 1 := by simp; omega
    rw [e, List.range'_succ, List.filter_cons]
    have ih := cnt_one c r (pre ++ [d]) k
    rw [List.length_append, List.append_assoc] at ih
    have h0 : (pre ++ d :: r)[pre.length]? = some d := by simp
    rw [h0]
    by_cases hd : d = c
    · subst hd
      rw [if_pos (by simp), List.length_cons, List.count_cons_self]
      exact congrArg (· + 1) ih
    · rw [if_neg (by simpa using hd), List.count_cons_of_ne hd]
      exact ih
theorem count_one (x : Str) (c : Nat) : Txt.count x ⟨#[c]⟩ = ((x.cps.toList.count c : Nat) : Int) := by
  unfold Txt.count
  rw [occ_one]
  have h := cnt_one c x.cps.toList [] 1
  have e : x.cps.toList.length = x.length := Array.length_toList
  rw [e] at h
  exact congrArg _ h
theorem strip_parts {goes : Nat → Bool} {x : Str} {a m z : List Nat} (hx : x.cps.toList = a ++ (m ++ z)) (ha : ∀ c ∈ a, goes c = true) (hz : ∀ c ∈ z, goes c = true) (hm : m ≠ []) (hn : ∀ c ∈ m, goes c = false) : (Txt.stripBy goes true true x).cps.toList = m := by
  rw [PyProof.Rows.stripBy_eq, strSub_toList]
  have hl : stripLo goes true x = a.length := by
    unfold stripLo
    rw [if_pos rfl, hx, List.takeWhile_append_of_pos ha]
    cases m with
    | nil => exact absurd rfl hm
    | cons d r => simp [List.takeWhile_cons, hn d (.head _)]
  have hlen : x.length = a.length + (m.length + z.length) := by
    show x.cps.size = _
    rw [← Array.length_toList, hx]; simp
  have hh : stripHi goes true x a.length = a.length + m.length := by
    unfold stripHi
    rw [if_pos rfl, hx, List.drop_left, List.reverse_append, List.takeWhile_append_of_pos (by simpa using hz)]
    have hr : m.reverse.takeWhile goes = [] := by
      cases hq : m.reverse with
      | nil => exact absurd (by simpa using hq) hm
      | cons d r =>
        have : d ∈ m := by rw [← List.mem_reverse, hq]; exact .head _
        simp [List.takeWhile_cons, hn d this]
    rw [hr, hlen]; simp; omega
  rw [hl, hh, hx, List.drop_left]
  have : a.length + m.length - a.length = m.length := by omega
  rw [this, List.take_left]
theorem strip_all {goes : Nat → Bool} {x : Str} (h : ∀ c ∈ x.cps.toList, goes c = true) : (Txt.stripBy goes true true x).cps.toList = [] := by
  rw [PyProof.Rows.stripBy_eq, strSub_toList]
  have hl : stripLo goes true x = x.cps.toList.length := by
    unfold stripLo
    rw [if_pos rfl]
    have := List.takeWhile_append_of_pos (p := goes) (l₁ := x.cps.toList) (l₂ := []) h
    rw [List.append_nil] at this
    rw [this]; simp
  rw [hl, List.drop_length]; simp
theorem strSub_same (x : Str) (a : Nat) : strSub x a a = ⟨#[]⟩ := str_ext (by rw [strSub_toList]; simp)
theorem parts_run (x : Str) : ∀ (k i : Nat), i + k = x.length → partsFrom x 1 i (List.range' i k) = List.replicate (k + 1) ⟨#[]⟩
  | 0, i, h => by
    show [strSub x i x.length] = _
    rw [← h, Nat.add_zero, strSub_same]; rfl
  | k + 1, i, h => by
    rw [List.range'_succ]
    show strSub x i i :: partsFrom x 1 (i + 1) _ = _
    rw [strSub_same, parts_run x k (i + 1) (by omega)]; rfl
theorem glue_run (z : List Nat) : ∀ (k : Nat) (acc : Array Nat), ((List.replicate k (⟨#[]⟩ : Str)).foldl (fun acc p => acc ++ z.toArray ++ p.cps) acc).toList = acc.toList ++ (List.replicate k z).flatten
  | 0, acc => by simp
  | k + 1, acc => by
    rw [List.replicate_succ, List.foldl_cons, glue_run z k, List.replicate_succ, List.flatten_cons]
    simp
theorem replace_rep (n c d : Nat) : Txt.replace (rep n c) (rep 1 c) (rep 1 d) = rep n d := by
  have hl : (rep n c).length = n := rep_len n c
  have ho : occurrences (rep n c) (rep 1 c) 0 (rep n c).length ((rep n c).length + 1) = List.range' 0 n := by
    have : rep 1 c = ⟨#[c]⟩ := rfl
    rw [this, occ_one, hl]
    have e : (rep n c).cps.toList = List.replicate n c := ofL_ls _
    rw [e, List.range'_concat, List.filter_append, List.filter_eq_self.mpr, List.filter_cons_of_neg]
    · simp
    · simp
    · intro i hi
      have := List.mem_range'_1.mp hi
      simp [List.getElem?_replicate]; omega
  unfold Txt.replace
  rw [ho]
  cases n with
  | zero => simp; rfl
  | succ n =>
    rw [if_neg (by rw [List.range'_succ]; simp [rep_len]), rep_len]
    rw [partsBetween_eq, parts_run _ _ _ (by rw [hl]; omega)]
    refine str_ext ?_
    unfold glued
    have g := glue_run [d] (n + 1) #[]
    refine Eq.trans (show _ = _ from g) ?_
    rw [show (rep (n + 1) d).cps.toList = List.replicate (n + 1) d from ofL_ls _]
    rw [flat_rep]; rfl
end
-- the pieces of a drawn text: a quote, a stranger, a letter with what it is folded to
inductive Pc where
  | q : Pc
  | u (c : Nat) : Pc
  | l (c : Nat) (f : List Nat) : Pc
def Pc.sign : Pc → Nat
  | .q => 34
  | .u c => c
  | .l c _ => c
def Pc.stroke : Pc → Nat
  | .q => 92
  | .u c => c
  | .l c _ => c
def Pc.Ok (P : Params) : Pc → Prop
  | .q => True
  | .u c => b1 P c = true ∧ c ≠ 34 ∧ c ≠ 92
  | .l c f => b1 P c = false ∧ (b3 c).cps.toList = f ∧ c ≠ 34 ∧ c ≠ 92 ∧ f ≠ [] ∧ ∀ d ∈ f, d ≠ 34 ∧ d ≠ 92
def gr : List Pc → List Nat → Nat → List (List Nat) × List (List Nat)
  | [], rs, n => ([rs ++ [n]], [[]])
  | .q :: r, rs, n => gr r rs (n + 1)
  | .u _ :: r, rs, n => gr r (rs ++ [n]) 0
  | .l _ f :: r, rs, n => ((rs ++ [n]) :: (gr r [] 0).1, f :: (gr r [] 0).2)
def mrun : List Nat → List Nat × Bool
  | [] => ([], false)
  | r :: rs => if r % 2 = 1 then (List.replicate (r / 2) 34, true) else (List.replicate (r / 2) 34 ++ (mrun rs).1, (mrun rs).2)
def marks : List (List Nat) → List (List Nat) → List Nat
  | g :: gs, f :: fs => if (mrun g).2 = true then (mrun g).1 else (mrun g).1 ++ f ++ marks gs fs
  | _, _ => []
theorem mrun_app : ∀ (a b : List Nat), mrun (a ++ b) = if (mrun a).2 = true then mrun a else ((mrun a).1 ++ (mrun b).1, (mrun b).2)
  | [], b => by simp [mrun]
  | r :: a, b => by
    have ih := mrun_app a b
    by_cases h : r % 2 = 1
    · simp [mrun, h]
    · simp only [List.cons_append, mrun, if_neg h, ih]
      split <;> simp
theorem mrun_one (n : Nat) : mrun [n] = (List.replicate (n / 2) 34, decide (n % 2 = 1)) := by
  by_cases h : n % 2 = 1 <;> simp [mrun, h]
theorem p257_q (r : List Nat) : p257 (34 :: 34 :: r) = 34 :: p257 r := by rw [p257.eq_def]; simp
theorem p257_o {c : Nat} (h : c ≠ 34) : ∀ r, p257 (c :: r) = c :: p257 r
  | [] => by simp [p257, h]
  | d :: r => by rw [p257.eq_def]; simp [h]
theorem p257_e {c : Nat} (h : c ≠ 34) (r : List Nat) : p257 (34 :: c :: r) = [] := by rw [p257.eq_def]; simp [h]
theorem two_run : ∀ n : Nat, n = 2 * (n / 2) + n % 2 := fun n => by omega
theorem p257_even (r : List Nat) : ∀ k, p257 (List.replicate (2 * k) 34 ++ r) = List.replicate k 34 ++ p257 r
  | 0 => by simp
  | k + 1 => by
    rw [show 2 * (k + 1) = 2 * k + 1 + 1 from by omega, List.replicate_succ, List.replicate_succ, List.replicate_succ]
    show p257 (34 :: 34 :: (List.replicate (2 * k) 34 ++ r)) = _
    rw [p257_q, p257_even r k]; rfl
theorem p257_odd {c : Nat} (h : c ≠ 34) (r : List Nat) (k : Nat) : p257 (List.replicate (2 * k + 1) 34 ++ c :: r) = List.replicate k 34 := by
  rw [List.replicate_succ', List.append_assoc]
  show p257 (List.replicate (2 * k) 34 ++ 34 :: c :: r) = _
  rw [p257_even, p257_e h, List.append_nil]
theorem p257_run {c : Nat} (h : c ≠ 34) (n : Nat) (r : List Nat) : p257 (List.replicate n 34 ++ c :: r) = List.replicate (n / 2) 34 ++ if n % 2 = 1 then [] else c :: p257 r := by
  rcases Nat.mod_two_eq_zero_or_one n with e | e
  · have : n = 2 * (n / 2) := by omega
    rw [this, p257_even, p257_o h, if_neg (by omega)]
    simp
  · have : n = 2 * (n / 2) + 1 := by omega
    rw [this, p257_odd h, if_pos (by omega)]
    simp; omega
theorem p257_end (n : Nat) : p257 (List.replicate n 34) = List.replicate (n / 2) 34 := by
  rcases Nat.mod_two_eq_zero_or_one n with e | e
  · have h := p257_even [] (n / 2)
    rw [show 2 * (n / 2) = n from by omega] at h
    simpa [p257] using h
  · have h := p257_even [34] (n / 2)
    have e2 : List.replicate (2 * (n / 2)) 34 ++ [34] = List.replicate n 34 := by
      rw [← List.replicate_succ', show 2 * (n / 2) + 1 = n from by omega]
    rw [e2] at h
    simpa [p257] using h
theorem unq_even (r : List Nat) : ∀ k, unq (List.replicate (2 * k) 92 ++ r) = List.replicate k 92 ++ unq r
  | 0 => by simp
  | k + 1 => by
    rw [show 2 * (k + 1) = 2 * k + 1 + 1 from by omega, List.replicate_succ, List.replicate_succ, List.replicate_succ]
    show unq (92 :: 92 :: (List.replicate (2 * k) 92 ++ r)) = _
    rw [unq_b, unq_even r k]; rfl
theorem unq_run {c : Nat} (h : c ≠ 92) (n : Nat) (r : List Nat) : unq (List.replicate n 92 ++ c :: r) = List.replicate (n / 2) 92 ++ c :: unq r := by
  rcases Nat.mod_two_eq_zero_or_one n with e | e
  · have : n = 2 * (n / 2) := by omega
    rw [this, unq_even, unq_o h]
    simp
  · have : n = 2 * (n / 2) + 1 := by omega
    rw [this, List.replicate_succ', List.append_assoc]
    show unq (List.replicate (2 * (n / 2)) 92 ++ 92 :: c :: r) = _
    rw [unq_even, unq_b]
    simp; omega
theorem unq_end (n : Nat) : unq (List.replicate n 92) = List.replicate (n / 2) 92 := by
  rcases Nat.mod_two_eq_zero_or_one n with e | e
  · have h := unq_even [] (n / 2)
    rw [show 2 * (n / 2) = n from by omega] at h
    simpa [unq_n] using h
  · have h := unq_even [92] (n / 2)
    have e2 : List.replicate (2 * (n / 2)) 92 ++ [92] = List.replicate n 92 := by
      rw [← List.replicate_succ', show 2 * (n / 2) + 1 = n from by omega]
    rw [e2] at h
    simpa [unq_b0] using h
theorem prepL_cons (P : Params) (c : Nat) (r : List Nat) : prepL P (c :: r) = (if b1 P c = true then [] else (b3 c).cps.toList) ++ prepL P r := rfl
theorem prepL_nil (P : Params) : prepL P [] = [] := rfl
theorem prepL_ap (P : Params) (a b : List Nat) : prepL P (a ++ b) = prepL P a ++ prepL P b := List.flatMap_append
theorem b1_34 (P : Params) : b1 P (34 : Nat) = false := by kernel_rfl
theorem b3_34 : (b3 34).cps.toList = [34] := by decide +kernel
theorem b1_92 (P : Params) : b1 P (92 : Nat) = false := by kernel_rfl
theorem b3_92 : (b3 92).cps.toList = [92] := by decide +kernel
theorem prepL_34 (P : Params) : ∀ n, prepL P (List.replicate n 34) = List.replicate n 34
  | 0 => rfl
  | n + 1 => by
    have e : (b1 P ((34 : Nat) : Int)) = false := b1_34 P
    rw [List.replicate_succ, prepL_cons, prepL_34 P n, e, b3_34]; rfl
theorem prepL_92 (P : Params) : ∀ n, prepL P (List.replicate n 92) = List.replicate n 92
  | 0 => rfl
  | n + 1 => by
    have e : (b1 P ((92 : Nat) : Int)) = false := b1_92 P
    rw [List.replicate_succ, prepL_cons, prepL_92 P n, e, b3_92]; rfl
theorem rep_put (n c : Nat) (r : List Nat) : List.replicate n c ++ c :: r = List.replicate (n + 1) c ++ r := by
  rw [List.replicate_succ', List.append_assoc]; rfl
theorem law_name1 (P : Params) : ∀ (p : List Pc) (rs : List Nat) (n : Nat), (∀ x ∈ p, x.Ok P) → marks (gr p rs n).1 (gr p rs n).2 =
    if (mrun rs).2 = true then (mrun rs).1 else (mrun rs).1 ++ prepL P (p257 (List.replicate n 34 ++ p.map Pc.sign))
  | [], rs, n, _ => by
    simp only [gr, marks, List.map_nil, List.append_nil, p257_end, prepL_34, mrun_app, mrun_one]
    by_cases e : (mrun rs).2 = true
    · simp [e]
    · simp only [if_neg e]
      by_cases e2 : n % 2 = 1 <;> simp [e2]
  | .q :: p, rs, n, h => by
    have ih := law_name1 P p rs (n + 1) fun x hx => h x (.tail _ hx)
    simp only [gr, List.map_cons, Pc.sign, rep_put]
    exact ih
  | .u c :: p, rs, n, h => by
    obtain ⟨k1, k2, k3⟩ : b1 P c = true ∧ c ≠ 34 ∧ c ≠ 92 := h _ (.head _)
    have ih := law_name1 P p (rs ++ [n]) 0 fun x hx => h x (.tail _ hx)
    simp only [gr, List.map_cons, Pc.sign, p257_run k2, prepL_ap, prepL_34]
    rw [ih, mrun_app, mrun_one]
    by_cases e : (mrun rs).2 = true
    · simp [e]
    · simp only [if_neg e]
      by_cases e2 : n % 2 = 1
      · simp [e2, prepL_nil]
      · simp [e2, prepL_cons, k1]
  | .l c f :: p, rs, n, h => by
    obtain ⟨k1, k2, k3, k4, k5, k6⟩ : b1 P c = false ∧ (b3 c).cps.toList = f ∧ c ≠ 34 ∧ c ≠ 92 ∧ f ≠ [] ∧ ∀ d ∈ f, d ≠ 34 ∧ d ≠ 92 := h _ (.head _)
    have ih := law_name1 P p [] 0 fun x hx => h x (.tail _ hx)
    simp only [gr, marks, List.map_cons, Pc.sign, p257_run k3, prepL_ap, prepL_34]
    rw [ih, mrun_app, mrun_one]
    by_cases e : (mrun rs).2 = true
    · simp [e]
    · simp only [if_neg e]
      by_cases e2 : n % 2 = 1
      · simp [e2, prepL_nil]
      · simp [e2, prepL_cons, k1, k2, mrun]
-- the groups' sums
def sm : List Pc → Nat → List Nat
  | [], n => [n]
  | .q :: r, n => sm r (n + 1)
  | .u _ :: r, n => sm r n
  | .l _ _ :: r, n => n :: sm r 0
theorem sm_gr : ∀ (p : List Pc) (rs : List Nat) (n : Nat), (gr p rs n).1.map List.sum = sm p (rs.sum + n)
  | [], rs, n => by simp [gr, sm]
  | .q :: p, rs, n => by simp only [gr, sm]; rw [sm_gr p rs (n + 1)]; congr 1
  | .u c :: p, rs, n => by simp only [gr, sm]; rw [sm_gr p]; simp
  | .l c f :: p, rs, n => by simp only [gr, sm, List.map_cons]; rw [sm_gr p]; simp
def flds : List Pc → List (List Nat)
  | [] => [[]]
  | .l _ f :: r => f :: flds r
  | .q :: r => flds r
  | .u _ :: r => flds r
theorem flds_gr : ∀ (p : List Pc) (rs : List Nat) (n : Nat), (gr p rs n).2 = flds p
  | [], rs, n => rfl
  | .q :: p, rs, n => by simp only [gr, flds]; exact flds_gr p _ _
  | .u c :: p, rs, n => by simp only [gr, flds]; exact flds_gr p _ _
  | .l c f :: p, rs, n => by simp only [gr, flds]; rw [flds_gr p]
theorem p257_app {f : List Nat} (h : ∀ d ∈ f, d ≠ 34 ∧ d ≠ 92) (r : List Nat) : p257 (f ++ r) = f ++ p257 r := by
  induction f with
  | nil => rfl
  | cons c f ih =>
    show p257 (c :: (f ++ r)) = _
    rw [p257_o (h c (.head _)).1, ih fun d hd => h d (.tail _ hd)]; rfl
theorem p257_runF {f : List Nat} (h : ∀ d ∈ f, d ≠ 34 ∧ d ≠ 92) (hf : f ≠ []) (n : Nat) (r : List Nat) : p257 (List.replicate n 34 ++ (f ++ r)) = List.replicate (n / 2) 34 ++ if n % 2 = 1 then [] else f ++ p257 r := by
  cases f with
  | nil => exact absurd rfl hf
  | cons c f =>
    show p257 (List.replicate n 34 ++ c :: (f ++ r)) = _
    rw [p257_run (h c (.head _)).1, p257_app fun d hd => h d (.tail _ hd)]; rfl
theorem unq_app {f : List Nat} (h : ∀ d ∈ f, d ≠ 34 ∧ d ≠ 92) (r : List Nat) : unq (f ++ r) = f ++ unq r := by
  induction f with
  | nil => rfl
  | cons c f ih =>
    show unq (c :: (f ++ r)) = _
    rw [unq_o (h c (.head _)).2, ih fun d hd => h d (.tail _ hd)]; rfl
theorem unq_runF {f : List Nat} (h : ∀ d ∈ f, d ≠ 34 ∧ d ≠ 92) (hf : f ≠ []) (n : Nat) (r : List Nat) : unq (List.replicate n 92 ++ (f ++ r)) = List.replicate (n / 2) 92 ++ (f ++ unq r) := by
  cases f with
  | nil => exact absurd rfl hf
  | cons c f =>
    show unq (List.replicate n 92 ++ c :: (f ++ r)) = _
    rw [unq_run (h c (.head _)).2, unq_app fun d hd => h d (.tail _ hd)]; rfl
theorem law_name2 (P : Params) : ∀ (p : List Pc) (n : Nat), (∀ x ∈ p, x.Ok P) → marks ((sm p n).map fun x => [x]) (flds p) = p257 (List.replicate n 34 ++ prepL P (p.map Pc.sign))
  | [], n, _ => by
    simp only [sm, flds, List.map_cons, List.map_nil, marks, prepL_nil, List.append_nil, p257_end, mrun_one]
    split <;> rfl
  | .q :: p, n, h => by
    have ih := law_name2 P p (n + 1) fun x hx => h x (.tail _ hx)
    have e : (b1 P ((34 : Nat) : Int)) = false := b1_34 P
    simp only [sm, flds, List.map_cons, Pc.sign, prepL_cons, e, b3_34]
    rw [ih]
    show _ = p257 (List.replicate n 34 ++ 34 :: prepL P _)
    rw [rep_put]
  | .u c :: p, n, h => by
    obtain ⟨k1, k2, k3⟩ : b1 P c = true ∧ c ≠ 34 ∧ c ≠ 92 := h _ (.head _)
    have ih := law_name2 P p n fun x hx => h x (.tail _ hx)
    simp only [sm, flds, List.map_cons, Pc.sign, prepL_cons, k1, if_true, List.nil_append]
    exact ih
  | .l c f :: p, n, h => by
    obtain ⟨k1, k2, k3, k4, k5, k6⟩ : b1 P c = false ∧ (b3 c).cps.toList = f ∧ c ≠ 34 ∧ c ≠ 92 ∧ f ≠ [] ∧ ∀ d ∈ f, d ≠ 34 ∧ d ≠ 92 := h _ (.head _)
    have ih := law_name2 P p 0 fun x hx => h x (.tail _ hx)
    simp only [sm, flds, List.map_cons, Pc.sign, prepL_cons, k1, k2, marks, mrun_one]
    rw [ih]
    simp only [Bool.false_eq_true, if_false]
    rw [p257_runF k6 k5]
    by_cases e2 : n % 2 = 1 <;> simp [e2]
-- the lexer
def hv (g : List Nat) : Nat := (g.map (· / 2)).sum
def oddN (g : List Nat) : Nat := (g.filter fun r => decide (r % 2 = 1)).length
theorem hv_odd : ∀ g : List Nat, 2 * hv g + oddN g = g.sum
  | [] => rfl
  | r :: g => by
    have ih := hv_odd g
    unfold hv oddN at ih ⊢
    simp only [List.map_cons, List.sum_cons, List.filter_cons]
    rcases Nat.mod_two_eq_zero_or_one r with e | e
    · rw [if_neg (by simp [e])]; omega
    · rw [if_pos (by simp [e]), List.length_cons]; omega
theorem hv_eq (g : List Nat) : hv g = g.sum / 2 - oddN g / 2 := by have := hv_odd g; omega
theorem odd_le (g : List Nat) : oddN g ≤ g.sum := by have := hv_odd g; omega
theorem hv_app (a b : List Nat) : hv (a ++ b) = hv a + hv b := by simp [hv]
def told3 : List (List Nat) → List (List Nat) → List Nat
  | g :: gs, f :: fs => List.replicate (hv g) 92 ++ f ++ told3 gs fs
  | _, _ => []
def told4 : List Nat → List (List Nat) → List Nat
  | n :: ns, f :: fs => List.replicate (n / 2) 92 ++ f ++ told4 ns fs
  | _, _ => []
theorem law_word1 (P : Params) : ∀ (p : List Pc) (rs : List Nat) (n : Nat), (∀ x ∈ p, x.Ok P) → told3 (gr p rs n).1 (gr p rs n).2 =
    List.replicate (hv rs) 92 ++ prepL P (unq (List.replicate n 92 ++ p.map Pc.stroke))
  | [], rs, n, _ => by
    simp only [gr, told3, List.map_nil, List.append_nil, unq_end, prepL_92, hv_app]
    rw [List.replicate_append_replicate]; simp [hv]
  | .q :: p, rs, n, h => by
    have ih := law_word1 P p rs (n + 1) fun x hx => h x (.tail _ hx)
    simp only [gr, List.map_cons, Pc.stroke, rep_put]
    exact ih
  | .u c :: p, rs, n, h => by
    obtain ⟨k1, k2, k3⟩ : b1 P c = true ∧ c ≠ 34 ∧ c ≠ 92 := h _ (.head _)
    have ih := law_word1 P p (rs ++ [n]) 0 fun x hx => h x (.tail _ hx)
    simp only [gr, List.map_cons, Pc.stroke, unq_run k3, prepL_ap, prepL_92, prepL_cons, k1, if_true, List.nil_append]
    rw [ih, hv_app, ← List.append_assoc, List.replicate_append_replicate]
    simp [hv]
  | .l c f :: p, rs, n, h => by
    obtain ⟨k1, k2, k3, k4, k5, k6⟩ : b1 P c = false ∧ (b3 c).cps.toList = f ∧ c ≠ 34 ∧ c ≠ 92 ∧ f ≠ [] ∧ ∀ d ∈ f, d ≠ 34 ∧ d ≠ 92 := h _ (.head _)
    have ih := law_word1 P p [] 0 fun x hx => h x (.tail _ hx)
    simp only [gr, told3, List.map_cons, Pc.stroke, unq_run k4, prepL_ap, prepL_92, prepL_cons, k1, k2]
    rw [ih, hv_app]
    simp [hv]
    rw [← List.replicate_append_replicate, List.append_assoc]
theorem law_word2 (P : Params) : ∀ (p : List Pc) (n : Nat), (∀ x ∈ p, x.Ok P) → told4 (sm p n) (flds p) = unq (List.replicate n 92 ++ prepL P (p.map Pc.stroke))
  | [], n, _ => by simp only [sm, flds, told4, List.map_nil, prepL_nil, List.append_nil, unq_end]
  | .q :: p, n, h => by
    have ih := law_word2 P p (n + 1) fun x hx => h x (.tail _ hx)
    have e : (b1 P ((92 : Nat) : Int)) = false := b1_92 P
    simp only [sm, flds, List.map_cons, Pc.stroke, prepL_cons, e, b3_92]
    rw [ih]
    show _ = unq (List.replicate n 92 ++ 92 :: prepL P _)
    rw [rep_put]
  | .u c :: p, n, h => by
    obtain ⟨k1, k2, k3⟩ : b1 P c = true ∧ c ≠ 34 ∧ c ≠ 92 := h _ (.head _)
    have ih := law_word2 P p n fun x hx => h x (.tail _ hx)
    simp only [sm, flds, List.map_cons, Pc.stroke, prepL_cons, k1, if_true, List.nil_append]
    exact ih
  | .l c f :: p, n, h => by
    obtain ⟨k1, k2, k3, k4, k5, k6⟩ : b1 P c = false ∧ (b3 c).cps.toList = f ∧ c ≠ 34 ∧ c ≠ 92 ∧ f ≠ [] ∧ ∀ d ∈ f, d ≠ 34 ∧ d ≠ 92 := h _ (.head _)
    have ih := law_word2 P p 0 fun x hx => h x (.tail _ hx)
    simp only [sm, flds, List.map_cons, Pc.stroke, prepL_cons, k1, k2, told4]
    simp only [Bool.false_eq_true, if_false]
    rw [ih, unq_runF k6 k5]
    simp

theorem gLex_updT {w : World} {pm : Value} {z : Strm} {y : Lex} {x : Str} (hz : z.Ok x) (news : List (Addr × Obj)) (o : Obj) (h1 : @LT.lt Nat _ y.DX y.X) (h2 : @LT.lt Nat _ y.X y.P) (h3 : @LT.lt Nat _ z.S y.DX) (h4 : AllLt z.C news) : UpdF z.S o (gLex w pm z y news o) (gLex w pm z y news) := by
  have l1 := hz.l1
  have l2 := hz.l2
  have l3 := hz.l3
  have l4 := hz.l4
  have l5 := hz.l5
  have l6 := hz.l6
  have l7 := hz.l7
  have hn : ∀ p ∈ news, p.1 ≠ z.S := allNe_of h4 (Nat.le_of_lt l1)
  show UpdF z.S o (gLex w pm z y news o) (fun o => gLex w pm z y news o)
  simp only [gLex]
  k_updF
theorem tokOf_unq {l : List Nat} (h : ∀ c ∈ l, c ≠ 34) : (tokOf l).1 = unq l := by
  cases l with
  | nil => simp [tokOf, unq_n]
  | cons c r =>
    have h1 := h c (.head _)
    by_cases h2 : c = 92
    · subst h2
      cases r with
      | nil => simp [tokOf_b0, unq_b0]
      | cons d r => rw [tokOf_b, unq_b]
    · rw [tokOf_o h1 h2, unq_o h2]
section
local macro_rules | `(tactic| walk_at "eval Name") => `(tactic| (k_here; k_dflt (refine' ld ?k1 ?k2 ?_; (case k1 => k_asm); (case k2 => assumption); k_whole)))
set_option maxHeartbeats 4000000 in
theorem c_word {p : Program} {w : World} {loose : List Str} {mean : ExcName → Option Value} {mg mb : Str → Option Value} (l news : List (Addr × Obj)) (hl : TabL l) (cur : List Nat) (t : Tok) (hok : ∀ c ∈ cur, TokOk c) (hlen : cur.length ≤ 100000) (h166 : ∀ p ∈ news, p.1 ≠ 166) :
   ClH (fun h => CodeHd h 170 166) pw w (KF w.params) p loose mean mg mb 178 8 200 (l ++ news) [.str (ofL cur) t] (fun q : Tok × List (Addr × Obj) => TabL q.2) (fun q => .str ⟨(tokOf cur).1.toArray⟩ q.1) (fun q => q.2 ++ news) := by
  ((intro dp un gd cn cs a ccd cl outer A₀ base h₀ L m s Q E hB hF hX hN hT hK hpre hdp hun hret; have hdp1 : dp + 1 < recursionLimit := (by omega); have hun1 : un + 8 < cLine := (by omega); refine wpAny_call ?_))
  k_dflt cell_enter
  k_steps
  refine' c_stream l news hl (ofL cur) _ ?hsz h166 _ _ _ _ _ _ _ _ _ _ _ _ _ _ _ _ _ ?k1 ?k2 ?k3 ?k4 ?k5 ?kK ?kp ?kd ?ku ?kR
  case hsz => rw [ofL_len, sizeLine_eq]; omega
  case k1 => k_asm
  case k2 => k_asm
  case k3 => k_asm
  case k4 => k_asm
  case k5 => k_asm
  case kK => exact rfl
  case kp => assumption
  case kd => ktr_room
  case ku => ktr_units
  case kR =>
    intro z h9 tk9 p9 F9 N9
    dsimp only
    simp only [Strm.objs, Strm.codes, List.cons_append, List.nil_append] at N9
    k_steps
    refine' c_new _ _ _ _ _ _ _ _ _ _ _ _ _ _ _ _ _ _ _ ?k1 ?k2 ?k3 ?k4 ?k5 ?kK ?kd ?ku ?kR
    case k1 => k_asm
    case k2 => k_asm
    case k3 => k_asm
    case k4 => k_asm
    case k5 => k_asm
    case kK => exact rfl
    case kd => ktr_room
    case ku => ktr_units
    case kR =>
      intro y h8 tk8 p8 F8 N8
      dsimp only
      simp only [Lex.objs, List.cons_append, List.nil_append] at N8
      obtain ⟨hz, hzI⟩ := p9
      obtain ⟨y1, y2, y3⟩ := p8
      have hgU := fun o => gLex_updT (w := w) (pm := (mg "__name__").getD .none) (y := y) hz news o y1 y2 y3.2.2.2.1 hzI
      k_steps
      dsimp only [List.append_nil]
      refine' c_tok _ (gLex w ((mg "__name__").getD .none) z y news) z y (ofL cur) _ cur z.ys z.k (holds_ok hz) (hgU _) (gLex_in hz _) rfl hok hlen _ _ _ _ _ _ _ _ _ _ _ _ _ _ _ _ _ ?k1 ?k2 ?k3 ?k4 ?k5 ?kK ?kd ?ku ?kR
      case k1 => k_asm
      case k2 => k_asm
      case k3 => k_asm
      case k4 => k_asm
      case k5 => k_asm
      case kK => exact rfl
      case kd => ktr_room
      case ku => ktr_units
      case kR =>
        intro q1 h7 tk7 p7 F7 N7
        dsimp only at p7 N7 ⊢
        k_steps
        refine hret (q1.1, [(166, z.tab), (z.c2, z.o2), (z.c1, z.o1)]) _ _ (.inr ⟨z.c2, z.c1, z.o2, z.o1, hz.ok2, hz.ok1, rfl⟩) (by k_asm) ?_
        intro r hr
        refine (by assumption : News _ _ _ (gLex _ _ _ _ _ _)) r ?_
        simp only [gLex, List.mem_cons, List.mem_append, List.cons_append, List.nil_append] at hr ⊢
        rcases hr with h | h | h | h <;> simp [h]
end
section
local macro_rules | `(tactic| walk_at "binaryOp Add str str") => `(tactic| (k_here; k_dflt (refine' add_str ?_ ?hsz; (case hsz => ((simp only [app_len, mul_len, ofL_len, rep_len, len_q, len_b, len_257, sizeLine_eq]; omega)))); intro _ _))
set_option maxHeartbeats 2000000 in
theorem c_name {p : Program} {w : World} {loose : List Str} {mean : ExcName → Option Value} {mg mb : Str → Option Value} (news : List (Addr × Obj)) (l : List Nat) (t : Tok) (hl : l.length ≤ 10000) :
   Cl pw w (KF w.params) p loose mean mg mb 185 3 32 news [.str (ofL l) t] (fun _ : Tok => True) (fun t => .str ⟨(p257 l).toArray⟩ t) (fun _ => news) := by
  ((intro dp un gd cn cs a ccd cl outer A₀ base h₀ L m s Q E hB hF hX hN hT hK hdp hun hret; have hdp1 : dp + 1 < recursionLimit := (by omega); have hun1 : un + 8 < cLine := (by omega); refine wpAny_call ?_; k_dflt cell_enter))
  refine wpAny_retok fun tk9 => ?_
  k_steps
  refine' c_257 _ _ l _ (by omega) (by simp [app_ls, ofL_ls, ls_257]) _ _ _ _ _ _ _ _ _ _ _ _ _ _ _ _ _ ?k1 ?k2 ?k3 ?k4 ?k5 ?kK ?kd ?ku ?kR
  case k1 => k_asm
  case k2 => k_asm
  case k3 => k_asm
  case k4 => k_asm
  case k5 => k_asm
  case kK => exact rfl
  case kd => ktr_room
  case ku => ktr_units
  case kR =>
    intro q h9 tk9 p9 F9 N9
    dsimp only
    k_steps
    (exact hret _ _ _ trivial (by k_asm) (by (first | k_asm | exact news_tl (by assumption) | exact news_tl (news_tl (by assumption)) | exact news_tl (news_tl (news_tl (by assumption))))))
end

def Stop (P : Prop) : Prop := P
theorem Stop.out {P : Prop} (h : Stop P) : P := h
theorem Stop.of {P : Prop} (h : P) : Stop P := h
section
variable {prog : Program} {w : World} {A : Around} {E : Value → Shared → Prop} {s : Shared} {value slice : PySem.Expr} {l : Addr} {vs : List Value} {ws : List Str} {k : Nat} {t u : Tok} {Q : Value → Shared → Prop}
theorem item_strsN (hl : s.heap.IsList l vs.toArray) (hw : StrsAre vs ws) (hk : k < ws.length) (h9 : k < 100000) (h : ∀ t', Q (.str (ws.getD k Str.empty) t') s)
    (hs : subscripted slice false (.ref l) (.int (k : Int) u) = operate [.ref l, .int (k : Int) u] (getItem (.ref l) (.int (k : Int) u)) := by with_unfolding_all rfl) :
    wpAny (model prog w) A (subscriptTail value slice (.ref l) (.int (k : Int) u)) Q E s :=
  KTb.item_list hl hw (by omega) (by omega) (by omega) (fun t' _ => by rw [Int.toNat_natCast]; exact h t') hs
theorem mod_intN {c d : Int} (a : Nat) (hc : d = (a : Int)) (ha : 0 < a) (h : Q (.int (((c.fmod a).toNat : Nat) : Int) s.toks) { s with toks := s.toks + 1 }) : wpAny (model prog w) A (binaryOp .Mod (.int c t) (.int d u)) Q E s :=
  mod_int' (by omega) (by
    have e : c.fmod d = (((c.fmod a).toNat : Nat) : Int) := by
      subst hc
      rw [Int.fmod_eq_emod_of_nonneg _ (by omega)]
      have h1 := Int.emod_nonneg c (b := (a : Int)) (by omega)
      omega
    rw [e]; exact h)
theorem div_intG {c d : Int} (hd : d ≠ 0) (hs : d.natAbs < 1073741824) (h : Q (.int (c.fdiv d) s.toks) { s with toks := s.toks + 1 }) : wpAny (model prog w) A (binaryOp .FloorDiv (.int c t) (.int d u)) Q E s :=
  floordiv_int hd h (Or.inl (PyProof.noPylong_small hs))
theorem mod_natG {c : Int} (a : Nat) (hc : c = (a : Int)) (ha : 0 < a) (h : Q (.int ((k % a : Nat) : Int) s.toks) { s with toks := s.toks + 1 }) : wpAny (model prog w) A (binaryOp .Mod (.int (k : Int) t) (.int c u)) Q E s :=
  mod_int' (by omega) (by
    have e : ((k : Int)).fmod c = ((k % a : Nat) : Int) := by subst hc; rw [Int.fmod_eq_emod_of_nonneg _ (by omega)]; simp
    rw [e]; exact h)
theorem div_natG {c : Int} (a : Nat) (hc : c = (a : Int)) (ha : 0 < a) (ha2 : a < 100000) (h : Q (.int ((k / a : Nat) : Int) s.toks) { s with toks := s.toks + 1 }) : wpAny (model prog w) A (binaryOp .FloorDiv (.int (k : Int) t) (.int c u)) Q E s :=
  floordiv_int (by omega) (by
    have e : ((k : Int)).fdiv c = ((k / a : Nat) : Int) := by subst hc; rw [Int.fdiv_eq_ediv_of_nonneg _ (by omega)]; simp
    rw [e]; exact h) (Or.inl (PyProof.noPylong_small (by omega)))
end
section
open LCg
variable {prog : Program} {w : World} {A : Around} {E : Value → Shared → Prop} {s : Shared} {h₀ : Heap} {L : Addr} {m : Str → Option Value} {env : Env}
def SrcV (prog : Program) (w : World) (A : Around) (h₀ : Heap) (L : Addr) (m : Str → Option Value) (env : Env) (elt : Expr) (x : Str) (scope : Scope) (cl : List (Str × Addr)) (Q : Value → Shared → Prop) (xv : Value) (s₁ : Shared) : Prop :=
  CompSrc prog w A h₀ L m env elt x scope cl (fun s₂ => FinE h₀ L m s₂ Q) xv s₁
theorem SrcV.ledger {elt : Expr} {x : Str} {scope : Scope} {cl : List (Str × Addr)} {Q : Value → Shared → Prop} {ax : Addr} {its : Array Value} {k : Nat} {news : List (Addr × Obj)}
    (hh : A.handled = none) (F : Fr h₀ L s.heap m) (N : News h₀ L s.heap news) (hm : (ax, listOf its k) ∈ news) (hsz : its.size ≤ sizeLine)
    (h : ∀ g, CompRest prog w A h₀ L m env elt x scope cl { s with heap := g } (SrcAt h₀ ax its) (fun i v => its[i]? = some v) (FinE h₀ L m { s with heap := g } Q) its.size 0 [] news) :
    SrcV prog w A h₀ L m env elt x scope cl Q (.ref ax) s := CompSrc.ledger (k := k) hh F N hm hsz h
theorem ListComp_V {elt iter : Expr} {x : Str} {px : Pos} {scope : Scope} {cl : List (Str × Addr)} {pos : Pos} {Q : Value → Shared → Prop} (F₀ : Fr h₀ L s.heap m)
    (hclos : closureFor scope env = pure cl) (hcell : ∀ y ∈ scope.names, y.2 ≠ .cell) (hkind : scope.kind = .function)
    (hnames : ∀ y ∈ scope.names, y.2 = .local → scope.names.lookup y.1 = some .local) (hx : scope.names.lookup x = some .local)
    (h : wpAny (model prog w) A (eval iter env) (SrcV prog w A h₀ L m env elt x scope cl Q) E s)
    (hs : ∀ x, foldedSetIterable iter env x = pure x := by intro _; rfl) :
    wpAny (model prog w) A (eval (.ListComp elt [⟨.Name x px, iter, [], 0⟩] scope pos) env) Q E s := ListComp_U F₀ hclos hcell hkind hnames hx h hs
end

-- a comprehension whose turns make no new thing
section
open LCg LCt
variable {prog : Program} {w : World} {A : Around} {E : Value → Shared → Prop} {s : Shared} {h₀ : Heap} {L : Addr} {m : Str → Option Value} {env : Env}
theorem compRest_out {elt : Expr} {x : Str} {scope : Scope} {cl : List (Str × Addr)} {S : List (Addr × Obj) → Prop} {P : Nat → Value → Prop} {Fin : List Value → List (Addr × Obj) → Prop} {news : List (Addr × Obj)} (n : Nat) (R : Nat → Value → Prop) (hS : S news)
    (turn : ∀ i v (ys : List Value) (I : Addr) (oI : Obj) (C : Addr) (oC : Obj) (D : Addr) (m₂ : Str → Option Value) (h : Heap) (tk : Nat) (E' : Value → Shared → Prop), i < n → P i v → NsObj oC m₂ → m₂ x = some v → Fr h₀ L h m → News h₀ L h ((I, oI) :: (C, oC) :: (D, lst ys) :: news) → Off3 I C D news → ((@Ne Nat I C) ∧ (@Ne Nat I D) ∧ (@Ne Nat C D)) →
      wpAny (model prog w) A (eval elt (compEnvC scope cl C env)) (fun v s₂ => R i v ∧ ∃ h' tk', s₂ = { s with heap := h', toks := tk' } ∧ Fr h₀ L h' m ∧ News h₀ L h' ((I, oI) :: (C, oC) :: (D, lst ys) :: news)) E' { s with heap := h, toks := tk }) :
    ∀ (k i : Nat) (ys : List Value), k + i = n → ys.length = i → (∀ j v, ys[j]? = some v → R j v) → (∀ ys', ys'.length = n → (∀ j v, ys'[j]? = some v → R j v) → Fin ys' news) → CompRest prog w A h₀ L m env elt x scope cl s S P Fin k i ys news
  | 0, i, ys, hk, hl, hR, hF => CompRest.zero (hF ys (by omega) hR)
  | k + 1, i, ys, hk, hl, hR, hF => CompRest.succ (by
    intro v I oI C oC D m₂ h tk E' hv hC hx F N off ne
    refine wpAny_mono (turn i v ys I oI C oC D m₂ h tk E' (by omega) hv hC hx F N off ne) (fun y s₂ hy => ?_) fun _ _ e => e
    obtain ⟨hr, h', tk', rfl, F', N'⟩ := hy
    refine CompEnd.intro F' N' news (fun p hp => hp) off hS (compRest_out n R hS turn k (i + 1) _ (by omega) (by simp [hl]) (fun j z hz => ?_) hF)
    by_cases hj : j < ys.length
    · rw [List.getElem?_append_left hj] at hz; exact hR j z hz
    · rw [List.getElem?_append_right (by omega)] at hz
      have hj2 : j = i := by
        rcases Nat.lt_or_ge (j - ys.length) 1 with h | h
        · omega
        · rw [List.getElem?_eq_none (by simpa using h)] at hz; cases hz
      subst hj2
      rw [hl, Nat.sub_self] at hz
      cases hz
      exact hr)
end
theorem ints_of {f : Nat → Int} : ∀ {ys : List Value}, (∀ j v, ys[j]? = some v → ∃ t, v = Value.int (f j) t) → IntsAre ys ((List.range ys.length).map f)
  | [], _ => .nil
  | v :: ys, h => by
    obtain ⟨t, rfl⟩ := h 0 v rfl
    rw [List.length_cons, List.range_succ_eq_map, List.map_cons, List.map_map]
    exact .cons _ _ (ints_of (f := f ∘ Nat.succ) fun j v hj => h (j + 1) v (by simpa using hj))
theorem strs_of {f : Nat → Str} : ∀ {ys : List Value}, (∀ j v, ys[j]? = some v → ∃ t, v = Value.str (f j) t) → StrsAre ys ((List.range ys.length).map f)
  | [], _ => .nil
  | v :: ys, h => by
    obtain ⟨t, rfl⟩ := h 0 v rfl
    rw [List.length_cons, List.range_succ_eq_map, List.map_cons, List.map_map]
    exact .cons _ _ (strs_of (f := f ∘ Nat.succ) fun j v hj => h (j + 1) v (by simpa using hj))
-- a for loop over a list in the ledger
section
variable {prog : Program} {w : World} {A : Around} {E : Value → Shared → Prop} {Q : Flow → Shared → Prop} {s : Shared} {env : Env} {h₀ : Heap} {x : Str} {body : List Stmt}
theorem listJ {l : Addr} {its : Array Value} {k : Nat} {m₀ : Str → Option Value} {news : List (Addr × Obj)} (J : Nat → (Str → Option Value) → List (Addr × Obj) → Prop) (hJl : ∀ i m nw, J i m nw → (l, listOf its k) ∈ nw)
    (hh : A.handled = none) (F : Fr h₀ env.locals s.heap m₀) (N : News h₀ env.locals s.heap news) (hJ : J 0 m₀ news)
    (turn : ∀ I i v m₁ news₁ h tk o, ¬ CodeOk o → (∀ p ∈ news, @LT.lt Nat _ p.1 I) → its[i]? = some v → J i m₁ news₁ → (∀ p ∈ news₁, p.1 ≠ I) → Fr h₀ env.locals h (fun y => if y = x then some v else m₁ y) → News h₀ env.locals h ((I, o) :: news₁) →
      wpAny (model prog w) A (execs body env) (RStep h₀ env.locals I o J s Q i) E { s with heap := h, toks := tk })
    (done : ∀ h tk m' news', Fr h₀ env.locals h m' → News h₀ env.locals h news' → J its.size m' news' → Q .next { s with heap := h, toks := tk }) :
    wpAny (model prog w) A (pyIter (.ref l)) (fun it s₂ => LoopAtV prog w A h₀ env x body Q E it s₂) E s := by
  have hm0 := hJl _ _ _ hJ
  have hls : s.heap.IsList l its := ⟨_, (N _ hm0).1, rfl, _, rfl⟩
  have hlt : @LT.lt Nat _ l s.heap.objs.size := Heap.lt_size (N _ hm0).1
  have hne : l ≠ s.heap.objs.size := Nat.ne_of_lt hlt
  refine wpAny_pyIter_list hls ?_
  have W := Walks.list (prog := prog) (w := w) hh s.heap.objs.size l hne its
  have hI0 : h₀.get? s.heap.objs.size = none := next_is_new F
  refine ⟨_, _, _, its.size, _, _, m₀, news, J, rfl, W, ?_, ?_, ?_, ⟨⟨_, Heap.get?_push_size _ rfl, rfl, rfl⟩, hls.at fun o e => Heap.get?_push_of_some _ e⟩, F.push _, (fun p hp => ⟨Heap.get?_push_of_some _ (N p hp).1, (N p hp).2⟩), hJ, ?_, ?_⟩
  · intro hm
    rcases List.mem_cons.mp hm with e | hm
    · exact absurd F.ns.lt (e ▸ Nat.lt_irrefl _)
    · exact (N _ hm0).2.1 (List.mem_singleton.mp hm).symm
  · intro b hb
    rw [List.mem_singleton.mp hb]
    exact hI0
  · intro p hp hI
    exact absurd (Heap.lt_size (N p hp).1) ((List.mem_singleton.mp hI) ▸ Nat.lt_irrefl _)
  · rintro i v m₁ news₁ s₁ own ⟨hh', tk', rfl⟩ hin hv hJ₁ hoff hown hget hall hst' F₁ N₁
    obtain ⟨oI, ho, hc, hd⟩ := hst'.1
    have hO : ¬ CodeOk oI := by
      rintro ⟨vs, t, e, e2⟩
      rw [hd] at e; cases e; cases e2
    have hio := hall s.heap.objs.size (.head _) hI0 _ ho
    have hlm := hJl _ _ _ hJ₁
    have hlg := (N₁ _ (List.mem_append_right _ hlm)).1
    have N₂ : News h₀ env.locals hh' ((s.heap.objs.size, oI) :: news₁) := fun p hp => by
      rcases List.mem_cons.mp hp with rfl | hp
      · exact N₁ _ (List.mem_append_left _ hio)
      · exact N₁ _ (List.mem_append_right _ hp)
    refine wpAny_mono (turn _ i v m₁ news₁ hh' tk' _ hO (fun p hp => Heap.lt_size (N p hp).1) hv hJ₁ (fun p hp e => hoff p hp (List.mem_singleton.mpr e)) F₁ N₂) (fun f s₂ p => ?_) fun _ _ e => e
    have fin : (∃ h' tk m₂ news₂, s₂ = { s with heap := h', toks := tk } ∧ Fr h₀ env.locals h' m₂ ∧ News h₀ env.locals h' ((s.heap.objs.size, oI) :: news₂) ∧ (∀ p ∈ news₂, p.1 ≠ s.heap.objs.size) ∧ J (i + 1) m₂ news₂) → LoopStepU h₀ env.locals [s.heap.objs.size] own (J (i + 1)) { s with heap := hh', toks := tk' } .next s₂ := by
      rintro ⟨h', tk, m', news', e, F', N', hne', hJ'⟩
      refine ⟨rfl, h', tk, m', news', e, F', fun p hp => ?_, fun p hp e => hne' p hp (List.mem_singleton.mp e), hJ'⟩
      rcases List.mem_append.mp hp with hp | hp
      · have h1 := hget p hp
        rcases List.mem_cons.mp (hown p hp) with e1 | e1
        · have e2 : p.2 = oI := by
            have e1' : p.1 = s.heap.objs.size := e1
            rw [e1'] at h1
            have : some p.2 = some oI := h1.symm.trans ho
            exact Option.some.inj this
          have : p = (s.heap.objs.size, oI) := Prod.ext e1 e2
          rw [this]
          exact N' _ (.head _)
        · have e1' : p.1 = l := List.mem_singleton.mp e1
          have e2 : p.2 = listOf its k := by
            rw [e1'] at h1
            exact Option.some.inj (h1.symm.trans hlg)
          have : p = (l, listOf its k) := Prod.ext e1' e2
          rw [this]
          exact N' _ (.tail _ (hJl _ _ _ hJ'))
      · exact N' _ (.tail _ hp)
    cases f with
    | ret v => exact .ret p.out
    | brk => exact .brk p.out
    | next => exact .next (fin p.out)
    | cont => exact .cont (fin p.out)
  · rintro h' tk m' news' F' N' _ hJ'
    exact done h' tk m' news' F' N' hJ'
end

-- the drawn text: what the numbers stand for
def unsD : List Nat := [173, 847, 6150, 6155, 6156, 6157, 8203, 8204, 8205, 8288, 65279] ++ (List.range 16).map (65024 + ·)
def letD : List (Nat × List Nat) := [(65, [97]), (223, [115, 115]), (64259, [102, 102, 105]), (304, [105, 775]), (937, [969]), (122, [122])]
def k5 (n : Int) : Nat := (n.fmod ((5 : Nat) : Int)).toNat
def kU (n : Int) : Nat := ((n.fdiv 5).fmod ((27 : Nat) : Int)).toNat
def kL (n : Int) : Nat := ((n.fdiv 5).fmod ((6 : Nat) : Int)).toNat
def pcOf (n : Int) : Pc := if k5 n < 3 then .q else if k5 n = 3 then .u (unsD.getD (kU n) 0) else .l (letD.getD (kL n) (0, [])).1 (letD.getD (kL n) (0, [])).2
theorem fmodN_lt (c : Int) (a : Nat) (ha : 0 < a) : (c.fmod (a : Int)).toNat < a := by
  rw [Int.fmod_eq_emod_of_nonneg _ (by omega)]
  have h1 := Int.emod_nonneg c (b := (a : Int)) (by omega)
  have h2 := Int.emod_lt_of_pos c (b := (a : Int)) (by omega)
  omega
theorem kU_lt (n : Int) : kU n < 27 := fmodN_lt _ 27 (by decide)
theorem kL_lt (n : Int) : kL n < 6 := fmodN_lt _ 6 (by decide)
theorem unsD_ok (P : Params) : ∀ k, k < 27 → b1 P ((unsD.getD k 0 : Nat) : Int) = true ∧ unsD.getD k 0 ≠ 34 ∧ unsD.getD k 0 ≠ 92 ∧ TokOk (unsD.getD k 0) ∧ unsD.getD k 0 ≤ 1114111 := by
  have h1 : ((List.range 27).all fun k => b1 P ((unsD.getD k 0 : Nat) : Int)) = true := by kernel_rfl
  have h2 : ∀ k, k < 27 → unsD.getD k 0 ≠ 34 ∧ unsD.getD k 0 ≠ 92 ∧ TokOk (unsD.getD k 0) ∧ unsD.getD k 0 ≤ 1114111 := by unfold TokOk; decide +kernel
  intro k hk
  refine ⟨?_, h2 k hk⟩
  exact List.all_eq_true.mp h1 k (List.mem_range.mpr hk)
theorem letD_ok (P : Params) : ∀ k, k < 6 → (Pc.l (letD.getD k (0, [])).1 (letD.getD k (0, [])).2).Ok P ∧ TokOk (letD.getD k (0, [])).1 := by
  have h1 : ((List.range 6).all fun k => !b1 P (((letD.getD k (0, [])).1 : Nat) : Int)) = true := by kernel_rfl
  have h2 : ∀ k, k < 6 → (b3 (letD.getD k (0, [])).1).cps.toList = (letD.getD k (0, [])).2 := by decide +kernel
  have h3 : ∀ k, k < 6 → (letD.getD k (0, [])).1 ≠ 34 ∧ (letD.getD k (0, [])).1 ≠ 92 ∧ (letD.getD k (0, [])).2 ≠ [] ∧ (∀ d ∈ (letD.getD k (0, [])).2, d ≠ 34 ∧ d ≠ 92) ∧ TokOk (letD.getD k (0, [])).1 := by unfold TokOk; decide +kernel
  intro k hk
  obtain ⟨a1, a2, a3, a4, a5⟩ := h3 k hk
  have := List.all_eq_true.mp h1 k (List.mem_range.mpr hk)
  exact ⟨⟨by simpa using this, h2 k hk, a1, a2, a3, a4⟩, a5⟩
theorem pcOf_ok (P : Params) (n : Int) : (pcOf n).Ok P := by
  unfold pcOf
  split
  · trivial
  · split
    · have := unsD_ok P _ (kU_lt n); exact ⟨this.1, this.2.1, this.2.2.1⟩
    · exact (letD_ok P _ (kL_lt n)).1
theorem unsD_tok : ∀ k, k < 27 → TokOk (unsD.getD k 0) := by unfold TokOk; decide +kernel
theorem letD_tok : ∀ k, k < 6 → TokOk (letD.getD k (0, [])).1 := by unfold TokOk; decide +kernel
theorem pcOf_tok (n : Int) : TokOk (pcOf n).stroke := by
  unfold pcOf
  split
  · show TokOk 92; unfold TokOk; decide
  · split
    · exact unsD_tok _ (kU_lt n)
    · exact letD_tok _ (kL_lt n)
abbrev Cell := Addr × List Value
def cellO (c : Cell) : Addr × Obj := (c.1, listOf c.2.toArray 0)
def cref (c : Cell) : Value := .ref c.1
inductive CellsAre : List Cell → List (List Nat) → Prop where
  | nil : CellsAre [] []
  | cons {c : Cell} {g : List Nat} {cs : List Cell} {gs : List (List Nat)} (h : IntsAre c.2 (g.map fun n : Nat => (n : Int))) (r : CellsAre cs gs) : CellsAre (c :: cs) (g :: gs)
theorem CellsAre.snoc {c : Cell} {g : List Nat} {cs : List Cell} {gs : List (List Nat)} (r : CellsAre cs gs) (h : IntsAre c.2 (g.map fun n : Nat => (n : Int))) : CellsAre (cs ++ [c]) (gs ++ [g]) := by
  induction r with
  | nil => exact .cons h .nil
  | cons h' _ ih => exact .cons h' ih
theorem CellsAre.len {cs : List Cell} {gs : List (List Nat)} (r : CellsAre cs gs) : cs.length = gs.length := by
  induction r with
  | nil => rfl
  | cons h' _ ih => simp [ih]
theorem ints_snoc {vs : List Value} {ns : List Int} (h : IntsAre vs ns) (c : Int) (t : Tok) : IntsAre (vs ++ [.int c t]) (ns ++ [c]) := by
  induction h with
  | nil => exact .cons _ _ .nil
  | cons _ _ _ ih => exact .cons _ _ ih
structure DrF where
  N : Addr
  G : Addr
  Fo : Addr
  U : Addr
  Le : Addr
structure JD (pcs : List Pc) (z : DrF) (base : List (Addr × Obj)) (i : Nat) (m : Str → Option Value) (nw : List (Addr × Obj)) (R : Addr) (rv : List Value) (rk : Nat) (gcs : List Cell) (gk : Nat) (fv : List Value) (fk : Nat) (T : List (Addr × Obj)) (gs fs : List (List Nat)) (rs : List Nat) (len : Nat) (t1 t2 : Tok) : Prop where
  e : nw = (R, listOf rv.toArray rk) :: (z.Fo, listOf fv.toArray fk) :: (z.G, listOf (gcs.map cref).toArray gk) :: T
  hr : IntsAre rv (rs.map fun n : Nat => (n : Int))
  hg : CellsAre gcs gs
  hf : StrsAre fv (fs.map ofL)
  hb : ∀ p ∈ base, p ∈ T
  hc : ∀ c ∈ gcs, cellO c ∈ T
  hcN : ∀ c ∈ gcs, @LT.lt Nat _ z.N c.1
  nR : ∀ p ∈ T, p.1 ≠ R
  nF : ∀ p ∈ T, p.1 ≠ z.Fo
  nG : ∀ p ∈ T, p.1 ≠ z.G
  rF : @Ne Nat R z.Fo
  rG : @Ne Nat R z.G
  q1 : gs ++ (gr (pcs.drop i) rs len).1 = (gr pcs [] 0).1
  q2 : fs ++ (gr (pcs.drop i) rs len).2 = (gr pcs [] 0).2
  l1 : rs.length ≤ i
  l2 : gs.length ≤ i
  l3 : fs.length ≤ i
  l4 : len ≤ i
  m1 : m (Str.ofString "text") = some (.str (ofL ((pcs.take i).map Pc.sign)) t1)
  m2 : m (Str.ofString "groups") = some (.ref z.G)
  m3 : m (Str.ofString "folds") = some (.ref z.Fo)
  m4 : m (Str.ofString "runs") = some (.ref R)
  m5 : m (Str.ofString "length") = some (.int (len : Int) t2)
  m6 : m (Str.ofString "unseen") = some (.ref z.U)
  m7 : m (Str.ofString "letters") = some (.ref z.Le)
def JDx (pcs : List Pc) (z : DrF) (base : List (Addr × Obj)) (i : Nat) (m : Str → Option Value) (nw : List (Addr × Obj)) : Prop :=
  ∃ R rv rk gcs gk fv fk T gs fs rs len t1 t2, JD pcs z base i m nw R rv rk gcs gk fv fk T gs fs rs len t1 t2

abbrev tupO (x : Str) (t : Tok) (y : Str) (u : Tok) : Obj := { cls := .type "tuple", data := .seq #[.str x t, .str y u] 0 }
def LetAre (T : List (Addr × Obj)) (Le : Addr) : Prop := ∃ (ds : List Value) (cap : Nat), (Le, listOf ds.toArray cap) ∈ T ∧ ∀ k, k < 6 → ∃ D t1 t2, ds[k]? = some (.ref D) ∧ (D, tupO (ofL [(letD.getD k (0, [])).1]) t1 (ofL (letD.getD k (0, [])).2) t2) ∈ T
def UnsAre (T : List (Addr × Obj)) (U : Addr) : Prop := ∃ (us : List Value) (cap : Nat), (U, listOf us.toArray cap) ∈ T ∧ IntsAre us (unsD.map fun n : Nat => (n : Int))
theorem unsD_len : unsD.length = 27 := by decide
section
variable {prog : Program} {w : World} {A : Around} {E : Value → Shared → Prop} {s : Shared} {h₀ : Heap} {L : Addr} {m : Str → Option Value} {news : List (Addr × Obj)} {Q : Value → Shared → Prop} {value slice : PySem.Expr}
theorem item_uns {U : Addr} {k : Nat} {u : Tok} (N : News h₀ L s.heap news) (hU : UnsAre news U) (hk : k < 27) (h : ∀ t, Q (.int ((unsD.getD k 0 : Nat) : Int) t) s)
    (hs : subscripted slice false (.ref U) (.int (k : Int) u) = operate [.ref U, .int (k : Int) u] (getItem (.ref U) (.int (k : Int) u)) := by with_unfolding_all rfl)
    (hg : ∀ r, letTemporaryGo value (.ref U) r = pure () := by intro _; with_unfolding_all rfl) :
    wpAny (model prog w) A (subscriptTail value slice (.ref U) (.int (k : Int) u)) Q E s := by
  obtain ⟨us, cap, hm, hi⟩ := hU
  refine item_list_ints (vs := us) ⟨_, (N _ hm).1, rfl, _, rfl⟩ hi (by omega) (by simp [unsD_len]; omega) (by omega) (fun t => ?_) hs hg
  have e : (unsD.map fun n : Nat => (n : Int)).getD ((k : Int)).toNat 0 = ((unsD.getD k 0 : Nat) : Int) := by
    rw [Int.toNat_natCast]
    simp only [List.getD_eq_getElem?_getD, List.getElem?_map]
    cases unsD[k]? <;> rfl
  rw [e]; exact h t
theorem item_let {Le : Addr} {k : Nat} {u : Tok} (N : News h₀ L s.heap news) (hL : LetAre news Le) (hk : k < 6) (h : ∀ D t1 t2, (D, tupO (ofL [(letD.getD k (0, [])).1]) t1 (ofL (letD.getD k (0, [])).2) t2) ∈ news → Q (.ref D) s)
    (hs : subscripted slice false (.ref Le) (.int (k : Int) u) = operate [.ref Le, .int (k : Int) u] (getItem (.ref Le) (.int (k : Int) u)) := by with_unfolding_all rfl)
    (hg : ∀ r, letTemporaryGo value (.ref Le) r = pure () := by intro _; with_unfolding_all rfl) :
    wpAny (model prog w) A (subscriptTail value slice (.ref Le) (.int (k : Int) u)) Q E s := by
  obtain ⟨ds, cap, hm, hd⟩ := hL
  obtain ⟨D, t1, t2, e, hm2⟩ := hd k hk
  exact item_list (items := ds.toArray) ⟨_, (N _ hm).1, rfl, _, rfl⟩ (by omega) (by omega) (by rw [Int.toNat_natCast]; simpa using e) (h D t1 t2 hm2) hs hg
theorem chr_nat {n : Nat} {t : Tok} (hn : n ≤ 1114111) (h : Q (.str (ofL [n]) s.toks) { s with toks := s.toks + 1 }) : wpAny (model prog w) A (call (.builtin "chr") [.int (n : Int) t]) Q E s :=
  chr_of_range (by omega) (by omega) (by rw [Int.toNat_natCast]; exact h)
end
theorem letAre_up {T T' : List (Addr × Obj)} {Le : Addr} (h : LetAre T Le) (k : ∀ p ∈ T, p ∈ T') : LetAre T' Le :=
  let ⟨ds, cap, hm, hd⟩ := h
  ⟨ds, cap, k _ hm, fun j hj => let ⟨D, t1, t2, e, hm2⟩ := hd j hj; ⟨D, t1, t2, e, k _ hm2⟩⟩
theorem unsAre_up {T T' : List (Addr × Obj)} {U : Addr} (h : UnsAre T U) (k : ∀ p ∈ T, p ∈ T') : UnsAre T' U :=
  let ⟨us, cap, hm, hi⟩ := h
  ⟨us, cap, k _ hm, hi⟩
section
variable {prog : Program} {w : World} {A : Around} {E : Value → Shared → Prop} {s : Shared} {env : Env} {h₀ : Heap} {L : Addr} {m : Str → Option Value}
theorem For_fr {Q : Flow → Shared → Prop} {x : Str} {px pos : Pos} {iter : PySem.Expr} {body : List Stmt} (_F : Fr h₀ L s.heap m) (hx : env.kindOf x = some .local)
    (hp : (env.scope.kind == .class || (env.scope.kind == .module && env.locals != env.globals)) = false)
    (hE : PassesOwn (model prog w) A env E) (hs : ∀ x, foldedSetIterable iter env x = pure x)
    (h : wpAny (model prog w) A (eval iter env) (fun xv s₁ => wpAny (model prog w) A (pyIter xv) (fun it s₂ => LoopAtV prog w A h₀ env x body Q E it s₂) E s₁) E s) :
    wpAny (model prog w) A (exec (.For (.Name x px) iter body [] pos) env) Q E s := For_invV h₀ hx hp h hs hE
end

theorem news_sb {h₀ h : Heap} {L : Addr} {l l' : List (Addr × Obj)} (N : News h₀ L h l) (k : ∀ p ∈ l', p ∈ l) : News h₀ L h l' := fun p hp => N p (k p hp)
theorem allLt_mem {d : Addr} : ∀ {l : List (Addr × Obj)}, AllLt d l → ∀ p ∈ l, @LT.lt Nat _ p.1 d
  | [], _, _, h => nomatch h
  | q :: r, h, p, hp => by
    rcases List.mem_cons.mp hp with rfl | hp
    · exact h.1
    · exact allLt_mem h.2 p hp
theorem ofL_q (l : List Nat) : ofL l ++ Str.ofString "\"" = ofL (l ++ [34]) := str_ext (by rw [app_ls, ofL_ls, ofL_ls, ls_q])
section
variable {pcs : List Pc} {z : DrF} {base : List (Addr × Obj)} {i : Nat} {m₁ m' : Str → Option Value} {nw : List (Addr × Obj)} {R : Addr} {rv : List Value} {rk : Nat} {gcs : List Cell} {gk : Nat} {fv : List Value} {fk : Nat} {T : List (Addr × Obj)} {gs fs : List (List Nat)} {rs : List Nat} {len : Nat} {t1 t2 : Tok}
variable {g h' : Heap} {L I : Addr} {o : Obj} {s : Shared} {Q : Flow → Shared → Prop} {tk : Nat}
theorem dr_end1 (q : JD pcs z base i m₁ nw R rv rk gcs gk fv fk T gs fs rs len t1 t2) (hd : pcs.drop i = .q :: pcs.drop (i + 1)) (ht : pcs.take (i + 1) = pcs.take i ++ [.q])
    (kF : Fr g L h' m') (kN : News g L h' ((I, o) :: nw)) (hne : ∀ p ∈ nw, p.1 ≠ I) {t3 t4 : Tok} (e1 : m' (Str.ofString "text") = some (.str (ofL ((pcs.take i).map Pc.sign) ++ Str.ofString "\"") t3)) (e5 : m' (Str.ofString "length") = some (.int ((len : Int) + 1) t4))
    (e2 : m' (Str.ofString "groups") = m₁ (Str.ofString "groups")) (e3 : m' (Str.ofString "folds") = m₁ (Str.ofString "folds")) (e4 : m' (Str.ofString "runs") = m₁ (Str.ofString "runs")) (e6 : m' (Str.ofString "unseen") = m₁ (Str.ofString "unseen")) (e7 : m' (Str.ofString "letters") = m₁ (Str.ofString "letters")) :
    RStep g L I o (JDx pcs z base) s Q i .next { s with heap := h', toks := tk } := by
  refine RStep.next kF kN hne ⟨R, rv, rk, gcs, gk, fv, fk, T, gs, fs, rs, len + 1, t3, t4, ⟨q.e, q.hr, q.hg, q.hf, q.hb, q.hc, q.hcN, q.nR, q.nF, q.nG, q.rF, q.rG, ?_, ?_, Nat.le_succ_of_le q.l1, Nat.le_succ_of_le q.l2, Nat.le_succ_of_le q.l3, Nat.succ_le_succ q.l4, ?_, e2.trans q.m2, e3.trans q.m3, e4.trans q.m4, ?_, e6.trans q.m6, e7.trans q.m7⟩⟩
  · have := q.q1; rw [hd] at this; exact this
  · have := q.q2; rw [hd] at this; exact this
  · rw [e1, ht, ofL_q, List.map_append]; rfl
  · rw [e5]; rfl
theorem dr_end2 {c : Nat} (q : JD pcs z base i m₁ nw R rv rk gcs gk fv fk T gs fs rs len t1 t2) (hd : pcs.drop i = .u c :: pcs.drop (i + 1)) (ht : pcs.take (i + 1) = pcs.take i ++ [.u c])
    (kF : Fr g L h' m') (kN : News g L h' ((I, o) :: (R, listOf (rv.toArray.push (.int (len : Int) t2)) (rk + 1)) :: (z.Fo, listOf fv.toArray fk) :: (z.G, listOf (gcs.map cref).toArray gk) :: T)) (hne : ∀ p ∈ nw, p.1 ≠ I) {t3 t4 : Tok} (e1 : m' (Str.ofString "text") = some (.str (ofL ((pcs.take i).map Pc.sign) ++ ofL [c]) t3)) (e5 : m' (Str.ofString "length") = some (.int 0 t4))
    (e2 : m' (Str.ofString "groups") = m₁ (Str.ofString "groups")) (e3 : m' (Str.ofString "folds") = m₁ (Str.ofString "folds")) (e4 : m' (Str.ofString "runs") = m₁ (Str.ofString "runs")) (e6 : m' (Str.ofString "unseen") = m₁ (Str.ofString "unseen")) (e7 : m' (Str.ofString "letters") = m₁ (Str.ofString "letters")) :
    RStep g L I o (JDx pcs z base) s Q i .next { s with heap := h', toks := tk } := by
  rw [List.push_toArray] at kN
  have hne' : ∀ p ∈ (R, listOf (rv ++ [Value.int (len : Int) t2]).toArray (rk + 1)) :: (z.Fo, listOf fv.toArray fk) :: (z.G, listOf (gcs.map cref).toArray gk) :: T, p.1 ≠ I := by
    rw [q.e] at hne
    intro p hp
    rcases List.mem_cons.mp hp with rfl | hp
    · exact hne (R, listOf rv.toArray rk) (.head _)
    · exact hne _ (.tail _ hp)
  refine RStep.next kF kN hne' ⟨R, rv ++ [.int (len : Int) t2], rk + 1, gcs, gk, fv, fk, T, gs, fs, rs ++ [len], 0, t3, t4, ⟨rfl, ?_, q.hg, q.hf, q.hb, q.hc, q.hcN, q.nR, q.nF, q.nG, q.rF, q.rG, ?_, ?_, ?_, Nat.le_succ_of_le q.l2, Nat.le_succ_of_le q.l3, Nat.zero_le _, ?_, e2.trans q.m2, e3.trans q.m3, e4.trans q.m4, e5, e6.trans q.m6, e7.trans q.m7⟩⟩
  · rw [List.map_append]; exact ints_snoc q.hr _ _
  · have := q.q1; rw [hd] at this; exact this
  · have := q.q2; rw [hd] at this; exact this
  · have := q.l1; simp; omega
  · rw [e1, ht, ofL_app, List.map_append]; rfl
theorem dr_end3 {c : Nat} {f : List Nat} {R' D' l0 : Addr} {o0 oR : Obj} {ws : List Value} {t5 : Tok} (q : JD pcs z base i m₁ nw R rv rk gcs gk fv fk T gs fs rs len t1 t2) (hd : pcs.drop i = .l c f :: pcs.drop (i + 1)) (ht : pcs.take (i + 1) = pcs.take i ++ [.l c f])
    (hN : ∃ oN, (z.N, oN) ∈ base)
    (kF : Fr g L h' m') (kN : News g L h' ((R', listOf #[] 0) :: (D', listOf ws.toArray 0) :: (l0, o0) :: (I, o) :: (R, oR) :: (z.Fo, listOf (fv.toArray.push (.str (ofL f) t5)) (fk + 1)) :: (z.G, listOf ((gcs.map cref).toArray.push (.ref D')) (gk + 1)) :: T)) (hne : ∀ p ∈ nw, p.1 ≠ I)
    (hI : IntsAre ws (rs.map (fun n : Nat => (n : Int)) ++ [(len : Int)])) (a1 : AllLt D' ((l0, o0) :: (I, o) :: (R, oR) :: (z.Fo, oR) :: (z.G, oR) :: T)) (a2 : AllLt R' ((D', oR) :: (l0, o0) :: (I, o) :: (R, oR) :: (z.Fo, oR) :: (z.G, oR) :: T))
    {t3 t4 : Tok} (e1 : m' (Str.ofString "text") = some (.str (ofL ((pcs.take i).map Pc.sign) ++ ofL [c]) t3)) (e5 : m' (Str.ofString "length") = some (.int 0 t4))
    (e2 : m' (Str.ofString "groups") = m₁ (Str.ofString "groups")) (e3 : m' (Str.ofString "folds") = m₁ (Str.ofString "folds")) (e4 : m' (Str.ofString "runs") = some (.ref R')) (e6 : m' (Str.ofString "unseen") = m₁ (Str.ofString "unseen")) (e7 : m' (Str.ofString "letters") = m₁ (Str.ofString "letters")) :
    RStep g L I o (JDx pcs z base) s Q i .next { s with heap := h', toks := tk } := by
  rw [List.push_toArray, List.push_toArray] at kN
  have kN' : News g L h' ((I, o) :: (R', listOf (([] : List Value).toArray) 0) :: (z.Fo, listOf (fv ++ [Value.str (ofL f) t5]).toArray (fk + 1)) :: (z.G, listOf ((gcs ++ [(D', ws)]).map cref).toArray (gk + 1)) :: (D', listOf ws.toArray 0) :: T) := by
    rw [List.map_append]
    refine news_sb kN fun p hp => ?_
    rcases List.mem_cons.mp hp with rfl | hp
    · exact .tail _ (.tail _ (.tail _ (.head _)))
    rcases List.mem_cons.mp hp with rfl | hp
    · exact .head _
    rcases List.mem_cons.mp hp with rfl | hp
    · exact .tail _ (.tail _ (.tail _ (.tail _ (.tail _ (.head _)))))
    rcases List.mem_cons.mp hp with rfl | hp
    · exact .tail _ (.tail _ (.tail _ (.tail _ (.tail _ (.tail _ (.head _))))))
    rcases List.mem_cons.mp hp with rfl | hp
    · exact .tail _ (.head _)
    · exact .tail _ (.tail _ (.tail _ (.tail _ (.tail _ (.tail _ (.tail _ hp))))))
  obtain ⟨b0, b1, b2, b3, b4, b5⟩ := a1
  obtain ⟨c0, c1, c2, c3, c4, c5, c6⟩ := a2
  dsimp only at b0 b1 b2 b3 b4 c0 c1 c2 c3 c4 c5
  rw [q.e] at hne
  refine RStep.next kF kN' ?_ ⟨R', [], 0, gcs ++ [(D', ws)], gk + 1, fv ++ [.str (ofL f) t5], fk + 1, (D', listOf ws.toArray 0) :: T, gs ++ [rs ++ [len]], fs ++ [f], [], 0, t3, t4, ⟨rfl, .nil, q.hg.snoc (by rw [List.map_append]; exact hI), ?_, ?_, ?_, ?_, ?_, ?_, ?_, Nat.ne_of_gt c4, Nat.ne_of_gt c5, ?_, ?_, Nat.zero_le _, ?_, ?_, Nat.zero_le _, ?_, e2.trans q.m2, e3.trans q.m3, e4, e5, e6.trans q.m6, e7.trans q.m7⟩⟩
  · intro p hp
    rcases List.mem_cons.mp hp with rfl | hp
    · exact Nat.ne_of_gt c2
    rcases List.mem_cons.mp hp with rfl | hp
    · exact hne (z.Fo, listOf fv.toArray fk) (.tail _ (.head _))
    rcases List.mem_cons.mp hp with rfl | hp
    · exact hne (z.G, listOf (gcs.map cref).toArray gk) (.tail _ (.tail _ (.head _)))
    rcases List.mem_cons.mp hp with rfl | hp
    · exact Nat.ne_of_gt b1
    · exact hne _ (.tail _ (.tail _ (.tail _ hp)))
  · rw [List.map_append]; exact strsAre_snoc q.hf _ _
  · exact fun p hp => .tail _ (q.hb p hp)
  · intro c' hc'
    rcases List.mem_append.mp hc' with hc' | hc'
    · exact .tail _ (q.hc c' hc')
    · rw [List.mem_singleton.mp hc']; exact .head _
  · intro c' hc'
    rcases List.mem_append.mp hc' with hc' | hc'
    · exact q.hcN c' hc'
    · rw [List.mem_singleton.mp hc']
      obtain ⟨oN, hN⟩ := hN
      exact allLt_mem b5 _ (q.hb _ hN)
  · intro p hp
    rcases List.mem_cons.mp hp with rfl | hp
    · exact Nat.ne_of_lt c0
    · exact Nat.ne_of_lt (allLt_mem c6 p hp)
  · intro p hp
    rcases List.mem_cons.mp hp with rfl | hp
    · exact Nat.ne_of_gt b3
    · exact q.nF p hp
  · intro p hp
    rcases List.mem_cons.mp hp with rfl | hp
    · exact Nat.ne_of_gt b4
    · exact q.nG p hp
  · have := q.q1; rw [hd] at this; simpa [gr] using this
  · have := q.q2; rw [hd] at this; simpa [gr] using this
  · have := q.l2; simp; omega
  · have := q.l3; simp; omega
  · rw [e1, ht, ofL_app, List.map_append]; rfl
end
section
variable {pcs : List Pc} {z : DrF} {base : List (Addr × Obj)} {m₁ : Str → Option Value} {nw : List (Addr × Obj)} {R : Addr} {rv : List Value} {rk : Nat} {gcs : List Cell} {gk : Nat} {fv : List Value} {fk : Nat} {T : List (Addr × Obj)} {gs fs : List (List Nat)} {rs : List Nat} {len : Nat} {t1 t2 : Tok}
theorem dr_done {g h' : Heap} {L Tp D' l0 : Addr} {o0 oR tO : Obj} {ws : List Value} {t5 : Tok} {n : Nat} (hn : n = pcs.length) (q : JD pcs z base n m₁ nw R rv rk gcs gk fv fk T gs fs rs len t1 t2) (hN : ∃ oN, (z.N, oN) ∈ base)
    (kN : News g L h' ((Tp, tO) :: (D', listOf ws.toArray 0) :: (l0, o0) :: (R, oR) :: (z.Fo, listOf (fv.toArray.push (.str (Str.ofString "") t5)) (fk + 1)) :: (z.G, listOf ((gcs.map cref).toArray.push (.ref D')) (gk + 1)) :: T))
    (hI : IntsAre ws (rs.map (fun n : Nat => (n : Int)) ++ [(len : Int)])) (a1 : AllLt D' ((l0, o0) :: (R, oR) :: (z.Fo, oR) :: (z.G, oR) :: T)) :
    ∃ gcs' fv', News g L h' ((Tp, tO) :: (z.Fo, listOf (fv' : List Value).toArray (fk + 1)) :: (z.G, listOf ((gcs' : List Cell).map cref).toArray (gk + 1)) :: (gcs'.map cellO ++ base)) ∧ CellsAre gcs' (gr pcs [] 0).1 ∧ StrsAre fv' ((gr pcs [] 0).2.map ofL) ∧ ∀ c ∈ gcs', @LT.lt Nat _ z.N c.1 := by
  subst hn
  obtain ⟨b0, b1, b2, b3, b5⟩ := a1
  rw [List.push_toArray, List.push_toArray] at kN
  have h1 := q.q1
  have h2 := q.q2
  rw [List.drop_length] at h1 h2
  refine ⟨gcs ++ [(D', ws)], fv ++ [.str (Str.ofString "") t5], ?_, ?_, ?_, ?_⟩
  · rw [List.map_append]
    refine news_sb kN fun p hp => ?_
    rcases List.mem_cons.mp hp with rfl | hp
    · exact .head _
    rcases List.mem_cons.mp hp with rfl | hp
    · exact .tail _ (.tail _ (.tail _ (.tail _ (.head _))))
    rcases List.mem_cons.mp hp with rfl | hp
    · exact .tail _ (.tail _ (.tail _ (.tail _ (.tail _ (.head _)))))
    rcases List.mem_append.mp hp with hp | hp
    · obtain ⟨c, hc, rfl⟩ := List.mem_map.mp hp
      rcases List.mem_append.mp hc with hc | hc
      · exact .tail _ (.tail _ (.tail _ (.tail _ (.tail _ (.tail _ (q.hc c hc))))))
      · rw [List.mem_singleton.mp hc]; exact .tail _ (.head _)
    · exact .tail _ (.tail _ (.tail _ (.tail _ (.tail _ (.tail _ (q.hb p hp))))))
  · rw [← h1]; exact q.hg.snoc (by rw [List.map_append]; exact hI)
  · rw [← h2, List.map_append]; exact strsAre_snoc q.hf _ _
  · intro c' hc'
    rcases List.mem_append.mp hc' with hc' | hc'
    · exact q.hcN c' hc'
    · rw [List.mem_singleton.mp hc']
      obtain ⟨oN, hN⟩ := hN
      exact allLt_mem b5 _ (q.hb _ hN)
end
theorem take_len {α β : Type} {l : List α} {f : α → β} {i n : Nat} (h : l.length ≤ n) : ((l.take i).map f).length ≤ n := by simp; omega
abbrev drA (dp un : Nat) (gd : Option (List Code)) (cn : Str) (cs : Scope) (L a : Addr) (ccd : Value) (cl : List (Str × Addr)) (outer : List Env) (L' : Addr) : Around := (ktrTop dp un gd cn cs L a ccd cl outer).deeper (envOf (Str.ofString "_law_drawn") (fS st17) L' 190 (.ref 189))
def drEnd : List Stmt := (fB st17).drop 7

section
open LCg LCt
local macro_rules | `(tactic| walk_at "eval Name") => `(tactic| (k_here; k_dflt (refine' ld ?k1 ?k2 ?_; (case k1 => k_asm); (case k2 => assumption); k_whole)))
local macro_rules | `(tactic| walk_at "binaryOp Add str str") => `(tactic| (k_here; k_dflt (refine' add_str ?_ ?hsz; (case hsz => (simp only [app_len, ofL_len, len_q, List.length_cons, List.length_nil, sizeLine_eq]; omega))); intro _ _))
local macro_rules | `(tactic| walk_at "binaryOp Mod int int") => `(tactic| (k_here; k_dflt (first | refine mod_intN 5 (by decide) (by decide) ?_ | refine mod_intN 27 (by decide) (by decide) ?_ | refine mod_intN 6 (by decide) (by decide) ?_)))
local macro_rules | `(tactic| walk_at "binaryOp FloorDiv int int") => `(tactic| (k_here; k_dflt (refine div_intG (by decide) (by decide) ?_)))
local macro_rules | `(tactic| walk_at "exec For Name Name cons nil") => `(tactic| (k_here; k_dflt (refine' For_fr ?F (by kernel_rfl) (by kernel_rfl) (by passes_own) (by intro _; rfl) ?_; (case F => k_asm))))
local macro_rules | `(tactic| walk_at "pyIter ref") => `(tactic| (k_here; refine Stop.out ?_))
local macro_rules | `(tactic| walk_at "ite") => `(tactic| (k_here; (first | (refine ite_t (by (first | exact decide_eq_true (by omega) | assumption | exact not_t (by assumption) | exact bne_t (by assumption) | decide)) ?_) | (refine ite_f (by ((refine nt_of ?_; first | exact decide_eq_false (by omega) | assumption | exact not_f (by assumption) | exact bne_f (by assumption) | decide))) ?_))))
local macro_rules | `(tactic| walk_at "call builtin:chr") => `(tactic| (k_here; k_dflt (refine chr_nat (by assumption) ?_)))
local macro_rules | `(tactic| walk_at "subscriptTail Name BinOp ref int") => `(tactic| (k_here; first
  | (k_dflt (refine' item_uns (by k_asm) ?hU (kU_lt _) ?_; (case hU => first | assumption | exact unsAre_up (by assumption) (by intro p hp; k_mem))); intro _)
  | (k_dflt (refine' item_let (by k_asm) ?hU (kL_lt _) ?_; (case hU => first | assumption | exact letAre_up (by assumption) (by intro p hp; k_mem))); intro _ _ _ _)))
local macro_rules | `(tactic| walk_at "call builtin:list.append") => `(tactic| (k_here; (with_reducible show wpAny _ _ (call (Value.builtin _) [Value.ref _, _]) _ _ _); k_dflt (refine' append_K ?k1 ?k2 ?k3 ?_ ?z; (case k1 => k_asm); (case k2 => k_asm); (case k3 => k_upd); (case z => (simp only [List.size_toArray]; rw [sizeLine_eq]; omega)); k_whole); intro h' F' N'; (try dsimp only at N'); (try k_sweep)))
local macro_rules | `(tactic| walk_at "binaryOp Add ref ref") => `(tactic| (k_here; k_dflt (refine' kmk_add_ints ?F ?N ?a ?b ?i ?j ?_ ?z; (case F => k_asm); (case N => k_asm); (case a => exact isl_of (by k_asm) (by k_mem)); (case b => exact isl_of (by k_asm) (by k_mem)); (case i => assumption); (case j => exact .cons _ _ .nil); (case z => (simp only [List.length_map, List.length_cons, List.length_nil, sizeLine_eq]; omega))); intro D' ws' h' F' N' l1 hI'; (try k_lt l1); (try k_sweep)))
set_option maxHeartbeats 1000000 in
theorem drawn_loop {p : Program} {w : World} {loose : List Str} {mean : ExcName → Option Value} {mg mb : Str → Option Value} (z : DrF) (R : Addr) (vs : List Value) (ns : List Int) (nk : Nat) (hi : IntsAre vs ns) (h24 : ns.length ≤ 24) (base : List (Addr × Obj))
    (dp un : Nat) (gd : Option (List Code)) (cn : Str) (cs : Scope) (L a : Addr) (ccd : Value) (cl : List (Str × Addr)) (outer : List Env) (g : Heap) (L' : Addr) (m : Str → Option Value) (s : Shared) (Q : Flow → Shared → Prop) (E : Value → Shared → Prop)
    (F : Fr g L' s.heap m) (X : (KF w.params).In g) (T : Top p loose mean mg mb g) (Ns : News g L' s.heap ((R, listOf (([] : List Value).toArray) 0) :: (z.Fo, listOf (([] : List Value).toArray) 0) :: (z.G, listOf (([] : List Value).toArray) 0) :: base))
    (hdp : dp + 5 < recursionLimit) (hun : un + 64 < cLine)
    (hN : (z.N, listOf vs.toArray nk) ∈ base) (hU : UnsAre base z.U) (hL : LetAre base z.Le) (nR : ∀ p ∈ base, p.1 ≠ R) (nF : ∀ p ∈ base, p.1 ≠ z.Fo) (nG : ∀ p ∈ base, p.1 ≠ z.G) (rF : @Ne Nat R z.Fo) (rG : @Ne Nat R z.G) (fG : @Ne Nat z.Fo z.G)
    (t1 t2 : Tok) (m0 : m (Str.ofString "numbers") = some (.ref z.N)) (m1 : m (Str.ofString "text") = some (.str (Str.ofString "") t1)) (m2 : m (Str.ofString "groups") = some (.ref z.G)) (m3 : m (Str.ofString "folds") = some (.ref z.Fo)) (m4 : m (Str.ofString "runs") = some (.ref R))
    (m5 : m (Str.ofString "length") = some (.int 0 t2)) (m6 : m (Str.ofString "unseen") = some (.ref z.U)) (m7 : m (Str.ofString "letters") = some (.ref z.Le))
    (hQ : ∀ (Tp : Addr) (gcs : List Cell) (gk : Nat) (fv : List Value) (fk : Nat) (t : Tok) (h' : Heap) (tk' : Nat) (m' : Str → Option Value), Fr g L' h' m' →
      News g L' h' ((Tp, { cls := .type "tuple", data := .seq #[.str (ofL ((ns.map pcOf).map Pc.sign)) t, .ref z.G, .ref z.Fo] 0 }) :: (z.Fo, listOf fv.toArray fk) :: (z.G, listOf (gcs.map cref).toArray gk) :: (gcs.map cellO ++ base)) →
      CellsAre gcs (gr (ns.map pcOf) [] 0).1 → StrsAre fv ((gr (ns.map pcOf) [] 0).2.map ofL) → (∀ c ∈ gcs, @LT.lt Nat _ z.N c.1) → @LT.lt Nat _ z.N Tp → Q (.ret (.ref Tp)) { s with heap := h', toks := tk' })
    (hE : PassesOwn (model pw w) (drA dp un gd cn cs L a ccd cl outer L') (envOf (Str.ofString "_law_drawn") (fS st17) L' 190 (.ref 189)) E) :
    wpAny (model pw w) (drA dp un gd cn cs L a ccd cl outer L') (execs drEnd (envOf (Str.ofString "_law_drawn") (fS st17) L' 190 (.ref 189))) Q E s := by
  refine @wpAny_retok _ _ _ _ _ _ _ _ _ ?_; intro tk9
  k_steps
  refine Stop.of ?_
  refine listJ (its := vs.toArray) (k := nk) (JDx (ns.map pcOf) z base) ?hJl (by rfl) (by k_asm) (by k_asm) ?hJ ?turn ?done
  case hJl =>
    rintro i m₁ nw ⟨R, rv, rk, gcs, gk, fv, fk, T, gs, fs, rs, len, t1, t2, q⟩
    rw [q.e]
    exact .tail _ (.tail _ (.tail _ (q.hb _ hN)))
  case hJ =>
    exact ⟨R, [], 0, [], 0, [], 0, base, [], [], [], 0, t1, t2, ⟨rfl, .nil, .nil, .nil, fun _ h => h, fun _ h => (nomatch h), fun _ h => (nomatch h), nR, nF, nG, rF, rG, rfl, rfl, Nat.le_refl _, Nat.le_refl _, Nat.le_refl _, Nat.le_refl _, m1, m2, m3, m4, m5, m6, m7⟩⟩
  case turn =>
    rintro I i v m₁ news₁ h₁ tk₁ o hO hI hv ⟨R, rv, rk, gcs, gk, fv, fk, T, gs, fs, rs, len, t1, t2, q⟩ hne F₁ N₁
    obtain ⟨c, u, hc, rfl⟩ := ints_get hi hv
    have hlen : (((ns.map pcOf).take i).map Pc.sign).length ≤ 24 := take_len (by simpa using h24)
    have hr := q.hr
    have hg := q.hg
    have hf := q.hf
    have nR := q.nR
    have nF := q.nF
    have nG := q.nG
    have rF := q.rF
    have rG := q.rG
    have l1 := q.l1
    have l2 := q.l2
    have l3 := q.l3
    have n1 := q.m1
    have n2 := q.m2
    have n3 := q.m3
    have n4 := q.m4
    have n5 := q.m5
    have n6 := q.m6
    have n7 := q.m7
    have hne0 := hne
    rw [q.e] at hne N₁
    have hdr : (ns.map pcOf).drop i = pcOf c :: (ns.map pcOf).drop (i + 1) := by
      obtain ⟨hl, he⟩ := List.getElem?_eq_some_iff.mp hc
      rw [List.drop_eq_getElem_cons (by simpa using hl), List.getElem_map, he]
    have htk : (ns.map pcOf).take (i + 1) = (ns.map pcOf).take i ++ [pcOf c] := by
      rw [List.take_add_one]
      simp [hc]
    have iR : @Ne Nat R I := hne _ (.head _)
    have iF : @Ne Nat z.Fo I := hne _ (.tail _ (.head _))
    have iG : @Ne Nat z.G I := hne _ (.tail _ (.tail _ (.head _)))
    have iT : ∀ p ∈ T, p.1 ≠ I := fun p hp => hne p (.tail _ (.tail _ (.tail _ hp)))
    have hin : i < ns.length := (List.getElem?_eq_some_iff.mp hc).1
    have hUT := unsAre_up hU q.hb
    have hLT := letAre_up hL q.hb
    have hu := (unsD_ok w.params _ (kU_lt c)).2.2.2.2
    have hrl : rv.length ≤ 24 := by have := hr.length; simp at this; have := (List.getElem?_eq_some_iff.mp hc).1; omega
    have hgl : (gcs.map cref).length ≤ 24 := by have := hg.len; have := (List.getElem?_eq_some_iff.mp hc).1; simp; omega
    have hfl : fv.length ≤ 24 := by have := hf.length; simp at this; have := (List.getElem?_eq_some_iff.mp hc).1; omega
    have fG : @Ne Nat z.Fo z.G := fG
    clear F Ns m1 m2 m3 m4 m5 m6 m7 m0
    k_steps
    · rename News _ _ _ _ => kN
      rename Fr _ _ _ _ => kF
      have hk : (((c.fmod ((5 : Nat) : Int)).toNat : Nat) : Int) < 3 := by assumption
      have hp : pcOf c = .q := by unfold pcOf; rw [if_pos (by unfold k5; omega)]
      rw [hp] at hdr htk
      exact dr_end1 q hdr htk kF (by rw [q.e]; exact kN) hne0 rfl rfl rfl rfl rfl rfl rfl
    · rename News _ _ _ _ => kN
      rename Fr _ _ _ _ => kF
      have hk : ¬ (((c.fmod ((5 : Nat) : Int)).toNat : Nat) : Int) < 3 := by assumption
      have hk2 : (((c.fmod ((5 : Nat) : Int)).toNat : Nat) : Int) = 3 := by assumption
      have hp : pcOf c = .u (unsD.getD (kU c) 0) := by unfold pcOf; rw [if_neg (by unfold k5; omega), if_pos (by unfold k5; omega)]
      rw [hp] at hdr htk
      exact dr_end2 q hdr htk kF kN hne0 rfl rfl rfl rfl rfl rfl rfl
    · rename News _ _ _ _ => kN
      rename Fr _ _ _ _ => kF
      rename IntsAre _ (_ ++ _) => hI9
      have hk : ¬ (((c.fmod ((5 : Nat) : Int)).toNat : Nat) : Int) < 3 := by assumption
      have hk2 : (((c.fmod ((5 : Nat) : Int)).toNat : Nat) : Int) ≠ 3 := by assumption
      have hp : pcOf c = .l (letD.getD (kL c) (0, [])).1 (letD.getD (kL c) (0, [])).2 := by unfold pcOf; rw [if_neg (by unfold k5; omega), if_neg (by unfold k5; omega)]
      rw [hp] at hdr htk
      refine dr_end3 q hdr htk ⟨_, hN⟩ kF kN hne0 hI9 ?_ ?_ rfl rfl rfl rfl rfl rfl rfl
      · assumption
      · assumption
  case done =>
    rintro h₁ tk₁ m₁ news₁ F₁ N₁ ⟨R, rv, rk, gcs, gk, fv, fk, T, gs, fs, rs, len, t1, t2, q⟩
    have hr := q.hr
    have hg := q.hg
    have hf := q.hf
    have nR := q.nR
    have nF := q.nF
    have nG := q.nG
    have rF := q.rF
    have rG := q.rG
    have l1 := q.l1
    have l2 := q.l2
    have l3 := q.l3
    have n1 := q.m1
    have n2 := q.m2
    have n3 := q.m3
    have n4 := q.m4
    have n5 := q.m5
    rw [q.e] at N₁
    have hvn : vs.toArray.size = (ns.map pcOf).length := by have := hi.length; simp; omega
    have hin : vs.toArray.size ≤ 24 := by have := hi.length; simp; omega
    have hrl : rv.length ≤ 24 := by have := hr.length; simp at this; omega
    have hgl : (gcs.map cref).length ≤ 24 := by have := hg.len; simp; omega
    have hfl : fv.length ≤ 24 := by have := hf.length; simp at this; omega
    have fG : @Ne Nat z.Fo z.G := fG
    clear F Ns m1 m2 m3 m4 m5 m6 m7 m0
    k_steps
    rename News _ _ _ _ => kN
    rename Fr _ _ _ _ => kF
    rename IntsAre _ (_ ++ _) => hI9
    obtain ⟨gcs', fv', kN', c1, c2, c3⟩ := dr_done hvn q ⟨_, hN⟩ kN hI9 (by assumption)
    rename (_ ∧ _ ∧ _ ∧ _ ∧ _ ∧ AllLt _ _) => l9
    rw [hvn, List.take_length] at kN'
    exact hQ _ gcs' _ fv' _ _ _ _ _ kF kN' c1 c2 c3 (allLt_mem l9.2.2.2.2.2 _ (q.hb _ hN))
end

theorem drawn_loopL {p : Program} {w : World} {loose : List Str} {mean : ExcName → Option Value} {mg mb : Str → Option Value} {N G Fo U Le R : Addr} {vs : List Value} {ns : List Int} {nk : Nat} (hi : IntsAre vs ns) (h24 : ns.length ≤ 24) {base : List (Addr × Obj)}
    {dp un : Nat} {gd : Option (List Code)} {cn : Str} {cs : Scope} {L a : Addr} {ccd : Value} {cl : List (Str × Addr)} {outer : List Env} {g : Heap} {L' : Addr} {m : Str → Option Value} {s : Shared} {Q : Flow → Shared → Prop} {E : Value → Shared → Prop}
    (F : Fr g L' s.heap m) (X : (KF w.params).In g) (T : Top p loose mean mg mb g) (Ns : News g L' s.heap ((R, listOf #[] 0) :: (Fo, listOf #[] 0) :: (G, listOf #[] 0) :: base))
    (hdp : dp + 5 < recursionLimit) (hun : un + 64 < cLine)
    (hN : (N, listOf vs.toArray nk) ∈ base) (hU : UnsAre base U) (hL : LetAre base Le) (a1 : AllLt R ((Fo, listOf #[] 0) :: (G, listOf #[] 0) :: base)) (a2 : AllLt Fo ((G, listOf #[] 0) :: base)) (a3 : AllLt G base)
    {t1 t2 : Tok} (m0 : m (Str.ofString "numbers") = some (.ref N)) (m1 : m (Str.ofString "text") = some (.str (Str.ofString "") t1)) (m2 : m (Str.ofString "groups") = some (.ref G)) (m3 : m (Str.ofString "folds") = some (.ref Fo)) (m4 : m (Str.ofString "runs") = some (.ref R))
    (m5 : m (Str.ofString "length") = some (.int 0 t2)) (m6 : m (Str.ofString "unseen") = some (.ref U)) (m7 : m (Str.ofString "letters") = some (.ref Le))
    (hE : PassesOwn (model pw w) (drA dp un gd cn cs L a ccd cl outer L') (envOf (Str.ofString "_law_drawn") (fS st17) L' 190 (.ref 189)) E)
    (hQ : ∀ (Tp : Addr) (gcs : List Cell) (gk : Nat) (fv : List Value) (fk : Nat) (t : Tok) (h' : Heap) (tk' : Nat) (m' : Str → Option Value), Fr g L' h' m' →
      News g L' h' ((Tp, { cls := .type "tuple", data := .seq #[.str (ofL ((ns.map pcOf).map Pc.sign)) t, .ref G, .ref Fo] 0 }) :: (Fo, listOf fv.toArray fk) :: (G, listOf (gcs.map cref).toArray gk) :: (gcs.map cellO ++ base)) →
      CellsAre gcs (gr (ns.map pcOf) [] 0).1 → StrsAre fv ((gr (ns.map pcOf) [] 0).2.map ofL) → (∀ c ∈ gcs, @LT.lt Nat _ N c.1) → @LT.lt Nat _ N Tp → @LT.lt Nat _ N Fo → @LT.lt Nat _ N G → Q (.ret (.ref Tp)) { s with heap := h', toks := tk' }) :
    wpAny (model pw w) (drA dp un gd cn cs L a ccd cl outer L') (execs drEnd (envOf (Str.ofString "_law_drawn") (fS st17) L' 190 (.ref 189))) Q E s :=
  drawn_loop ⟨N, G, Fo, U, Le⟩ R vs ns nk hi h24 base dp un gd cn cs L a ccd cl outer g L' m s Q E F X T Ns hdp hun hN hU hL (fun p hp => Nat.ne_of_lt (allLt_mem a1 p (.tail _ (.tail _ hp)))) (fun p hp => Nat.ne_of_lt (allLt_mem a2 p (.tail _ hp))) (fun p hp => Nat.ne_of_lt (allLt_mem a3 p hp))
    (Nat.ne_of_gt a1.1) (Nat.ne_of_gt a1.2.1) (Nat.ne_of_gt a2.1) t1 t2 m0 m1 m2 m3 m4 m5 m6 m7 (fun Tp gcs gk fv fk t h' tk' m' x1 x2 x3 x4 x5 x6 => hQ Tp gcs gk fv fk t h' tk' m' x1 x2 x3 x4 x5 x6 (allLt_mem a2 _ (.tail _ hN)) (allLt_mem a3 _ hN)) hE
theorem letAre_of {T : List (Addr × Obj)} {Le D0 D1 D2 D3 D4 D5 : Addr} {a0 b0 a1 b1 a2 b2 a3 b3 a4 b4 a5 b5 : Tok} (h : (Le, listOf #[.ref D0, .ref D1, .ref D2, .ref D3, .ref D4, .ref D5] 0) ∈ T)
    (h0 : (D0, tupO (Str.ofString "A") a0 (Str.ofString "a") b0) ∈ T) (h1 : (D1, tupO (Str.ofString "ß") a1 (Str.ofString "ss") b1) ∈ T) (h2 : (D2, tupO (Str.ofString "ﬃ") a2 (Str.ofString "ffi") b2) ∈ T)
    (h3 : (D3, tupO (Str.ofString "İ") a3 (Str.ofString "i̇") b3) ∈ T) (h4 : (D4, tupO (Str.ofString "Ω") a4 (Str.ofString "ω") b4) ∈ T) (h5 : (D5, tupO (Str.ofString "z") a5 (Str.ofString "z") b5) ∈ T) : LetAre T Le := by
  have e0 : tupO (Str.ofString "A") a0 (Str.ofString "a") b0 = tupO (ofL [(letD.getD 0 (0, [])).1]) a0 (ofL (letD.getD 0 (0, [])).2) b0 := by kernel_rfl
  have e1 : tupO (Str.ofString "ß") a1 (Str.ofString "ss") b1 = tupO (ofL [(letD.getD 1 (0, [])).1]) a1 (ofL (letD.getD 1 (0, [])).2) b1 := by kernel_rfl
  have e2 : tupO (Str.ofString "ﬃ") a2 (Str.ofString "ffi") b2 = tupO (ofL [(letD.getD 2 (0, [])).1]) a2 (ofL (letD.getD 2 (0, [])).2) b2 := by kernel_rfl
  have e3 : tupO (Str.ofString "İ") a3 (Str.ofString "i̇") b3 = tupO (ofL [(letD.getD 3 (0, [])).1]) a3 (ofL (letD.getD 3 (0, [])).2) b3 := by kernel_rfl
  have e4 : tupO (Str.ofString "Ω") a4 (Str.ofString "ω") b4 = tupO (ofL [(letD.getD 4 (0, [])).1]) a4 (ofL (letD.getD 4 (0, [])).2) b4 := by kernel_rfl
  have e5 : tupO (Str.ofString "z") a5 (Str.ofString "z") b5 = tupO (ofL [(letD.getD 5 (0, [])).1]) a5 (ofL (letD.getD 5 (0, [])).2) b5 := by kernel_rfl
  rw [e0] at h0
  rw [e1] at h1
  rw [e2] at h2
  rw [e3] at h3
  rw [e4] at h4
  rw [e5] at h5
  refine ⟨[.ref D0, .ref D1, .ref D2, .ref D3, .ref D4, .ref D5], 0, h, fun k hk => ?_⟩
  match k, hk with
  | 0, _ => exact ⟨D0, a0, b0, rfl, h0⟩
  | 1, _ => exact ⟨D1, a1, b1, rfl, h1⟩
  | 2, _ => exact ⟨D2, a2, b2, rfl, h2⟩
  | 3, _ => exact ⟨D3, a3, b3, rfl, h3⟩
  | 4, _ => exact ⟨D4, a4, b4, rfl, h4⟩
  | 5, _ => exact ⟨D5, a5, b5, rfl, h5⟩
theorem unsD_eq : (unsD.map fun n : Nat => (n : Int)) = 173 :: 847 :: 6150 :: 6155 :: 6156 :: 6157 :: 8203 :: 8204 :: 8205 :: 8288 :: 65279 :: (List.range 16).map (fun i : Nat => 65024 + (i : Int)) := by decide
theorem uns_of {ys : List Value} {x0 x1 x2 x3 x4 x5 x6 x7 x8 x9 xa : Tok} (hl : ys.length = 16) (h : ∀ (j : Nat) v, ys[j]? = some v → ∃ t, v = Value.int (65024 + (j : Int)) t) :
    IntsAre ([Value.int 173 x0, Value.int 847 x1, Value.int 6150 x2, Value.int 6155 x3, Value.int 6156 x4, Value.int 6157 x5, Value.int 8203 x6, Value.int 8204 x7, Value.int 8205 x8, Value.int 8288 x9, Value.int 65279 xa] ++ ys) (unsD.map fun n : Nat => (n : Int)) := by
  rw [unsD_eq]
  have := ints_of (f := fun j : Nat => 65024 + (j : Int)) h
  rw [hl] at this
  exact .cons _ _ (.cons _ _ (.cons _ _ (.cons _ _ (.cons _ _ (.cons _ _ (.cons _ _ (.cons _ _ (.cons _ _ (.cons _ _ (.cons _ _ this))))))))))
structure DrO where
  Tp : Addr
  G : Addr
  Fo : Addr
  t : Tok
  gcs : List Cell
  gk : Nat
  fv : List Value
  fk : Nat
structure DrO.Ok (q : DrO) (N : Addr) (pcs : List Pc) : Prop where
  hg : CellsAre q.gcs (gr pcs [] 0).1
  hf : StrsAre q.fv ((gr pcs [] 0).2.map ofL)
  hc : ∀ c ∈ q.gcs, @LT.lt Nat _ N c.1
  h1 : @LT.lt Nat _ N q.Tp
  h2 : @LT.lt Nat _ N q.Fo
  h3 : @LT.lt Nat _ N q.G
def DrO.objs (q : DrO) (pcs : List Pc) : List (Addr × Obj) := (q.Tp, { cls := .type "tuple", data := .seq #[.str (ofL (pcs.map Pc.sign)) q.t, .ref q.G, .ref q.Fo] 0 }) :: (q.Fo, listOf q.fv.toArray q.fk) :: (q.G, listOf (q.gcs.map cref).toArray q.gk) :: q.gcs.map cellO

section
open LCg LCt
local macro_rules | `(tactic| walk_at "execs cons") => `(tactic| (k_here; (with_reducible show wpAny _ _ (execs (Stmt.For _ _ _ _ _ :: _) _) _ _ _); refine Stop.out ?_))
local macro_rules | `(tactic| walk_at "eval ListComp") => `(tactic| (k_here; k_dflt (refine ListComp_V (F₀ := by k_asm) (by with_unfolding_all rfl) (by decide) (by rfl) (by decide) (by rfl) ?_)))
set_option maxHeartbeats 1000000 in
theorem c_drawn {p : Program} {w : World} {loose : List Str} {mean : ExcName → Option Value} {mg mb : Str → Option Value} (N : Addr) (vs : List Value) (ns : List Int) (nk : Nat) (hi : IntsAre vs ns) (h24 : ns.length ≤ 24) (news : List (Addr × Obj)) (hN : AllLt N news) :
   Cl pw w (KF w.params) p loose mean mg mb 190 5 64 ((N, listOf vs.toArray nk) :: news) [.ref N] (fun q : DrO => q.Ok N (ns.map pcOf)) (fun q => .ref q.Tp) (fun q => q.objs (ns.map pcOf) ++ (N, listOf vs.toArray nk) :: news) := by
  ((intro dp un gd cn cs a ccd cl outer A₀ base h₀ L m s Q E hB hF hX hN hT hK hdp hun hret; have hdp1 : dp + 1 < recursionLimit := (by omega); have hun1 : un + 8 < cLine := (by omega); refine wpAny_call ?_; k_dflt ((refine' code_def ?k1 ?k2 ?k3 ?k4 ?k5 ?kA ?kF ?kK ?k6 ?k7 ?k8 ?k9 ?kB ?_ ?c2 ?c3 ?c4 ?c5; (case kA => exact rfl); (case kF => exact rfl); (case kK => assumption); (case k1 => k_asm); (case k2 => k_asm); (case k3 => k_asm); (case k4 => k_asm); (case k5 => k_asm); (case k6 => k_is); (case k7 => k_is); (case k8 => ktr_room); (case k9 => exact BindsTo.of_eq (show _ = pure ([(Str.ofString "numbers", Value.ref N)]) by kernel_rfl)); (case c5 => decide +kernel); (case kB => exact locs (by kernel_rfl)); (case c2 => kernel_rfl); (case c3 => kernel_rfl); (case c4 => kernel_rfl); k_whole; intro g' L' h' FG' F' N' B' X' T'; (try dsimp only); (try k_lift B'); (try k_fold)))))
  rename (∀ (_ : DrO) (_ : Heap) (_ : Nat), _) => hret
  refine @wpAny_retok _ _ _ _ _ _ _ _ _ ?_; intro tk9
  k_steps
  refine CompSrc.range (n := 16) (by rfl) (by k_asm) (by k_asm) (by assumption) (by decide) (by decide) (by decide) fun g9 => ?_
  dsimp only
  refine compRest_out 16 (fun i v => ∃ t, v = Value.int (65024 + (i : Int)) t) trivial ?turn 16 0 [] rfl rfl (fun j v h => by simp at h) ?fin
  case turn =>
    rintro i v ys I oI C oC D m₂ h tk E' hi ⟨t5, rfl⟩ hC hm₂ F5 N5 off ne
    k_steps
    · rw [Int.zero_add]
    · k_asm
    · k_asm
  case fin =>
    intro ys hlen hys D h tk F6 N6 O6
    k_steps
    refine Stop.of ?_
    dsimp only at *
    k_dflt (refine' drawn_loopL hi h24 ?F ?X ?T ?N ?hdp ?hun ?hN ?hU ?hL ?a1 ?a2 ?a3 ?m0 ?m1 ?m2 ?m3 ?m4 ?m5 ?m6 ?m7 ?hE ?hQ)
    case F => k_asm
    case X => k_asm
    case T => k_asm
    case N => k_asm
    case hdp => assumption
    case hun => assumption
    case m0 => exact rfl
    case m1 => exact rfl
    case m2 => exact rfl
    case m3 => exact rfl
    case m4 => exact rfl
    case m5 => exact rfl
    case m6 => exact rfl
    case m7 => exact rfl
    case hN => exact .tail _ (.tail _ (.tail _ (.tail _ (.tail _ (.tail _ (.tail _ (.tail _ (.tail _ (.tail _ (.head _))))))))))
    case hU => exact ⟨_, _, .tail _ (.tail _ (.tail _ (.tail _ (.tail _ (.tail _ (.tail _ (.head _))))))), uns_of hlen hys⟩
    case hL => exact letAre_of (.head _) (.tail _ (.tail _ (.tail _ (.tail _ (.tail _ (.tail _ (.head _))))))) (.tail _ (.tail _ (.tail _ (.tail _ (.tail _ (.head _)))))) (.tail _ (.tail _ (.tail _ (.tail _ (.head _))))) (.tail _ (.tail _ (.tail _ (.head _)))) (.tail _ (.tail _ (.head _))) (.tail _ (.head _))
    case a1 => assumption
    case a2 => assumption
    case a3 => assumption
    case hE => passes_own
    case hQ =>
      intro Tp gcs gk fv fk t h' tk' m' F7 N7 c1 c2 c3 c4 c5 c6
      k_steps
      refine hret ⟨Tp, _, _, t, gcs, gk, fv, fk⟩ _ _ ⟨c1, c2, c3, c4, c5, c6⟩ (by k_asm) ?_
      refine news_sb (by assumption : News _ _ _ (_ :: _ :: _ :: (gcs.map cellO ++ _))) fun p hp => ?_
      dsimp only [DrO.objs] at hp
      rcases List.mem_cons.mp hp with rfl | hp
      · exact .head _
      rcases List.mem_cons.mp hp with rfl | hp
      · exact .tail _ (.head _)
      rcases List.mem_cons.mp hp with rfl | hp
      · exact .tail _ (.tail _ (.head _))
      rcases List.mem_append.mp hp with hp | hp
      · exact .tail _ (.tail _ (.tail _ (List.mem_append_left _ hp)))
      · exact .tail _ (.tail _ (.tail _ (List.mem_append_right _ (.tail _ (.tail _ (.tail _ (.tail _ (.tail _ (.tail _ (.tail _ (.tail _ (.tail _ (.tail _ hp)))))))))))))
end

section
variable {prog : Program} {w : World} {A : Around} {E : Value → Shared → Prop} {s : Shared} {h₀ : Heap} {L : Addr} {m : Str → Option Value} {news : List (Addr × Obj)} {Q : Value → Shared → Prop} {value slice : PySem.Expr}
theorem len_vals {l : Addr} {vs : List Value} {cap : Nat} {n : Nat} (N : News h₀ L s.heap news) (hm : (l, listOf vs.toArray cap) ∈ news) (hn : vs.length = n) (h9 : n ≤ 1000) (h : Q (.int ((n : Nat) : Int) (s.toks + 1)) { s with toks := s.toks + 1 + 1 }) : wpAny (model prog w) A (call (.builtin "len") [.ref l]) Q E s := by
  have e : vs.toArray.size = n := by rw [List.size_toArray, hn]
  refine Calls.call_len_list (items := vs.toArray) ⟨_, (N _ hm).1, rfl, _, rfl⟩ (by omega) ?_
  rw [e]; exact h
theorem item_val {l : Addr} {vs : List Value} {cap k : Nat} {u : Tok} {v : Value} (N : News h₀ L s.heap news) (hm : (l, listOf vs.toArray cap) ∈ news) (hk : vs[k]? = some v) (h9 : k ≤ 100000) (h : Q v s)
    (hs : subscripted slice false (.ref l) (.int (k : Int) u) = operate [.ref l, .int (k : Int) u] (getItem (.ref l) (.int (k : Int) u)) := by with_unfolding_all rfl)
    (hg : ∀ r, letTemporaryGo value (.ref l) r = pure () := by intro _; with_unfolding_all rfl) :
    wpAny (model prog w) A (subscriptTail value slice (.ref l) (.int (k : Int) u)) Q E s :=
  item_list (items := vs.toArray) ⟨_, (N _ hm).1, rfl, _, rfl⟩ (by omega) (by omega) (by rw [Int.toNat_natCast]; simpa using hk) h hs hg
end
theorem strs_get {vs : List Value} {xs : List Str} (h : StrsAre vs xs) : ∀ {i : Nat} {x : Str}, xs[i]? = some x → ∃ t, vs[i]? = some (.str x t) := by
  induction h with
  | nil => intro i x e; simp at e
  | cons y t _ ih =>
    intro i x e
    cases i with
    | zero => simp at e; exact ⟨t, by simp [e]⟩
    | succ i => simp at e; simpa using ih e
theorem ints_getR {vs : List Value} {ns : List Int} (h : IntsAre vs ns) : ∀ {i : Nat} {c : Int}, ns[i]? = some c → ∃ t, vs[i]? = some (.int c t) := by
  induction h with
  | nil => intro i x e; simp at e
  | cons y t _ ih =>
    intro i x e
    cases i with
    | zero => simp at e; exact ⟨t, by simp [e]⟩
    | succ i => simp at e; simpa using ih e
theorem CellsAre.get {cs : List Cell} {gs : List (List Nat)} (r : CellsAre cs gs) : ∀ {i : Nat} {g : List Nat}, gs[i]? = some g → ∃ c, cs[i]? = some c ∧ IntsAre c.2 (g.map fun n : Nat => (n : Int)) := by
  induction r with
  | nil => intro i g e; simp at e
  | cons h _ ih =>
    intro i g e
    cases i with
    | zero => simp at e; subst e; exact ⟨_, by simp, h⟩
    | succ i => simp at e; simpa using ih e
def szG (gs : List (List Nat)) (fs : List (List Nat)) : Nat := (gs.map List.sum).sum + (fs.map List.length).sum
theorem mrun_snoc {a : List Nat} (h : (mrun a).2 = false) (r : Nat) : mrun (a ++ [r]) = ((mrun a).1 ++ List.replicate (r / 2) 34, decide (r % 2 = 1)) := by
  rw [mrun_app, if_neg (by simp [h]), mrun_one]
theorem mrun_len : ∀ a : List Nat, (mrun a).1.length ≤ a.sum
  | [] => Nat.le_refl _
  | r :: a => by
    have := mrun_len a
    unfold mrun
    split <;> simp <;> omega
theorem mrun_stop : ∀ (a b : List Nat), (mrun a).2 = true → mrun (a ++ b) = mrun a := fun a b h => by rw [mrun_app, if_pos h]
theorem marks_cons (g : List Nat) (gs : List (List Nat)) (f : List Nat) (fs : List (List Nat)) : marks (g :: gs) (f :: fs) = if (mrun g).2 = true then (mrun g).1 else (mrun g).1 ++ f ++ marks gs fs := rfl
theorem sum_take (a : List Nat) (i : Nat) : (a.take i).sum ≤ a.sum := by
  conv => rhs; rw [← List.take_append_drop i a, List.sum_append]
  omega
theorem drop_at {α : Type} {l : List α} {i : Nat} {x : α} (h : l[i]? = some x) : l.drop i = x :: l.drop (i + 1) := by
  obtain ⟨hl, e⟩ := List.getElem?_eq_some_iff.mp h
  rw [List.drop_eq_getElem_cons hl, e]
theorem take_at {α : Type} {l : List α} {i : Nat} {x : α} (h : l[i]? = some x) : l.take (i + 1) = l.take i ++ [x] := by
  rw [List.take_add_one]; simp [h]
theorem rs_one (n : Nat) : Builtin.Range.rangeSize 0 (n : Int) 1 = (n : Int) := by
  unfold Builtin.Range.rangeSize
  rw [if_pos (by decide)]
  split <;> omega
theorem rs_small (n : Nat) (h : n ≤ 100000) : Builtin.Range.small 0 (n : Int) 1 = true := small_one (by decide) (by decide) (by omega) (by omega)
theorem mul_q (k : Nat) (l : List Nat) : ofL l ++ Txt.mul (Str.ofString "\"") (k : Int) = ofL (l ++ List.replicate k 34) := str_ext (by rw [app_ls, mul_ls, ls_q, ofL_ls, ofL_ls, flat_rep])
-- the state of the marks' loops
structure JM (G Fo : Addr) (gs fs : List (List Nat)) (news : List (Addr × Obj)) (i : Nat) (m : Str → Option Value) (nw : List (Addr × Obj)) (told : List Nat) (t : Tok) : Prop where
  e : nw = news
  m1 : m (Str.ofString "groups") = some (.ref G)
  m2 : m (Str.ofString "folds") = some (.ref Fo)
  m3 : m (Str.ofString "told") = some (.str (ofL told) t)
  q : told ++ marks (gs.drop i) (fs.drop i) = marks gs fs
  l : told.length + szG (gs.drop i) (fs.drop i) ≤ 400
def JMx (G Fo : Addr) (gs fs : List (List Nat)) (news : List (Addr × Obj)) (i : Nat) (m : Str → Option Value) (nw : List (Addr × Obj)) : Prop := ∃ told t, JM G Fo gs fs news i m nw told t
structure JR (G Fo : Addr) (told : List Nat) (g : List Nat) (place : Nat) (news : List (Addr × Obj)) (j : Nat) (m : Str → Option Value) (nw : List (Addr × Obj)) (t t2 : Tok) : Prop where
  e : nw = news
  m1 : m (Str.ofString "groups") = some (.ref G)
  m2 : m (Str.ofString "folds") = some (.ref Fo)
  m3 : m (Str.ofString "told") = some (.str (ofL (told ++ (mrun (g.take j)).1)) t)
  m4 : m (Str.ofString "place") = some (.int (place : Int) t2)
  q : (mrun (g.take j)).2 = false
def JRx (G Fo : Addr) (told : List Nat) (g : List Nat) (place : Nat) (news : List (Addr × Obj)) (j : Nat) (m : Str → Option Value) (nw : List (Addr × Obj)) : Prop := ∃ t t2, JR G Fo told g place news j m nw t t2
theorem JM.step {G Fo : Addr} {gs fs : List (List Nat)} {news : List (Addr × Obj)} {i : Nat} {m m' : Str → Option Value} {nw : List (Addr × Obj)} {told : List Nat} {t t' : Tok} {g f : List Nat} (q : JM G Fo gs fs news i m nw told t) (hg : gs[i]? = some g) (hf : fs[i]? = some f) (hr : (mrun g).2 = false)
    (m1 : m' (Str.ofString "groups") = some (.ref G)) (m2 : m' (Str.ofString "folds") = some (.ref Fo)) (m3 : m' (Str.ofString "told") = some (.str (ofL (told ++ (mrun g).1) ++ ofL f) t')) : JMx G Fo gs fs news (i + 1) m' news := by
  have h1 := q.q
  have h2 := q.l
  rw [drop_at hg, drop_at hf] at h1 h2
  rw [marks_cons, if_neg (by simp [hr])] at h1
  have hl := mrun_len g
  refine ⟨told ++ (mrun g).1 ++ f, t', ⟨rfl, m1, m2, by rw [m3, ofL_app], ?_, ?_⟩⟩
  · rw [← h1]; simp
  · unfold szG at h2 ⊢
    simp at h2 ⊢
    omega
theorem JM.stop {G Fo : Addr} {gs fs : List (List Nat)} {news : List (Addr × Obj)} {i : Nat} {m : Str → Option Value} {nw : List (Addr × Obj)} {told : List Nat} {t : Tok} {g f : List Nat} (q : JM G Fo gs fs news i m nw told t) (hg : gs[i]? = some g) (hf : fs[i]? = some f) (hr : (mrun g).2 = true) : told ++ (mrun g).1 = marks gs fs := by
  have h1 := q.q
  rw [drop_at hg, drop_at hf, marks_cons, if_pos hr] at h1
  exact h1
theorem JM.bound {G Fo : Addr} {gs fs : List (List Nat)} {news : List (Addr × Obj)} {i : Nat} {m : Str → Option Value} {nw : List (Addr × Obj)} {told : List Nat} {t : Tok} {g f : List Nat} (q : JM G Fo gs fs news i m nw told t) (hg : gs[i]? = some g) (hf : fs[i]? = some f) : told.length + g.sum + f.length ≤ 400 := by
  have h2 := q.l
  rw [drop_at hg, drop_at hf] at h2
  unfold szG at h2
  simp at h2
  omega
theorem JR.stop {G Fo : Addr} {told g : List Nat} {place : Nat} {news : List (Addr × Obj)} {j : Nat} {m : Str → Option Value} {nw : List (Addr × Obj)} {t t2 : Tok} {r : Nat} (q : JR G Fo told g place news j m nw t t2) (hr : g[j]? = some r) (ho : r % 2 = 1) : (mrun g).2 = true ∧ (mrun g).1 = (mrun (g.take j)).1 ++ List.replicate (r / 2) 34 := by
  have e : mrun (g.take (j + 1)) = ((mrun (g.take j)).1 ++ List.replicate (r / 2) 34, true) := by rw [take_at hr, mrun_snoc q.q]; simp [ho]
  have e2 := mrun_stop (g.take (j + 1)) (g.drop (j + 1)) (by rw [e])
  rw [List.take_append_drop, e] at e2
  rw [e2]; exact ⟨rfl, rfl⟩
theorem JR.next {G Fo : Addr} {told g : List Nat} {place : Nat} {news : List (Addr × Obj)} {j : Nat} {m m' : Str → Option Value} {nw : List (Addr × Obj)} {t t2 t3 t4 : Tok} {r : Nat} (q : JR G Fo told g place news j m nw t t2) (hr : g[j]? = some r) (ho : ¬ r % 2 = 1)
    (m1 : m' (Str.ofString "groups") = some (.ref G)) (m2 : m' (Str.ofString "folds") = some (.ref Fo)) (m3 : m' (Str.ofString "told") = some (.str (ofL (told ++ (mrun (g.take j)).1) ++ Txt.mul (Str.ofString "\"") ((r / 2 : Nat) : Int)) t3)) (m4 : m' (Str.ofString "place") = some (.int (place : Int) t4)) : JRx G Fo told g place news (j + 1) m' news := by
  refine ⟨t3, t4, ⟨rfl, m1, m2, ?_, m4, ?_⟩⟩
  · rw [m3, mul_q, take_at hr, mrun_snoc q.q]; simp
  · rw [take_at hr, mrun_snoc q.q]; simp; omega
theorem le_sum_mem {x : Nat} : ∀ {l : List Nat}, x ∈ l → x ≤ l.sum
  | [], h => nomatch h
  | y :: l, h => by
    rcases List.mem_cons.mp h with rfl | h
    · simp
    · have := le_sum_mem h; simp; omega
theorem JM.fin {G Fo : Addr} {gs fs : List (List Nat)} {news : List (Addr × Obj)} {m : Str → Option Value} {nw : List (Addr × Obj)} {told : List Nat} {t : Tok} (q : JM G Fo gs fs news gs.length m nw told t) : told = marks gs fs := by
  have h1 := q.q
  rw [List.drop_length] at h1
  simpa [marks] using h1

section
open LCg LCt
local macro_rules | `(tactic| walk_at "eval Name") => `(tactic| (k_here; k_dflt (refine' ld ?k1 ?k2 ?_; (case k1 => k_asm); (case k2 => assumption); k_whole)))
local macro_rules | `(tactic| walk_at "binaryOp Add str str") => `(tactic| (k_here; k_dflt (refine' add_str ?_ ?hsz; (case hsz => (simp only [app_len, mul_len, ofL_len, len_q, sizeLine_eq]; omega))); intro _ _))
local macro_rules | `(tactic| walk_at "binaryOp Mod int int") => `(tactic| (k_here; k_dflt (refine mod_nat2 ?_)))
local macro_rules | `(tactic| walk_at "binaryOp FloorDiv int int") => `(tactic| (k_here; k_dflt (refine div_nat2 (by omega) ?_)))
local macro_rules | `(tactic| walk_at "binaryOp Mult str int") => `(tactic| (k_here; k_dflt (refine SB.mul (mulOk_nat (by ((simp only [app_len, mul_len, ofL_len, rep_len, len_q, len_b, len_257]; omega))) (by omega)) ?_); intro _ _))
local macro_rules | `(tactic| walk_at "exec For Name Call cons nil") => `(tactic| (k_here; k_dflt (refine' For_fr ?F (by kernel_rfl) (by kernel_rfl) (by passes_own) (by intro _; rfl) ?_; (case F => k_asm))))
local macro_rules | `(tactic| walk_at "exec For Name Subscript cons nil") => `(tactic| (k_here; k_dflt (refine' For_fr ?F (by kernel_rfl) (by kernel_rfl) (by passes_own) (by intro _; rfl) ?_; (case F => k_asm))))
local macro_rules | `(tactic| walk_at "pyIter ref") => `(tactic| (k_here; refine Stop.out ?_))
local macro_rules | `(tactic| walk_at "ite") => `(tactic| (k_here; (first | (refine ite_t (by (first | exact decide_eq_true (by omega) | assumption | exact not_t (by assumption) | exact bne_t (by assumption) | decide)) ?_) | (refine ite_f (by ((refine nt_of ?_; first | exact decide_eq_false (by omega) | assumption | exact not_f (by assumption) | exact bne_f (by assumption) | decide))) ?_))))
local macro_rules | `(tactic| walk_at "call builtin:len") => `(tactic| (k_here; k_dflt (refine len_vals (by k_asm) (by k_mem) (by assumption) (by omega) ?_)))
local macro_rules | `(tactic| walk_at "subscriptTail Name Name ref int") => `(tactic| (k_here; k_dflt (refine item_val (by k_asm) (by k_mem) (by assumption) (by omega) ?_)))
set_option maxHeartbeats 1000000 in
theorem c_marks {p : Program} {w : World} {loose : List Str} {mean : ExcName → Option Value} {mg mb : Str → Option Value} (G Fo : Addr) (gcs : List Cell) (gk : Nat) (fv : List Value) (fk : Nat) (gs fs : List (List Nat)) (hg : CellsAre gcs gs) (hf : StrsAre fv (fs.map ofL)) (hl : gs.length = fs.length)
   (hsz : szG gs fs ≤ 400) (h25 : gs.length ≤ 100) (news : List (Addr × Obj)) (mG : (G, listOf (gcs.map cref).toArray gk) ∈ news) (mF : (Fo, listOf fv.toArray fk) ∈ news) (mC : ∀ c ∈ gcs, ∃ cap, (c.1, listOf c.2.toArray cap) ∈ news) :
   Cl pw w (KF w.params) p loose mean mg mb 197 5 64 news [.ref G, .ref Fo] (fun _ : Tok => True) (fun t => .str (ofL (marks gs fs)) t) (fun _ => news) := by
  have hgl : (gcs.map cref).length = gs.length := by rw [List.length_map]; exact hg.len
  ((intro dp un gd cn cs a ccd cl outer A₀ base h₀ L m s Q E hB hF hX hN hT hK hdp hun hret; have hdp1 : dp + 1 < recursionLimit := (by omega); have hun1 : un + 8 < cLine := (by omega); refine wpAny_call ?_; k_dflt ((refine' code_def ?k1 ?k2 ?k3 ?k4 ?k5 ?kA ?kF ?kK ?k6 ?k7 ?k8 ?k9 ?kB ?_ ?c2 ?c3 ?c4 ?c5; (case kA => exact rfl); (case kF => exact rfl); (case kK => assumption); (case k1 => k_asm); (case k2 => k_asm); (case k3 => k_asm); (case k4 => k_asm); (case k5 => k_asm); (case k6 => k_is); (case k7 => k_is); (case k8 => ktr_room); (case k9 => exact BindsTo.of_eq (show _ = pure ([(Str.ofString "groups", Value.ref G), (Str.ofString "folds", Value.ref Fo)]) by kernel_rfl)); (case c5 => decide +kernel); (case kB => exact locs (by kernel_rfl)); (case c2 => kernel_rfl); (case c3 => kernel_rfl); (case c4 => kernel_rfl); k_whole; intro g' L' h' FG' F' N' B' X' T'; (try dsimp only); (try k_lift B'); (try k_fold)))))
  rename (∀ (_ : Tok) (_ : Heap) (_ : Nat), _) => hret
  refine @wpAny_retok _ _ _ _ _ _ _ _ _ ?_; intro tk9
  k_steps
  refine Stop.of ?_
  k_dflt (refine' rangeJ (n := gs.length) (JMx G Fo gs fs news) ?hh ?hr ?hs ?hn ?F ?N ?hJ ?turn ?done)
  case hh => exact rfl
  case hr => assumption
  case hs => exact rs_small _ (by omega)
  case hn => exact rs_one _
  case F => k_asm
  case N => k_asm
  case hJ => exact ⟨[], _, ⟨rfl, rfl, rfl, rfl, by simp, by simpa using hsz⟩⟩
  case turn =>
    rintro I i t m₁ news₁ h₁ tk₁ o hO hI hi ⟨told, t1, q⟩ hne F₁ N₁
    obtain ⟨g, hgi⟩ : ∃ g, gs[i]? = some g := ⟨_, List.getElem?_eq_getElem hi⟩
    obtain ⟨f, hfi⟩ : ∃ f, fs[i]? = some f := ⟨_, List.getElem?_eq_getElem (by omega)⟩
    obtain ⟨c, hc, hci⟩ := hg.get hgi
    obtain ⟨cap, hcm⟩ := mC c (List.mem_of_getElem? hc)
    have hcr : (gcs.map cref)[i]? = some (.ref c.1) := by simp [hc, cref]
    have hb := q.bound hgi hfi
    have n1 := q.m1
    have n2 := q.m2
    have n3 := q.m3
    have e0 := q.e
    subst e0
    k_steps
    refine Stop.of ?_
    k_dflt (refine' listJ (its := c.2.toArray) (k := cap) (JRx G Fo told g i ((I, o) :: news₁)) ?hJl ?hh ?F ?N ?hJ ?turn2 ?done2)
    case hJl => rintro j m₂ nw ⟨_, _, r⟩; rw [r.e]; exact .tail _ hcm
    case hh => exact rfl
    case F => k_asm
    case N => k_asm
    case hJ => exact ⟨_, _, ⟨rfl, n1, n2, by rw [show told ++ (mrun (g.take 0)).1 = told by simp [mrun]]; exact n3, rfl, rfl⟩⟩
    case turn2 =>
      rintro I2 j v m₂ news₂ h₂ tk₂ o2 hO2 hI2 hv ⟨t3, t4, r⟩ hne2 F₂ N₂
      obtain ⟨rv, ru, hrv, rfl⟩ := ints_get hci hv
      obtain ⟨rn, hrn, rfl⟩ : ∃ rn : Nat, g[j]? = some rn ∧ (rn : Int) = rv := by
        rw [List.getElem?_map] at hrv
        cases hgj : g[j]? with
        | none => rw [hgj] at hrv; cases hrv
        | some x => rw [hgj] at hrv; exact ⟨x, rfl, by simpa using hrv⟩
      have hrl : rn ≤ g.sum := le_sum_mem (List.mem_of_getElem? hrn)
      have hml : (mrun (g.take j)).1.length ≤ g.sum := Nat.le_trans (mrun_len _) (sum_take g j)
      have hll : (told ++ (mrun (g.take j)).1).length ≤ 800 := by simp; omega
      have p1 := r.m1
      have p2 := r.m2
      have p3 := r.m3
      have p4 := r.m4
      have e1 := r.e
      subst e1
      clear n1 n2 n3
      k_steps
      · rename News _ _ _ _ => kN
        rename Fr _ _ _ _ => kF
        have ho : ((rn % 2 : Nat) : Int) = 1 := by assumption
        have hst := r.stop hrn (by omega)
        have hfin : ofL (told ++ (mrun (g.take j)).1) ++ Txt.mul (Str.ofString "\"") ((rn / 2 : Nat) : Int) = ofL (marks gs fs) := by
          rw [mul_q, ← q.stop hgi hfi hst.1, hst.2, List.append_assoc]
        rw [hfin]
        iterate 3 ((try dsimp only); (try refine RStep.ret ?_))
        try dsimp only
        k_steps
        exact hret _ _ _ trivial (by k_asm) (fun p hp => (by assumption : News _ _ _ (_ :: _ :: news₁)) p (.tail _ (.tail _ hp)))
      · rename News _ _ _ _ => kN
        rename Fr _ _ _ _ => kF
        have ho : ((rn % 2 : Nat) : Int) ≠ 1 := by assumption
        exact RStep.next kF kN hne2 (r.next hrn (by omega) p1 p2 rfl p4)
    case done2 =>
      rintro h₂ tk₂ m₂ news₂ F₂ N₂ ⟨t3, t4, r⟩
      have hsz2 : c.2.toArray.size = g.length := by have := hci.length; simpa using this
      have p1 := r.m1
      have p2 := r.m2
      have p3 := r.m3
      have p4 := r.m4
      have p5 := r.q
      have e1 := r.e
      rw [hsz2, List.take_length] at p3 p5
      obtain ⟨tf, htf⟩ := strs_get hf (i := i) (x := ofL f) (by simp [hfi])
      have hml := mrun_len g
      have hll : (told ++ (mrun g).1).length ≤ 800 := by simp; omega
      have hfl : f.length ≤ 400 := by omega
      subst e1
      clear n1 n2 n3
      k_steps
      rename News _ _ _ _ => kN
      rename Fr _ _ _ _ => kF
      exact RStep.next kF kN hne (q.step hgi hfi p5 p1 p2 rfl)
  case done =>
    rintro h₁ tk₁ m₁ news₁ F₁ N₁ ⟨told, t1, q⟩
    have n3 := q.m3
    rw [q.fin] at n3
    have e0 := q.e
    subst e0
    k_steps
    exact hret _ _ _ trivial (by k_asm) (by k_asm)
end

section
open LCg LCt
variable {prog : Program} {w : World} {A : Around} {E : Value → Shared → Prop} {s : Shared} {h₀ : Heap} {L : Addr} {m : Str → Option Value} {env : Env}
theorem compRest_one {elt : Expr} {x : Str} {scope : Scope} {cl : List (Str × Addr)} {its : List Value} {ns : List Nat} {news : List (Addr × Obj)} {S : List (Addr × Obj) → Prop} {Fin : List Value → List (Addr × Obj) → Prop} (hi : IntsAre its (ns.map fun n : Nat => (n : Int))) (hS : ∀ nw, (∀ p ∈ news, p ∈ nw) → S nw)
    (turn : ∀ (c : Nat) (u : Tok) (ys : List Value) (I : Addr) (oI : Obj) (C : Addr) (oC : Obj) (D : Addr) (m₂ : Str → Option Value) (h : Heap) (tk : Nat) (E' : Value → Shared → Prop) (nw : List (Addr × Obj)), NsObj oC m₂ → m₂ x = some (.int (c : Int) u) → Fr h₀ L h m → News h₀ L h ((I, oI) :: (C, oC) :: (D, lst ys) :: nw) → Off3 I C D nw → ((@Ne Nat I C) ∧ (@Ne Nat I D) ∧ (@Ne Nat C D)) →
      wpAny (model prog w) A (eval elt (compEnvC scope cl C env)) (fun v s₂ => ∃ X u' h' tk', v = .ref X ∧ s₂ = { s with heap := h', toks := tk' } ∧ Fr h₀ L h' m ∧ News h₀ L h' ((X, listOf #[.int (c : Int) u'] 0) :: (I, oI) :: (C, oC) :: (D, lst ys) :: nw) ∧ AllLt X ((I, oI) :: (C, oC) :: (D, lst ys) :: nw)) E' { s with heap := h, toks := tk }) :
    ∀ (k i : Nat) (cs : List Cell) (nw : List (Addr × Obj)), k + i = ns.length → CellsAre cs ((ns.take i).map fun x => [x]) → (∀ c ∈ cs, cellO c ∈ nw) → (∀ p ∈ news, p ∈ nw) → (∀ cs' nw', CellsAre cs' (ns.map fun x => [x]) → (∀ c ∈ cs', cellO c ∈ nw') → (∀ p ∈ news, p ∈ nw') → Fin (cs'.map cref) nw') → CompRest prog w A h₀ L m env elt x scope cl s S (fun i v => its.toArray[i]? = some v) Fin k i (cs.map cref) nw
  | 0, i, cs, nw, hk, hC, h1, h2, hF => CompRest.zero (hF cs nw (by rw [List.take_of_length_le (by omega)] at hC; exact hC) h1 h2)
  | k + 1, i, cs, nw, hk, hC, h1, h2, hF => CompRest.succ (by
    intro v I oI C oC D m₂ h tk E' hv hCo hx F N off ne
    obtain ⟨c, u, hc, rfl⟩ := ints_get hi hv
    obtain ⟨cn, hcn, rfl⟩ : ∃ cn : Nat, ns[i]? = some cn ∧ (cn : Int) = c := by
      rw [List.getElem?_map] at hc
      cases hgj : ns[i]? with
      | none => rw [hgj] at hc; cases hc
      | some z => rw [hgj] at hc; exact ⟨z, rfl, by simpa using hc⟩
    refine wpAny_mono (turn cn u _ I oI C oC D m₂ h tk E' nw hCo hx F N off ne) (fun v s₂ hv => ?_) fun _ _ e => e
    obtain ⟨X, u', h', tk', rfl, rfl, F', N', a⟩ := hv
    obtain ⟨a1, a2, a3, a4⟩ := a
    dsimp only at a1 a2 a3
    refine CompEnd.intro F' N' ((X, listOf #[.int (cn : Int) u'] 0) :: nw) (fun p hp => ?_) ⟨⟨Nat.ne_of_gt a1, Nat.ne_of_gt a2, Nat.ne_of_gt a3⟩, off⟩ (hS _ fun p hp => .tail _ (h2 p hp)) ?_
    · rcases List.mem_cons.mp hp with rfl | hp
      · exact .tail _ (.head _)
      rcases List.mem_cons.mp hp with rfl | hp
      · exact .tail _ (.tail _ (.head _))
      rcases List.mem_cons.mp hp with rfl | hp
      · exact .tail _ (.tail _ (.tail _ (.head _)))
      rcases List.mem_cons.mp hp with rfl | hp
      · exact .head _
      · exact .tail _ (.tail _ (.tail _ (.tail _ hp)))
    · have := compRest_one hi hS turn k (i + 1) (cs ++ [(X, [.int (cn : Int) u'])]) ((X, listOf #[.int (cn : Int) u'] 0) :: nw) (by omega) (by rw [take_at hcn, List.map_append]; exact hC.snoc (.cons _ _ .nil)) (fun c hc => by
        rcases List.mem_append.mp hc with hc | hc
        · exact .tail _ (h1 c hc)
        · rw [List.mem_singleton.mp hc]; exact .head _) (fun p hp => .tail _ (h2 p hp)) hF
      rw [List.map_append] at this
      exact this)
end
theorem told3_range : ∀ (gs fs : List (List Nat)), gs.length = fs.length → (List.range fs.length).flatMap (fun k => List.replicate (hv (gs.getD k [])) 92 ++ fs.getD k []) = told3 gs fs
  | [], [], _ => rfl
  | [], _ :: _, h => by simp at h
  | _ :: _, [], h => by simp at h
  | g :: gs, f :: fs, h => by
    have ih := told3_range gs fs (by simpa using h)
    rw [List.length_cons, List.range_succ_eq_map, List.flatMap_cons, List.flatMap_map]
    simp only [List.getD_cons_zero, List.getD_cons_succ, told3]
    rw [ih]
theorem told4_range : ∀ (ns : List Nat) (fs : List (List Nat)), ns.length = fs.length → (List.range fs.length).flatMap (fun k => List.replicate (ns.getD k 0 / 2) 92 ++ fs.getD k []) = told4 ns fs
  | [], [], _ => rfl
  | [], _ :: _, h => by simp at h
  | _ :: _, [], h => by simp at h
  | g :: gs, f :: fs, h => by
    have ih := told4_range gs fs (by simpa using h)
    rw [List.length_cons, List.range_succ_eq_map, List.flatMap_cons, List.flatMap_map]
    simp only [List.getD_cons_zero, List.getD_cons_succ, told4]
    rw [ih]
theorem mul_b (k : Nat) (l : List Nat) : Txt.mul (Str.ofString "\\") (k : Int) ++ ofL l = ofL (List.replicate k 92 ++ l) := str_ext (by rw [app_ls, mul_ls, ls_b, ofL_ls, ofL_ls, flat_rep])
theorem join3 (gs fs : List (List Nat)) (h : gs.length = fs.length) : Txt.join (Str.ofString "") ((List.range fs.length).map fun k => ofL (List.replicate (hv (gs.getD k [])) 92 ++ fs.getD k [])) = ofL (told3 gs fs) := by
  refine str_ext ?_
  rw [join_cps _ (by decide), ofL_ls, ← told3_range gs fs h, List.flatMap_map]
  simp only [ofL_ls]
theorem join4 (ns : List Nat) (fs : List (List Nat)) (h : ns.length = fs.length) : Txt.join (Str.ofString "") ((List.range fs.length).map fun k => ofL (List.replicate (ns.getD k 0 / 2) 92 ++ fs.getD k [])) = ofL (told4 ns fs) := by
  refine str_ext ?_
  rw [join_cps _ (by decide), ofL_ls, ← told4_range ns fs h, List.flatMap_map]
  simp only [ofL_ls]
abbrev lawT2 (dp un : Nat) (gd : Option (List Code)) (L a : Addr) (ccd : Value) (outer : List Env) : Around := ktrTop dp un gd (Str.ofString "law") (fS st19) L a ccd (cellsFrom (L + 1) (fS st19).names []) outer
def lawC : List Stmt := (fB st19).drop 7

section
variable {prog : Program} {w : World} {A : Around} {E : Value → Shared → Prop} {s : Shared} {h₀ : Heap} {L a : Addr} {ccd : Value} {m : Str → Option Value} {news : List (Addr × Obj)} {Q : Value → Shared → Prop} {o : Obj} {v : Value} {pos : Pos}
abbrev lawEv (L a : Addr) (ccd : Value) : Env := envOfC (Str.ofString "law") (fS st19) L a ccd
theorem nm_folds (N : News h₀ L s.heap news) (hm : (L + 1, o) ∈ news) (hd : o.data = .cell (some v)) (h : Q v s) : wpAny (model prog w) A (eval (.Name (Str.ofString "folds") pos) (lawEv L a ccd)) Q E s :=
  nameX_C (cl := cellsFrom (L + 1) (fS st19).names []) N (by kernel_rfl) hm hd h (by kernel_rfl) (by kernel_rfl) (by kernel_rfl)
theorem nm_sums (N : News h₀ L s.heap news) (hm : (L + 1 + 1, o) ∈ news) (hd : o.data = .cell (some v)) (h : Q v s) : wpAny (model prog w) A (eval (.Name (Str.ofString "sums") pos) (lawEv L a ccd)) Q E s :=
  nameX_C (cl := cellsFrom (L + 1) (fS st19).names []) N (by kernel_rfl) hm hd h (by kernel_rfl) (by kernel_rfl) (by kernel_rfl)
theorem nm_odd (N : News h₀ L s.heap news) (hm : (L + 1 + 1 + 1, o) ∈ news) (hd : o.data = .cell (some v)) (h : Q v s) : wpAny (model prog w) A (eval (.Name (Str.ofString "odd") pos) (lawEv L a ccd)) Q E s :=
  nameX_C (cl := cellsFrom (L + 1) (fS st19).names []) N (by kernel_rfl) hm hd h (by kernel_rfl) (by kernel_rfl) (by kernel_rfl)
theorem nm_loc {x : Str} (F : Fr h₀ L s.heap m) (hm : m x = some v) (hl : (lawEv L a ccd).kindOf x = some .local) (hd : (x == ("__debug__" : Str)) = false) (h : Q v s) : wpAny (model prog w) A (eval (.Name x pos) (lawEv L a ccd)) Q E s :=
  nameX_L (cl := cellsFrom (L + 1) (fS st19).names []) F hm h (by kernel_rfl) hl hd
end
section
variable {prog : Program} {w : World} {A : Around} {E : Value → Shared → Prop} {s : Shared} {h₀ : Heap} {L a : Addr} {ccd : Value} {m : Str → Option Value} {news : List (Addr × Obj)} {Q : Unit → Shared → Prop} {o : Obj} {v : Value}
theorem sv_loc {x : Str} (F : Fr h₀ L s.heap m) (N : News h₀ L s.heap news) (hl : (lawEv L a ccd).kindOf x = some .local)
    (h : ∀ h', Fr h₀ L h' (fun y => if y = x then some v else m y) → News h₀ L h' news → Q () { s with heap := h', toks := s.toks + 1 }) : wpAny (model prog w) A (storeName (lawEv L a ccd) x v) Q E s :=
  storeX_L (cl := cellsFrom (L + 1) (fS st19).names []) F N h (by kernel_rfl) hl
theorem sv_sums {g : Obj → List (Addr × Obj)} {v₀ : Option Value} (F : Fr h₀ L s.heap m) (N : News h₀ L s.heap news) (U : UpdF (L + 1 + 1) o news g) (hd : o.data = .cell v₀)
    (h : ∀ h' o', Fr h₀ L h' m → News h₀ L h' (g o') → o'.data = .cell (some v) → Q () { s with heap := h' }) : wpAny (model prog w) A (storeName (lawEv L a ccd) (Str.ofString "sums") v) Q E s :=
  storeX_C (cl := cellsFrom (L + 1) (fS st19).names []) F N (by kernel_rfl) U hd h (by kernel_rfl) (by kernel_rfl)
theorem sv_odd {g : Obj → List (Addr × Obj)} {v₀ : Option Value} (F : Fr h₀ L s.heap m) (N : News h₀ L s.heap news) (U : UpdF (L + 1 + 1 + 1) o news g) (hd : o.data = .cell v₀)
    (h : ∀ h' o', Fr h₀ L h' m → News h₀ L h' (g o') → o'.data = .cell (some v) → Q () { s with heap := h' }) : wpAny (model prog w) A (storeName (lawEv L a ccd) (Str.ofString "odd") v) Q E s :=
  storeX_C (cl := cellsFrom (L + 1) (fS st19).names []) F N (by kernel_rfl) U hd h (by kernel_rfl) (by kernel_rfl)
end
theorem szG_one {SL : List Nat} {gs fs : List (List Nat)} (h : SL = gs.map List.sum) : szG (SL.map fun x => [x]) fs = szG gs fs := by
  subst h
  unfold szG
  rw [List.map_map, List.map_map]
  have e : ((List.sum ∘ fun x : Nat => [x]) ∘ List.sum : List Nat → Nat) = List.sum := by funext a; simp
  rw [e]
theorem sum_mem_le {g : List Nat} : ∀ {gs : List (List Nat)}, g ∈ gs → g.sum ≤ (gs.map List.sum).sum
  | [], h => nomatch h
  | y :: l, h => by
    rcases List.mem_cons.mp h with rfl | h
    · simp
    · have := sum_mem_le h; simp; omega
theorem len_mem_le {g : List Nat} : ∀ {gs : List (List Nat)}, g ∈ gs → g.length ≤ (gs.map List.length).sum
  | [], h => nomatch h
  | y :: l, h => by
    rcases List.mem_cons.mp h with rfl | h
    · simp
    · have := len_mem_le h; simp; omega
theorem hv_le (g : List Nat) : hv g ≤ g.sum := by have := hv_odd g; omega
theorem told3_len : ∀ (gs fs : List (List Nat)), (told3 gs fs).length ≤ szG gs fs
  | [], _ => by simp [told3]
  | _ :: _, [] => by simp [told3]
  | g :: gs, f :: fs => by
    have ih := told3_len gs fs
    have := hv_le g
    unfold szG at ih ⊢
    simp [told3]
    omega
theorem told4_len : ∀ (ns : List Nat) (fs : List (List Nat)), (told4 ns fs).length ≤ ns.sum + (fs.map List.length).sum
  | [], _ => by simp [told4]
  | _ :: _, [] => by simp [told4]
  | g :: gs, f :: fs => by
    have ih := told4_len gs fs
    simp [told4]
    omega
def x3 (gs fs : List (List Nat)) (k : Nat) : Str := ofL (List.replicate (hv (gs.getD k [])) 92 ++ fs.getD k [])
def x4 (ns : List Nat) (fs : List (List Nat)) (k : Nat) : Str := ofL (List.replicate (ns.getD k 0 / 2) 92 ++ fs.getD k [])
theorem sum3 (gs fs : List (List Nat)) (h : gs.length = fs.length) : (((List.range fs.length).map (x3 gs fs)).map (·.length)).sum = (told3 gs fs).length := by
  rw [← told3_range gs fs h, List.length_flatMap, List.map_map]
  first | rfl | (simp only [x3, Function.comp_def, ofL_len])
theorem sum4 (ns : List Nat) (fs : List (List Nat)) (h : ns.length = fs.length) : (((List.range fs.length).map (x4 ns fs)).map (·.length)).sum = (told4 ns fs).length := by
  rw [← told4_range ns fs h, List.length_flatMap, List.map_map]
  first | rfl | (simp only [x4, Function.comp_def, ofL_len])
theorem turn_at {gs fs : List (List Nat)} {SL OL : List Nat} (hl : gs.length = fs.length) (hSL : SL = gs.map List.sum) (hOL : OL = gs.map oddN) (hsz : szG gs fs ≤ 400) : ∀ i, i < fs.length → ∃ g f, gs[i]? = some g ∧ fs[i]? = some f ∧ SL[i]? = some g.sum ∧ OL[i]? = some (oddN g) ∧ g.sum ≤ 400 ∧ f.length ≤ 400 := fun i hi => by
  obtain ⟨g, h1⟩ : ∃ g, gs[i]? = some g := ⟨_, List.getElem?_eq_getElem (by omega)⟩
  obtain ⟨f, h2⟩ : ∃ f, fs[i]? = some f := ⟨_, List.getElem?_eq_getElem hi⟩
  refine ⟨g, f, h1, h2, by rw [hSL, List.getElem?_map, h1]; rfl, by rw [hOL, List.getElem?_map, h1]; rfl, ?_, ?_⟩
  · have := sum_mem_le (List.mem_of_getElem? h1); unfold szG at hsz; omega
  · have := len_mem_le (List.mem_of_getElem? h2); unfold szG at hsz; omega
theorem x3_eq {gs fs : List (List Nat)} {i : Nat} {g f : List Nat} (h1 : gs[i]? = some g) (h2 : fs[i]? = some f) : Txt.mul (Str.ofString "\\") ((g.sum / 2 - oddN g / 2 : Nat) : Int) ++ ofL f = x3 gs fs i := by
  unfold x3
  rw [mul_b, ← hv_eq, List.getD_eq_getElem?_getD, List.getD_eq_getElem?_getD, h1, h2]; rfl
theorem x4_eq {SL : List Nat} {fs : List (List Nat)} {i n : Nat} {f : List Nat} (h1 : SL[i]? = some n) (h2 : fs[i]? = some f) : Txt.mul (Str.ofString "\\") ((n / 2 : Nat) : Int) ++ ofL f = x4 SL fs i := by
  unfold x4
  rw [mul_b, List.getD_eq_getElem?_getD, List.getD_eq_getElem?_getD, h1, h2]; rfl
theorem ok_ofL {l : List Nat} (h : ∀ c ∈ l, c < 0x110000) : PyData.strOk (ofL l) = true := by
  show Array.all _ _ = true
  rw [← Array.all_toList]
  show l.all _ = true
  rw [List.all_eq_true]
  intro c hc
  simpa using h c hc
def FOk (fs : List (List Nat)) : Prop := ∀ f ∈ fs, ∀ c ∈ f, c < 0x110000
theorem mrun_mem : ∀ (g : List Nat), ∀ c ∈ (mrun g).1, c = 34
  | [], c, h => nomatch h
  | r :: g, c, h => by
    unfold mrun at h
    split at h
    · exact (List.mem_replicate.mp h).2
    · rcases List.mem_append.mp h with h | h
      · exact (List.mem_replicate.mp h).2
      · exact mrun_mem g c h
theorem marks_ok : ∀ (gs fs : List (List Nat)), FOk fs → ∀ c ∈ marks gs fs, c < 0x110000
  | [], _, _, c, h => by simp [marks] at h
  | _ :: _, [], _, c, h => by simp [marks] at h
  | g :: gs, f :: fs, hf, c, h => by
    rw [marks_cons] at h
    split at h
    · rw [mrun_mem g c h]; decide
    · rcases List.mem_append.mp h with h | h
      · rcases List.mem_append.mp h with h | h
        · rw [mrun_mem g c h]; decide
        · exact hf f (.head _) c h
      · exact marks_ok gs fs (fun f hf' => hf f (.tail _ hf')) c h
theorem told3_ok : ∀ (gs fs : List (List Nat)), FOk fs → ∀ c ∈ told3 gs fs, c < 0x110000
  | [], _, _, c, h => by simp [told3] at h
  | _ :: _, [], _, c, h => by simp [told3] at h
  | g :: gs, f :: fs, hf, c, h => by
    simp only [told3] at h
    rcases List.mem_append.mp h with h | h
    · rcases List.mem_append.mp h with h | h
      · rw [(List.mem_replicate.mp h).2]; decide
      · exact hf f (.head _) c h
    · exact told3_ok gs fs (fun f hf' => hf f (.tail _ hf')) c h
theorem told4_ok : ∀ (ns : List Nat) (fs : List (List Nat)), FOk fs → ∀ c ∈ told4 ns fs, c < 0x110000
  | [], _, _, c, h => by simp [told4] at h
  | _ :: _, [], _, c, h => by simp [told4] at h
  | g :: gs, f :: fs, hf, c, h => by
    simp only [told4] at h
    rcases List.mem_append.mp h with h | h
    · rcases List.mem_append.mp h with h | h
      · rw [(List.mem_replicate.mp h).2]; decide
      · exact hf f (.head _) c h
    · exact told4_ok gs fs (fun f hf' => hf f (.tail _ hf')) c h
section
open PyProof.V PySem.Spec
variable {prog : Program} {w : World} {A : Around} {E : Value → Shared → Prop} {s : Shared} {a b : Addr} {xs ys : List Value} {ns : List Str} {Q : Value → Shared → Prop}
theorem cs_eqs (ha : s.heap.IsList a xs.toArray) (hb : s.heap.IsList b ys.toArray) (hi : StrsAre xs ns) (hj : StrsAre ys ns) (ho : ∀ y ∈ ns, PyData.strOk y = true) (hu : A.units + 64 < cLine) (h : Q (.bool true) s) :
    wpAny (model prog w) A (compareOp .Eq (.ref a) (.ref b)) Q E s :=
  eq_dataH_same (reads_newData ha (cs_carried hi)) (reads_newData hb (cs_carried hj)) (cs_shaped _ ho) (cs_shaped _ ho) hu (SeqAt.noMix_of_shape (.list .str) rfl _ _ (list_map_has fun _ => rfl) (list_map_has fun _ => rfl)) (by rw [cs_same]; simpa using h)
theorem law_eq {h₀ : Heap} {L : Addr} {news : List (Addr × Obj)} {gs fs : List (List Nat)} {SL : List Nat} {t1 t2 t3 t4 u1 u2 u3 u4 : Tok} {k1 k2 : Nat} (hfo : FOk fs) (N : News h₀ L s.heap news)
    (ha : (a, listOf #[.str (ofL (marks gs fs)) t1, .str (ofL (marks (SL.map fun x => [x]) fs)) t2, .str (ofL (told3 gs fs)) t3, .str (ofL (told4 SL fs)) t4] k1) ∈ news)
    (hb : (b, listOf ((#[.str (ofL (marks gs fs)) u1, .str (ofL (marks (SL.map fun x => [x]) fs)) u2].push (.str (ofL (told3 gs fs)) u3)).push (.str (ofL (told4 SL fs)) u4)) k2) ∈ news) (hu : A.units + 64 < cLine) (h : Q (.bool true) s) :
    wpAny (model prog w) A (compareOp .Eq (.ref a) (.ref b)) Q E s := by
  refine cs_eqs (xs := [_, _, _, _]) (ys := [_, _, _, _]) (ns := [ofL (marks gs fs), ofL (marks (SL.map fun x => [x]) fs), ofL (told3 gs fs), ofL (told4 SL fs)]) ⟨_, (N _ ha).1, rfl, _, rfl⟩ ⟨_, (N _ hb).1, rfl, _, rfl⟩ (.cons _ _ (.cons _ _ (.cons _ _ (.cons _ _ .nil)))) (.cons _ _ (.cons _ _ (.cons _ _ (.cons _ _ .nil)))) ?_ hu h
  intro y hy
  simp only [List.mem_cons, List.not_mem_nil, or_false] at hy
  rcases hy with rfl | rfl | rfl | rfl
  · exact ok_ofL (marks_ok _ _ hfo)
  · exact ok_ofL (marks_ok _ _ hfo)
  · exact ok_ofL (told3_ok _ _ hfo)
  · exact ok_ofL (told4_ok _ _ hfo)
end

section
open LCg LCt
local macro_rules | `(tactic| walk_at "no such key") => `(tactic| fail)
local macro_rules | `(tactic| walk_at "call ref") => `(tactic| (k_here; refine Stop.out ?_))
local macro_rules | `(tactic| walk_at "eval ListComp") => `(tactic| (k_here; k_dflt (refine ListComp_V (F₀ := by k_asm) (by with_unfolding_all rfl) (by decide) (by rfl) (by decide) (by rfl) ?_)))
local macro_rules | `(tactic| walk_at "call builtin:len") => `(tactic| (k_here; k_dflt (refine len_vals (by k_asm) (by k_mem) (by assumption) (by omega) ?_)))
local macro_rules | `(tactic| walk_at "binaryOp Add str str") => `(tactic| (k_here; k_dflt (refine' add_str ?_ ?hsz; (case hsz => (simp only [app_len, mul_len, ofL_len, len_b, sizeLine_eq]; omega))); intro _ _))
local macro_rules | `(tactic| walk_at "binaryOp FloorDiv int int") => `(tactic| (k_here; k_dflt (refine div_nat2 (by omega) ?_)))
local macro_rules | `(tactic| walk_at "binaryOp Sub int int") => `(tactic| (k_here; k_dflt (refine sub_natG _ rfl (by omega) ?_)))
local macro_rules | `(tactic| walk_at "binaryOp Mult str int") => `(tactic| (k_here; k_dflt (refine SB.mul (mulOk_nat (by ((simp only [app_len, mul_len, ofL_len, rep_len, len_q, len_b, len_257]; omega))) (by omega)) ?_); intro _ _))
local macro_rules | `(tactic| walk_at "subscriptTail Name Name ref int") => `(tactic| (k_here; k_dflt (refine item_val (by k_asm) (by k_mem) (by assumption) (by omega) ?_)))
local macro_rules | `(tactic| walk_at "compareOp Eq ref ref") => `(tactic| (k_here; k_dflt (refine' law_eq ?h ?N ?a ?b ?u ?_; (case h => assumption); (case N => k_asm); (case a => k_mem); (case b => k_mem); (case u => ktr_units))))
local macro_rules | `(tactic| walk_at "eval Name") => `(tactic| (k_here; first
  | ((with_reducible show wpAny _ _ (eval (PySem.Expr.Name (Str.ofString "folds") _) _) _ _ _); k_dflt (refine' nm_folds ?N ?m ?d ?_; (case N => k_asm); (case m => k_mem); (case d => assumption)))
  | ((with_reducible show wpAny _ _ (eval (PySem.Expr.Name (Str.ofString "sums") _) _) _ _ _); k_dflt (refine' nm_sums ?N ?m ?d ?_; (case N => k_asm); (case m => k_mem); (case d => assumption)))
  | ((with_reducible show wpAny _ _ (eval (PySem.Expr.Name (Str.ofString "odd") _) _) _ _ _); k_dflt (refine' nm_odd ?N ?m ?d ?_; (case N => k_asm); (case m => k_mem); (case d => assumption)))
  | ((with_reducible show wpAny _ _ (eval (PySem.Expr.Name (Str.ofString "groups") _) _) _ _ _); k_dflt (refine' nm_loc ?k1 ?k2 (by kernel_rfl) (by kernel_rfl) ?_; (case k1 => k_asm); (case k2 => first | with_reducible assumption | exact rfl | assumption); k_whole))
  | ((with_reducible show wpAny _ _ (eval (PySem.Expr.Name (Str.ofString "told") _) _) _ _ _); k_dflt (refine' nm_loc ?k1 ?k2 (by kernel_rfl) (by kernel_rfl) ?_; (case k1 => k_asm); (case k2 => first | with_reducible assumption | exact rfl | assumption); k_whole))
  | ((with_reducible show wpAny _ _ (eval (PySem.Expr.Name (Str.ofString "text") _) _) _ _ _); k_dflt (refine' nm_loc ?k1 ?k2 (by kernel_rfl) (by kernel_rfl) ?_; (case k1 => k_asm); (case k2 => first | with_reducible assumption | exact rfl | assumption); k_whole))
  | ((with_reducible show wpAny _ _ (eval (PySem.Expr.Name (Str.ofString "strokes") _) _) _ _ _); k_dflt (refine' nm_loc ?k1 ?k2 (by kernel_rfl) (by kernel_rfl) ?_; (case k1 => k_asm); (case k2 => first | with_reducible assumption | exact rfl | assumption); k_whole))
  | ((with_reducible show wpAny _ _ (eval (PySem.Expr.Name (Str.ofString "due") _) _) _ _ _); k_dflt (refine' nm_loc ?k1 ?k2 (by kernel_rfl) (by kernel_rfl) ?_; (case k1 => k_asm); (case k2 => first | with_reducible assumption | exact rfl | assumption); k_whole))))
local macro_rules | `(tactic| walk_at "storeName") => `(tactic| (k_here; first
  | ((with_reducible show wpAny _ _ (storeName _ (Str.ofString "groups") _) _ _ _); k_dflt (refine' sv_loc ?F ?N (by kernel_rfl) ?_; (case F => k_asm); (case N => k_asm); k_whole); intro h' F' N'; (try k_sweep))
  | ((with_reducible show wpAny _ _ (storeName _ (Str.ofString "told") _) _ _ _); k_dflt (refine' sv_loc ?F ?N (by kernel_rfl) ?_; (case F => k_asm); (case N => k_asm); k_whole); intro h' F' N'; (try k_sweep))
  | ((with_reducible show wpAny _ _ (storeName _ (Str.ofString "text") _) _ _ _); k_dflt (refine' sv_loc ?F ?N (by kernel_rfl) ?_; (case F => k_asm); (case N => k_asm); k_whole); intro h' F' N'; (try k_sweep))
  | ((with_reducible show wpAny _ _ (storeName _ (Str.ofString "strokes") _) _ _ _); k_dflt (refine' sv_loc ?F ?N (by kernel_rfl) ?_; (case F => k_asm); (case N => k_asm); k_whole); intro h' F' N'; (try k_sweep))
  | ((with_reducible show wpAny _ _ (storeName _ (Str.ofString "due") _) _ _ _); k_dflt (refine' sv_loc ?F ?N (by kernel_rfl) ?_; (case F => k_asm); (case N => k_asm); k_whole); intro h' F' N'; (try k_sweep))))
set_option maxHeartbeats 4000000 in
theorem law_c {p : Program} {w : World} {loose : List Str} {mean : ExcName → Option Value} {mg mb : Str → Option Value} (gs fs : List (List Nat)) (SL OL : List Nat) (gcs : List Cell) (gk : Nat) (fv : List Value) (fk : Nat) (hg : CellsAre gcs gs) (hf : StrsAre fv (fs.map ofL)) (hl : gs.length = fs.length) (hfo : FOk fs) (hsz : szG gs fs ≤ 400) (h25 : gs.length ≤ 100)
    (G Fo SU OD TO : Addr) (su od : List Value) (sk ok : Nat) (hsu : IntsAre su (SL.map fun n : Nat => (n : Int))) (hod : IntsAre od (OL.map fun n : Nat => (n : Int))) (hSL : SL = gs.map List.sum) (hOL : OL = gs.map oddN) (t1 t2 t3 t4 : Tok) (tk : Nat) (T : List (Addr × Obj)) (o1 o2 o3 : Obj)
    (dp un : Nat) (gd : Option (List Code)) (a : Addr) (ccd : Value) (outer : List Env) (A₀ : Around) (base h₀ : Heap) (L : Addr) (m : Str → Option Value) (s : Shared) (Q : Flow → Shared → Prop) (E : Value → Shared → Prop)
    (hB : Below A₀ base outer h₀) (F : Fr h₀ L s.heap m) (X : (KF w.params).In h₀) (Tt : Top p loose mean mg mb h₀)
    (N : News h₀ L s.heap ((TO, listOf #[.str (ofL (marks gs fs)) t1, .str (ofL (marks (SL.map fun x => [x]) fs)) t2, .str (ofL (told3 gs fs)) t3, .str (ofL (told4 SL fs)) t4] tk) :: T))
    (mG : (G, listOf (gcs.map cref).toArray gk) ∈ T) (mF : (Fo, listOf fv.toArray fk) ∈ T) (mC : ∀ c ∈ gcs, cellO c ∈ T) (mS : (SU, listOf su.toArray sk) ∈ T) (mO : (OD, listOf od.toArray ok) ∈ T) (c1 : (L + 1, o1) ∈ T) (c2 : (L + 1 + 1, o2) ∈ T) (c3 : (L + 1 + 1 + 1, o3) ∈ T)
    (d1 : o1.data = .cell (some (.ref Fo))) (d2 : o2.data = .cell (some (.ref SU))) (d3 : o3.data = .cell (some (.ref OD)))
    (hdp : dp + 16 < recursionLimit) (hun : un + 400 < cLine) (e1 : m (Str.ofString "groups") = some (.ref G)) (e2 : m (Str.ofString "told") = some (.ref TO))
    (hQ : ∀ h' tk' m' news', Fr h₀ L h' m' → News h₀ L h' news' → (∀ p ∈ T, p ∈ news') → Q (.ret (.bool true)) { s with heap := h', toks := tk' }) (hE : PassesOwn (model pw w) (lawT2 dp un gd L a ccd outer) (envOfC (Str.ofString "law") (fS st19) L a ccd) E) :
    wpAny (model pw w) (lawT2 dp un gd L a ccd outer) (execs lawC (envOfC (Str.ofString "law") (fS st19) L a ccd)) Q E s := by
  refine @wpAny_retok _ _ _ _ _ _ _ _ _ ?_; intro tk9
  have hl1 := hg.len
  have hfl : fv.length = fs.length := by rw [hf.length, List.length_map]
  have hl2 : SL.length = gs.length := by rw [hSL, List.length_map]
  have hl3 : OL.length = gs.length := by rw [hOL, List.length_map]
  k_steps
  all_goals try k_data
  · refine Stop.of ?_
    refine' c_marks G Fo gcs gk fv fk gs fs hg hf hl hsz h25 _ ?mG ?mF ?mC _ _ _ _ _ _ _ _ _ _ _ _ _ _ _ _ _ ?k1 ?k2 ?k3 ?k4 ?k5 ?kK ?kd ?ku ?kR
    case k1 => k_asm
    case k2 => k_asm
    case k3 => k_asm
    case k4 => k_asm
    case k5 => k_asm
    case kK => exact rfl
    case kd => ktr_room
    case ku => ktr_units
    case mG => exact .tail _ mG
    case mF => exact .tail _ mF
    case mC => exact fun c hc => ⟨_, .tail _ (mC c hc)⟩
    case kR =>
      intro q9 h9 tk9 p9 F9 N9
      dsimp only
      k_steps
      all_goals try k_data
      refine SrcV.ledger (its := su.toArray) (k := sk) (by rfl) (by k_asm) (by k_asm) (.tail _ mS) ?hsz fun g5 => ?_
      case hsz => have := hsu.length; simp at this; rw [List.size_toArray, sizeLine_eq]; omega
      rw [show su.toArray.size = SL.length by rw [List.size_toArray, hsu.length, List.length_map]]
      refine compRest_one hsu (fun nw hnw => .inr ⟨_, hnw _ (.tail _ mS), rfl, _, rfl⟩) ?turn _ 0 [] _ rfl .nil (fun c hc => (nomatch hc)) (fun p hp => hp) ?fin
      case turn =>
        intro c u ys I oI C oC D m₂ h tk E' nw hC hm₂ F5 N5 off ne
        k_steps
        all_goals first | assumption | k_asm
      case fin =>
        intro cs nw hcs hc1 hc2 D h tk F6 N6 O6
        have mT := hc2 _ (.head _)
        have mG := hc2 _ (.tail _ mG)
        have mF := hc2 _ (.tail _ mF)
        have mC : ∀ c ∈ gcs, cellO c ∈ nw := fun c hc => hc2 _ (.tail _ (mC c hc))
        have mS := hc2 _ (.tail _ mS)
        have mO := hc2 _ (.tail _ mO)
        have c1 := hc2 _ (.tail _ c1)
        have c2 := hc2 _ (.tail _ c2)
        have c3 := hc2 _ (.tail _ c3)
        k_steps
        refine Stop.of ?_
        refine' c_marks D Fo cs (cs.map cref).length fv fk (SL.map fun x => [x]) fs hcs hf (by rw [List.length_map]; omega) (by rw [szG_one hSL]; exact hsz) (by rw [List.length_map]; omega) _ ?mG ?mF ?mC _ _ _ _ _ _ _ _ _ _ _ _ _ _ _ _ _ ?k1 ?k2 ?k3 ?k4 ?k5 ?kK ?kd ?ku ?kR
        case k1 => k_asm
        case k2 => k_asm
        case k3 => k_asm
        case k4 => k_asm
        case k5 => k_asm
        case kK => exact rfl
        case kd => ktr_room
        case ku => ktr_units
        case mG => exact .head _
        case mF => exact .tail _ mF
        case mC => exact fun c hc => ⟨_, .tail _ (hc1 c hc)⟩
        case kR =>
          intro q8 h8 tk8 p8 F8 N8
          dsimp only
          k_steps
          have turnF := turn_at hl hSL hOL hsz
          refine CompSrc.range (n := fs.length) (by rfl) (by k_asm) (by k_asm) (by assumption) (rs_small _ (by omega)) (rs_one _) (by rw [sizeLine_eq]; omega) fun g9 => ?_
          dsimp only
          refine compRest_out fs.length (fun i v => ∃ t, v = Value.str (x3 gs fs i) t) trivial ?turn3 fs.length 0 [] rfl rfl (fun j v h => by simp at h) ?fin3
          case turn3 =>
            rintro i v ys I oI C oC D3 m₂ h tk E' hi ⟨t5, rfl⟩ hC hm₂ F5 N5 off ne
            rw [Int.zero_add] at hm₂
            obtain ⟨g, f, h1, h2, h3, h4, h5, h6⟩ := turnF i hi
            obtain ⟨ts, hts⟩ := ints_getR hsu (i := i) (c := (g.sum : Int)) (by rw [List.getElem?_map, h3]; rfl)
            obtain ⟨to, hto⟩ := ints_getR hod (i := i) (c := (oddN g : Int)) (by rw [List.getElem?_map, h4]; rfl)
            obtain ⟨tf, htf⟩ := strs_get hf (i := i) (x := ofL f) (by rw [List.getElem?_map, h2]; rfl)
            have h7 := odd_le g
            k_steps
            all_goals first | (rw [x3_eq h1 h2]; done) | k_asm | k_data
          case fin3 =>
            intro ys hlen hys D3 h tk F6 N6 O6
            obtain ⟨o61, o62⟩ := O6
            dsimp only at o61
            k_steps
            have hys2 := strs_of (f := x3 gs fs) hys
            rw [hlen] at hys2
            refine join_list (News.isList N6 (.head _)) hys2 (by
              have h9 := sum3 gs fs hl
              have h8 := told3_len gs fs
              show (List.map _ _).sum + _ * 0 ≤ _
              omega) fun t' k => ?_
            rw [show Txt.join (Str.ofString "") ((List.range fs.length).map (x3 gs fs)) = ofL (told3 gs fs) from join3 gs fs hl]
            k_steps
            refine CompSrc.range (n := fs.length) (by rfl) (by k_asm) (by k_asm) (by assumption) (rs_small _ (by omega)) (rs_one _) (by rw [sizeLine_eq]; omega) fun g9 => ?_
            dsimp only
            refine compRest_out fs.length (fun i v => ∃ t, v = Value.str (x4 SL fs i) t) trivial ?turn4 fs.length 0 [] rfl rfl (fun j v h => by simp at h) ?fin4
            case turn4 =>
              rintro i v ys I oI C oC D3 m₂ h tk E' hi ⟨t5, rfl⟩ hC hm₂ F5 N5 off ne
              rw [Int.zero_add] at hm₂
              obtain ⟨g, f, h1, h2, h3, h4, h5, h6⟩ := turnF i hi
              obtain ⟨ts, hts⟩ := ints_getR hsu (i := i) (c := (g.sum : Int)) (by rw [List.getElem?_map, h3]; rfl)
              obtain ⟨tf, htf⟩ := strs_get hf (i := i) (x := ofL f) (by rw [List.getElem?_map, h2]; rfl)
              k_steps
              all_goals first | (rw [x4_eq h3 h2]; done) | k_asm | k_data
            case fin4 =>
              intro ys hlen hys D4 h tk F6 N6 O6
              obtain ⟨o71, o72, o73⟩ := O6
              dsimp only at o71 o72
              k_steps
              have hys2 := strs_of (f := x4 SL fs) hys
              rw [hlen] at hys2
              refine join_list (News.isList N6 (.head _)) hys2 (by
                have h9 := sum4 SL fs (by omega)
                have h8 := told4_len SL fs
                have h7 : SL.sum + (fs.map List.length).sum ≤ 400 := by rw [hSL]; exact hsz
                show (List.map _ _).sum + _ * 0 ≤ _
                omega) fun t' k => ?_
              rw [show Txt.join (Str.ofString "") ((List.range fs.length).map (x4 SL fs)) = ofL (told4 SL fs) from join4 SL fs (by omega)]
              k_steps
              exact hQ _ _ _ _ (by k_asm) (by k_asm) fun p hp => .tail _ (.tail _ (.tail _ (.tail _ (hc2 p (.tail _ hp)))))
end

theorem mem_swap {x : Addr × Obj} {l R : List (Addr × Obj)} : ∀ p ∈ l ++ x :: R, p ∈ x :: (l ++ R) := by
  intro p hp
  rcases List.mem_append.mp hp with h | h
  · exact .tail _ (List.mem_append_left _ h)
  · rcases List.mem_cons.mp h with rfl | h
    · exact .head _
    · exact .tail _ (List.mem_append_right _ h)
theorem mem_swap' {x : Addr × Obj} {l R : List (Addr × Obj)} : ∀ p ∈ x :: (l ++ R), p ∈ l ++ x :: R := by
  intro p hp
  rcases List.mem_cons.mp hp with rfl | h
  · exact List.mem_append_right _ (.head _)
  · rcases List.mem_append.mp h with h | h
    · exact List.mem_append_left _ h
    · exact List.mem_append_right _ (.tail _ h)
theorem code_off {h₀ h : Heap} {L c TO : Addr} {oc : Obj} {its : Array Value} {k : Nat} {nw : List (Addr × Obj)} (N : News h₀ L h nw) (h1 : (c, oc) ∈ nw) (h2 : (TO, listOf its k) ∈ nw) (hc : CodeOk oc) : c ≠ TO := by
  rintro rfl
  have e := (N _ h1).1.symm.trans (N _ h2).1
  obtain ⟨vs, t, hd, _⟩ := hc
  have e' : oc = listOf its k := Option.some.inj e
  rw [e'] at hd
  cases hd
theorem tabL_off {h₀ h : Heap} {L TO : Addr} {its : Array Value} {k : Nat} {l R : List (Addr × Obj)} (hl : TabL l) (N : News h₀ L h (l ++ (TO, listOf its k) :: R)) (hT : @LT.lt Nat _ 166 TO) (hR : ∀ p ∈ R, p.1 ≠ TO) : ∀ p ∈ l ++ R, p.1 ≠ TO := by
  intro p hp
  rcases List.mem_append.mp hp with h | h
  · have hm : (TO, listOf its k) ∈ l ++ (TO, listOf its k) :: R := List.mem_append_right _ (.head _)
    have hpn := List.mem_append_left ((TO, listOf its k) :: R) h
    rcases hl with rfl | ⟨c2, c1, o2, o1, k2, k1, rfl⟩
    · rw [List.mem_singleton.mp h]; exact Nat.ne_of_lt hT
    · simp only [List.mem_cons, List.not_mem_nil, or_false] at h
      rcases h with rfl | rfl | rfl
      · exact Nat.ne_of_lt hT
      · exact code_off N hpn hm k2
      · exact code_off N hpn hm k1
  · exact hR p h
theorem prep_ofL (P : Params) (l : List Nat) : prep P (ofL l) = ofL (prepL P l) := by unfold prep; rw [ofL_ls]; rfl
def lawB : List Stmt := (fB st19).drop 4
theorem c_nameL {p : Program} {w : World} {loose : List Str} {mean : ExcName → Option Value} {mg mb : Str → Option Value} (news : List (Addr × Obj)) (l : List Nat) (t : Tok) (hl : l.length ≤ 10000) :
   Cl pw w (KF w.params) p loose mean mg mb 185 3 32 news [.str (ofL l) t] (fun _ : Tok => True) (fun t => .str (ofL (p257 l)) t) (fun _ => news) := c_name news l t hl
theorem c_prepL {p : Program} {w : World} {loose : List Str} {mean : ExcName → Option Value} {mg mb : Str → Option Value} (news : List (Addr × Obj)) (l : List Nat) (t : Tok) (hl : l.length ≤ 10000) :
   Cl pw w (KF w.params) p loose mean mg mb 164 3 16 news [.str (ofL l) t] (fun _ : Tok => True) (fun t => .str (ofL (prepL w.params l)) t) (fun _ => news) := by
  have h := c_prep (p := p) (w := w) (loose := loose) (mean := mean) (mg := mg) (mb := mb) news (ofL l) t (by show (ofL l).length ≤ _; rw [ofL_len]; omega)
  rw [prep_ofL] at h
  exact h
theorem c_wordL {p : Program} {w : World} {loose : List Str} {mean : ExcName → Option Value} {mg mb : Str → Option Value} (l news : List (Addr × Obj)) (hl : TabL l) (cur : List Nat) (t : Tok) (hok : ∀ c ∈ cur, TokOk c) (hlen : cur.length ≤ 100000) (h166 : ∀ p ∈ news, p.1 ≠ 166) :
   ClH (fun h => CodeHd h 170 166) pw w (KF w.params) p loose mean mg mb 178 8 200 (l ++ news) [.str (ofL cur) t] (fun q : Tok × List (Addr × Obj) => TabL q.2) (fun q => .str (ofL (tokOf cur).1) q.1) (fun q => q.2 ++ news) := c_word l news hl cur t hok hlen h166
theorem mem_swap1 {x : Addr × Obj} {R : List (Addr × Obj)} : ∀ p ∈ [((166 : Addr), tabObj #[])] ++ x :: R, p ∈ x :: (166, tabObj #[]) :: R := mem_swap (l := [(166, tabObj #[])])
theorem news_swap1 {h₀ h : Heap} {L : Addr} {x : Addr × Obj} {R : List (Addr × Obj)} (N : News h₀ L h (x :: (166, tabObj #[]) :: R)) : News h₀ L h ([((166 : Addr), tabObj #[])] ++ x :: R) := news_sb N mem_swap1
theorem news_swap {h₀ h : Heap} {L : Addr} {x : Addr × Obj} {l R : List (Addr × Obj)} (N : News h₀ L h (x :: (l ++ R))) : News h₀ L h (l ++ x :: R) := news_sb N mem_swap
theorem first_addr {h₀ h : Heap} {L a : Addr} {o : Obj} {l : List (Addr × Obj)} (_N : News h₀ L h ((a, o) :: l)) : ∃ b : Addr, b = a := ⟨a, rfl⟩

section
open LCg LCt
local macro_rules | `(tactic| walk_at "eval Name") => `(tactic| (k_here; first
  | ((with_reducible show wpAny _ _ (eval (PySem.Expr.Name (Str.ofString "folds") _) _) _ _ _); k_dflt (refine' nm_folds ?N ?m ?d ?_; (case N => k_asm); (case m => k_mem); (case d => assumption)))
  | ((with_reducible show wpAny _ _ (eval (PySem.Expr.Name (Str.ofString "sums") _) _) _ _ _); k_dflt (refine' nm_sums ?N ?m ?d ?_; (case N => k_asm); (case m => k_mem); (case d => assumption)))
  | ((with_reducible show wpAny _ _ (eval (PySem.Expr.Name (Str.ofString "odd") _) _) _ _ _); k_dflt (refine' nm_odd ?N ?m ?d ?_; (case N => k_asm); (case m => k_mem); (case d => assumption)))
  | ((with_reducible show wpAny _ _ (eval (PySem.Expr.Name (Str.ofString "groups") _) _) _ _ _); k_dflt (refine' nm_loc ?k1 ?k2 (by kernel_rfl) (by kernel_rfl) ?_; (case k1 => k_asm); (case k2 => first | with_reducible assumption | exact rfl | assumption); k_whole))
  | ((with_reducible show wpAny _ _ (eval (PySem.Expr.Name (Str.ofString "told") _) _) _ _ _); k_dflt (refine' nm_loc ?k1 ?k2 (by kernel_rfl) (by kernel_rfl) ?_; (case k1 => k_asm); (case k2 => first | with_reducible assumption | exact rfl | assumption); k_whole))
  | ((with_reducible show wpAny _ _ (eval (PySem.Expr.Name (Str.ofString "text") _) _) _ _ _); k_dflt (refine' nm_loc ?k1 ?k2 (by kernel_rfl) (by kernel_rfl) ?_; (case k1 => k_asm); (case k2 => first | with_reducible assumption | exact rfl | assumption); k_whole))
  | ((with_reducible show wpAny _ _ (eval (PySem.Expr.Name (Str.ofString "strokes") _) _) _ _ _); k_dflt (refine' nm_loc ?k1 ?k2 (by kernel_rfl) (by kernel_rfl) ?_; (case k1 => k_asm); (case k2 => first | with_reducible assumption | exact rfl | assumption); k_whole))
  | ((with_reducible show wpAny _ _ (eval (PySem.Expr.Name (Str.ofString "due") _) _) _ _ _); k_dflt (refine' nm_loc ?k1 ?k2 (by kernel_rfl) (by kernel_rfl) ?_; (case k1 => k_asm); (case k2 => first | with_reducible assumption | exact rfl | assumption); k_whole))))
local macro_rules | `(tactic| walk_at "storeName") => `(tactic| (k_here; first
  | ((with_reducible show wpAny _ _ (storeName _ (Str.ofString "groups") _) _ _ _); k_dflt (refine' sv_loc ?F ?N (by kernel_rfl) ?_; (case F => k_asm); (case N => k_asm); k_whole); intro h' F' N'; (try k_sweep))
  | ((with_reducible show wpAny _ _ (storeName _ (Str.ofString "told") _) _ _ _); k_dflt (refine' sv_loc ?F ?N (by kernel_rfl) ?_; (case F => k_asm); (case N => k_asm); k_whole); intro h' F' N'; (try k_sweep))
  | ((with_reducible show wpAny _ _ (storeName _ (Str.ofString "text") _) _ _ _); k_dflt (refine' sv_loc ?F ?N (by kernel_rfl) ?_; (case F => k_asm); (case N => k_asm); k_whole); intro h' F' N'; (try k_sweep))
  | ((with_reducible show wpAny _ _ (storeName _ (Str.ofString "strokes") _) _ _ _); k_dflt (refine' sv_loc ?F ?N (by kernel_rfl) ?_; (case F => k_asm); (case N => k_asm); k_whole); intro h' F' N'; (try k_sweep))
  | ((with_reducible show wpAny _ _ (storeName _ (Str.ofString "due") _) _ _ _); k_dflt (refine' sv_loc ?F ?N (by kernel_rfl) ?_; (case F => k_asm); (case N => k_asm); k_whole); intro h' F' N'; (try k_sweep))))
local macro_rules | `(tactic| walk_at "call ref") => `(tactic| (k_here; refine Stop.out ?_))
local macro_rules | `(tactic| walk_at "execs cons") => `(tactic| (k_here; (with_reducible show wpAny _ _ (execs (Stmt.Assign [PySem.Expr.Name (Str.ofString "due") _] _ _ :: _) _) _ _ _); refine Stop.out ?_))
set_option maxHeartbeats 2000000 in
theorem law_b {p : Program} {w : World} {loose : List Str} {mean : ExcName → Option Value} {mg mb : Str → Option Value} (gs fs : List (List Nat)) (SL OL : List Nat) (gcs : List Cell) (gk : Nat) (fv : List Value) (fk : Nat) (hg : CellsAre gcs gs) (hf : StrsAre fv (fs.map ofL)) (hl : gs.length = fs.length) (hfo : FOk fs) (hsz : szG gs fs ≤ 400) (h25 : gs.length ≤ 100)
    (tx sx : List Nat) (hx1 : tx.length ≤ 100) (hx2 : sx.length ≤ 100) (hx3 : (p257 tx).length ≤ 1000) (hx4 : (prepL w.params tx).length ≤ 1000) (hx5 : (tokOf sx).1.length ≤ 1000) (hx6 : (prepL w.params sx).length ≤ 1000) (hk1 : ∀ c ∈ sx, TokOk c) (hk2 : ∀ c ∈ prepL w.params sx, TokOk c)
    (v1 : prepL w.params (p257 tx) = marks gs fs) (v2 : p257 (prepL w.params tx) = marks (SL.map fun x => [x]) fs) (v3 : prepL w.params (tokOf sx).1 = told3 gs fs) (v4 : (tokOf (prepL w.params sx)).1 = told4 SL fs)
    (G Fo SU OD : Addr) (su od : List Value) (sk ok : Nat) (hsu : IntsAre su (SL.map fun n : Nat => (n : Int))) (hod : IntsAre od (OL.map fun n : Nat => (n : Int))) (hSL : SL = gs.map List.sum) (hOL : OL = gs.map oddN) (R : List (Addr × Obj)) (o1 o2 o3 : Obj)
    (dp un : Nat) (gd : Option (List Code)) (a : Addr) (ccd : Value) (outer : List Env) (A₀ : Around) (base h₀ : Heap) (L : Addr) (m : Str → Option Value) (s : Shared) (Q : Flow → Shared → Prop) (E : Value → Shared → Prop)
    (hB : Below A₀ base outer h₀) (F : Fr h₀ L s.heap m) (X : (KF w.params).In h₀) (Tt : Top p loose mean mg mb h₀) (hC : CodeHd base 170 166)
    (N : News h₀ L s.heap ((166, tabObj #[]) :: R)) (hR : ∀ p ∈ R, p.1 ≠ 166)
    (mG : (G, listOf (gcs.map cref).toArray gk) ∈ R) (mF : (Fo, listOf fv.toArray fk) ∈ R) (mC : ∀ c ∈ gcs, cellO c ∈ R) (mS : (SU, listOf su.toArray sk) ∈ R) (mO : (OD, listOf od.toArray ok) ∈ R) (c1 : (L + 1, o1) ∈ R) (c2 : (L + 1 + 1, o2) ∈ R) (c3 : (L + 1 + 1 + 1, o3) ∈ R)
    (d1 : o1.data = .cell (some (.ref Fo))) (d2 : o2.data = .cell (some (.ref SU))) (d3 : o3.data = .cell (some (.ref OD)))
    (hdp : dp + 16 < recursionLimit) (hun : un + 400 < cLine) (e1 : m (Str.ofString "groups") = some (.ref G)) (t1 t2 : Tok) (e2 : m (Str.ofString "text") = some (.str (ofL tx) t1)) (e3 : m (Str.ofString "strokes") = some (.str (ofL sx) t2))
    (hQ : ∀ h' tk' m' news', Fr h₀ L h' m' → News h₀ L h' news' → (∃ ps, ((166 : Addr), tabObj ps) ∈ news') → Q (.ret (.bool true)) { s with heap := h', toks := tk' }) (hE : PassesOwn (model pw w) (lawT2 dp un gd L a ccd outer) (envOfC (Str.ofString "law") (fS st19) L a ccd) E) :
    wpAny (model pw w) (lawT2 dp un gd L a ccd outer) (execs lawB (envOfC (Str.ofString "law") (fS st19) L a ccd)) Q E s := by
  refine @wpAny_retok _ _ _ _ _ _ _ _ _ ?_; intro tk9
  k_steps
  refine Stop.of ?_
  refine' c_nameL _ tx _ (by omega) _ _ _ _ _ _ _ _ _ _ _ _ _ _ _ _ _ ?k1 ?k2 ?k3 ?k4 ?k5 ?kK ?kd ?ku ?kR
  case k1 => k_asm
  case k2 => k_asm
  case k3 => k_asm
  case k4 => k_asm
  case k5 => k_asm
  case kK => exact rfl
  case kd => ktr_room
  case ku => ktr_units
  case kR =>
    intro q1 h1 tk1 p1 F1 N1
    dsimp only at N1 ⊢
    k_steps
    refine Stop.of ?_
    refine' c_prepL _ (p257 tx) _ (by omega) _ _ _ _ _ _ _ _ _ _ _ _ _ _ _ _ _ ?k1 ?k2 ?k3 ?k4 ?k5 ?kK ?kd ?ku ?kR
    case k1 => k_asm
    case k2 => k_asm
    case k3 => k_asm
    case k4 => k_asm
    case k5 => k_asm
    case kK => exact rfl
    case kd => ktr_room
    case ku => ktr_units
    case kR =>
      intro q2 h2 tk2 p2 F2 N2
      dsimp only at N2 ⊢
      rw [v1]
      k_steps
      refine Stop.of ?_
      refine' c_prepL _ tx _ (by omega) _ _ _ _ _ _ _ _ _ _ _ _ _ _ _ _ _ ?k1 ?k2 ?k3 ?k4 ?k5 ?kK ?kd ?ku ?kR
      case k1 => k_asm
      case k2 => k_asm
      case k3 => k_asm
      case k4 => k_asm
      case k5 => k_asm
      case kK => exact rfl
      case kd => ktr_room
      case ku => ktr_units
      case kR =>
        intro q3 h3 tk3 p3 F3 N3
        dsimp only at N3 ⊢
        k_steps
        refine Stop.of ?_
        refine' c_nameL _ (prepL w.params tx) _ (by omega) _ _ _ _ _ _ _ _ _ _ _ _ _ _ _ _ _ ?k1 ?k2 ?k3 ?k4 ?k5 ?kK ?kd ?ku ?kR
        case k1 => k_asm
        case k2 => k_asm
        case k3 => k_asm
        case k4 => k_asm
        case k5 => k_asm
        case kK => exact rfl
        case kd => ktr_room
        case ku => ktr_units
        case kR =>
          intro q4 h4 tk4 p4 F4 N4
          dsimp only at N4 ⊢
          rw [v2]
          k_steps
          rename (@LT.lt Nat _ 166 _ ∧ AllLt _ R) => aT
          rename News _ _ _ ((_, listOf _ _) :: (166, tabObj #[]) :: R) => kN
          obtain ⟨TO, hTO⟩ := first_addr kN
          subst hTO
          have hT : @LT.lt Nat _ 166 TO := aT.1
          have hRT : ∀ p ∈ R, p.1 ≠ TO := fun p hp => Nat.ne_of_lt (allLt_mem aT.2 p hp)
          refine Stop.of ?_
          refine' c_wordL [(166, tabObj #[])] ((TO, listOf #[.str (ofL (marks gs fs)) q2, .str (ofL (marks (SL.map fun x => [x]) fs)) q4] 0) :: R) (.inl rfl) sx _ hk1 (by omega) ?h166 _ _ _ _ _ _ _ _ _ _ _ _ _ _ _ _ _ ?k1 ?k2 ?k3 ?k4 ?k5 ?kK ?kp ?kd ?ku ?kR
          case k1 => k_asm
          case k2 => k_asm
          case k3 => k_asm
          case k4 => exact news_swap1 kN
          case h166 => exact fun p hp => by rcases List.mem_cons.mp hp with rfl | hp; exact Nat.ne_of_gt hT; exact hR p hp
          case k5 => k_asm
          case kK => exact rfl
          case kp => assumption
          case kd => ktr_room
          case ku => ktr_units
          case kR =>
            intro q5 h5 tk5 p5 F5 N5
            dsimp only at N5 ⊢
            have hT1 := tabL_off p5 N5 hT hRT
            replace N5 := news_sb N5 mem_swap'
            obtain ⟨T1, hT1e⟩ : ∃ T, T = q5.2 ++ R := ⟨_, rfl⟩
            rw [← hT1e] at N5 hT1
            k_steps
            refine Stop.of ?_
            refine' c_prepL _ (tokOf sx).1 _ (by omega) _ _ _ _ _ _ _ _ _ _ _ _ _ _ _ _ _ ?k1 ?k2 ?k3 ?k4 ?k5 ?kK ?kd ?ku ?kR
            case k1 => k_asm
            case k2 => k_asm
            case k3 => k_asm
            case k4 => k_asm
            case k5 => k_asm
            case kK => exact rfl
            case kd => ktr_room
            case ku => ktr_units
            case kR =>
              intro q6 h6 tk6 p6 F6 N6
              dsimp only at N6 ⊢
              rw [v3]
              k_steps
              refine Stop.of ?_
              refine' c_prepL _ sx _ (by omega) _ _ _ _ _ _ _ _ _ _ _ _ _ _ _ _ _ ?k1 ?k2 ?k3 ?k4 ?k5 ?kK ?kd ?ku ?kR
              case k1 => k_asm
              case k2 => k_asm
              case k3 => k_asm
              case k4 => k_asm
              case k5 => k_asm
              case kK => exact rfl
              case kd => ktr_room
              case ku => ktr_units
              case kR =>
                intro q7 h7 tk7 p7 F7 N7
                dsimp only at N7 ⊢
                k_steps
                rename News _ _ _ ((_, listOf _ _) :: T1) => kN
                subst hT1e
                refine Stop.of ?_
                refine' c_wordL q5.2 ((TO, listOf (#[.str (ofL (marks gs fs)) q2, .str (ofL (marks (SL.map fun x => [x]) fs)) q4].push (.str (ofL (told3 gs fs)) q6)) (0 + 1)) :: R) p5 (prepL w.params sx) _ hk2 (by omega) ?h166b _ _ _ _ _ _ _ _ _ _ _ _ _ _ _ _ _ ?k1 ?k2 ?k3 ?k4 ?k5 ?kK ?kp ?kd ?ku ?kR
                case k1 => k_asm
                case k2 => k_asm
                case k3 => k_asm
                case k4 => exact news_swap kN
                case h166b => exact fun p hp => by rcases List.mem_cons.mp hp with rfl | hp; exact Nat.ne_of_gt hT; exact hR p hp
                case k5 => k_asm
                case kK => exact rfl
                case kp => assumption
                case kd => ktr_room
                case ku => ktr_units
                case kR =>
                  intro q8 h8 tk8 p8 F8 N8
                  dsimp only at N8 ⊢
                  rw [v4]
                  have hT2 := tabL_off p8 N8 hT hRT
                  replace N8 := news_sb N8 mem_swap'
                  obtain ⟨T2, hT2e⟩ : ∃ T, T = q8.2 ++ R := ⟨_, rfl⟩
                  rw [← hT2e] at N8 hT2
                  k_steps
                  refine Stop.of ?_
                  have hRm : ∀ p ∈ R, p ∈ T2 := fun p hp => by rw [hT2e]; exact List.mem_append_right _ hp
                  refine' law_c gs fs SL OL gcs gk fv fk hg hf hl hfo hsz h25 G Fo SU OD _ su od sk ok hsu hod hSL hOL _ _ _ _ _ T2 o1 o2 o3 dp un gd a ccd outer A₀ base h₀ L _ _ Q E hB ?F X Tt ?N (hRm _ mG) (hRm _ mF) (fun c hc => hRm _ (mC c hc)) (hRm _ mS) (hRm _ mO) (hRm _ c1) (hRm _ c2) (hRm _ c3) d1 d2 d3 hdp hun ?e1 ?e2 ?hQ hE
                  case F => k_asm
                  case N => k_asm
                  case e1 => exact e1
                  case e2 => exact rfl
                  case hQ =>
                    intro h' tk' m' news' F' N' hsub
                    obtain ⟨ps, hps⟩ := tabL_mem p8
                    exact hQ h' tk' m' news' F' N' ⟨ps, hsub _ (by rw [hT2e]; exact List.mem_append_left _ hps)⟩
end

-- a sign put for a sign
def put (c d : Nat) (l : List Nat) : List Nat := l.map fun x => if x = c then d else x
theorem put_free (c d : Nat) : ∀ l : List Nat, c ∉ l → put c d l = l
  | [], _ => rfl
  | k :: r, h => by
    have h1 : ¬ k = c := fun e => h (e ▸ List.mem_cons_self ..)
    have ih := put_free c d r fun m => h (List.mem_cons_of_mem _ m)
    show (if k = c then d else k) :: put c d r = _
    rw [if_neg h1, ih]
theorem put_join (c d : Nat) : ∀ parts : List Str, (∀ p ∈ parts, c ∉ p.cps.toList) → put c d (Str.join ⟨#[c]⟩ parts).cps.toList = (Str.join ⟨#[d]⟩ parts).cps.toList
  | [], _ => rfl
  | [p], h => put_free c d _ (h p (List.mem_singleton.mpr rfl))
  | p :: q :: r, h => by
    have ih := put_join c d (q :: r) fun a ha => h a (List.mem_cons_of_mem _ ha)
    show put c d (p ++ ⟨#[c]⟩ ++ Str.join ⟨#[c]⟩ (q :: r)).cps.toList = (p ++ ⟨#[d]⟩ ++ Str.join ⟨#[d]⟩ (q :: r)).cps.toList
    simp only [Str.cps_append, Array.toList_append]
    have ha : ∀ a b : List Nat, put c d (a ++ b) = put c d a ++ put c d b := fun a b => List.map_append
    rw [ha, ha, ih, put_free c d _ (h p (List.mem_cons_self ..))]
    simp [put]
theorem replace_put (x : Str) (c d : Nat) : (Txt.replace x ⟨#[c]⟩ ⟨#[d]⟩).cps.toList = put c d x.cps.toList := by
  rw [StrLaws.replace_one, ← put_join c d _ (StrLaws.split_free x c), StrLaws.join_split]
theorem strokes_eq {P : Params} (pcs : List Pc) (h : ∀ x ∈ pcs, x.Ok P) : Txt.replace (ofL (pcs.map Pc.sign)) (Str.ofString "\"") (Str.ofString "\\") = ofL (pcs.map Pc.stroke) := by
  refine str_ext ?_
  have e1 : Str.ofString "\"" = ⟨#[34]⟩ := rfl
  have e2 : Str.ofString "\\" = ⟨#[92]⟩ := rfl
  rw [e1, e2, replace_put, ofL_ls, ofL_ls]
  unfold put
  rw [List.map_map]
  apply List.map_congr_left
  intro x hx
  have := h x hx
  cases x with
  | q => rfl
  | u c => obtain ⟨_, k2, _⟩ : b1 P c = true ∧ c ≠ 34 ∧ c ≠ 92 := this; simp [Pc.sign, Pc.stroke, k2]
  | l c f => obtain ⟨_, _, k3, _⟩ : b1 P c = false ∧ (b3 c).cps.toList = f ∧ c ≠ 34 ∧ c ≠ 92 ∧ f ≠ [] ∧ ∀ d ∈ f, d ≠ 34 ∧ d ≠ 92 := this; simp [Pc.sign, Pc.stroke, k3]
section
open LCg LCt
variable {prog : Program} {w : World} {A : Around} {E : Value → Shared → Prop} {s : Shared} {h₀ : Heap} {L : Addr} {m : Str → Option Value} {env : Env}
def SrcVT (prog : Program) (w : World) (A : Around) (h₀ : Heap) (L : Addr) (m : Str → Option Value) (env : Env) (ct elt : Expr) (x : Str) (scope : Scope) (cl : List (Str × Addr)) (Q : Value → Shared → Prop) (xv : Value) (s₁ : Shared) : Prop :=
  CompSrcT prog w A h₀ L m env ct elt x scope cl (fun s₂ => FinE h₀ L m s₂ Q) xv s₁
theorem SrcVT.ledger {ct elt : Expr} {x : Str} {scope : Scope} {cl : List (Str × Addr)} {Q : Value → Shared → Prop} {ax : Addr} {its : Array Value} {k : Nat} {news : List (Addr × Obj)}
    (hh : A.handled = none) (F : Fr h₀ L s.heap m) (N : News h₀ L s.heap news) (hm : (ax, listOf its k) ∈ news) (hsz : its.size ≤ sizeLine)
    (h : ∀ g, CompRestT prog w A h₀ L m env ct elt x scope cl { s with heap := g } (SrcAt h₀ ax its) (fun i v => its[i]? = some v) (FinE h₀ L m { s with heap := g } Q) its.size 0 [] news) :
    SrcVT prog w A h₀ L m env ct elt x scope cl Q (.ref ax) s := CompSrcT.ledger (k := k) hh F N hm hsz h
theorem ListComp_VT {ct elt iter : Expr} {x : Str} {px : Pos} {scope : Scope} {cl : List (Str × Addr)} {pos : Pos} {Q : Value → Shared → Prop} (F₀ : Fr h₀ L s.heap m)
    (hclos : closureFor scope env = pure cl) (hcell : ∀ y ∈ scope.names, y.2 ≠ .cell) (hkind : scope.kind = .function)
    (hnames : ∀ y ∈ scope.names, y.2 = .local → scope.names.lookup y.1 = some .local) (hx : scope.names.lookup x = some .local)
    (h : wpAny (model prog w) A (eval iter env) (SrcVT prog w A h₀ L m env ct elt x scope cl Q) E s)
    (hs : ∀ x, foldedSetIterable iter env x = pure x := by intro _; rfl) :
    wpAny (model prog w) A (eval (.ListComp elt [⟨.Name x px, iter, [ct], 0⟩] scope pos) env) Q E s := ListComp_T F₀ hclos hcell hkind hnames hx h hs
theorem compRest_odd {ct elt : Expr} {x : Str} {scope : Scope} {cl : List (Str × Addr)} {its : List Value} {ns : List Nat} {news : List (Addr × Obj)} {S : List (Addr × Obj) → Prop} {Fin : List Value → List (Addr × Obj) → Prop} (hi : IntsAre its (ns.map fun n : Nat => (n : Int))) (hS : S news)
    (turn : ∀ (c : Nat) (u : Tok) (ys : List Value) (I : Addr) (oI : Obj) (C : Addr) (oC : Obj) (D : Addr) (m₂ : Str → Option Value) (h : Heap) (tk : Nat) (E' : Value → Shared → Prop), c ∈ ns → NsObj oC m₂ → m₂ x = some (.int (c : Int) u) → Fr h₀ L h m → News h₀ L h ((I, oI) :: (C, oC) :: (D, lst ys) :: news) → Off3 I C D news → ((@Ne Nat I C) ∧ (@Ne Nat I D) ∧ (@Ne Nat C D)) →
      wpAny (model prog w) A (isTrue ct (compEnvC scope cl C env) (eval ct (compEnvC scope cl C env))) (fun ok s' => if ok = true then
        wpAny (model prog w) A (eval elt (compEnvC scope cl C env)) (fun _ s₂ => c % 2 = 1 ∧ ∃ h' tk', s₂ = { s with heap := h', toks := tk' } ∧ Fr h₀ L h' m ∧ News h₀ L h' ((I, oI) :: (C, oC) :: (D, lst ys) :: news)) E' s'
        else ¬ c % 2 = 1 ∧ ∃ h' tk', s' = { s with heap := h', toks := tk' } ∧ Fr h₀ L h' m ∧ News h₀ L h' ((I, oI) :: (C, oC) :: (D, lst ys) :: news)) E' { s with heap := h, toks := tk }) :
    ∀ (k i : Nat) (ys : List Value), k + i = ns.length → ys.length = oddN (ns.take i) → (∀ ys', ys'.length = oddN ns → Fin ys' news) → CompRestT prog w A h₀ L m env ct elt x scope cl s S (fun i v => its.toArray[i]? = some v) Fin k i ys news
  | 0, i, ys, hk, hl, hF => CompRestT.zero (hF ys (by rw [List.take_of_length_le (by omega)] at hl; exact hl))
  | k + 1, i, ys, hk, hl, hF => CompRestT.succ (by
    intro v I oI C oC D m₂ h tk E' hv hC hx F N off ne
    obtain ⟨c, u, hc, rfl⟩ := ints_get hi hv
    obtain ⟨cn, hcn, rfl⟩ : ∃ cn : Nat, ns[i]? = some cn ∧ (cn : Int) = c := by
      rw [List.getElem?_map] at hc
      cases hgj : ns[i]? with
      | none => rw [hgj] at hc; cases hc
      | some z => rw [hgj] at hc; exact ⟨z, rfl, by simpa using hc⟩
    have hod : oddN (ns.take (i + 1)) = oddN (ns.take i) + if cn % 2 = 1 then 1 else 0 := by
      rw [take_at hcn]; unfold oddN
      rw [List.filter_append, List.length_append]
      by_cases hcc : cn % 2 = 1 <;> simp [hcc]
    refine wpAny_mono (turn cn u ys I oI C oC D m₂ h tk E' (List.mem_of_getElem? hcn) hC hx F N off ne) (fun ok s' ho => ?_) fun _ _ e => e
    cases ok with
    | true =>
      simp only [if_true] at ho ⊢
      refine wpAny_mono ho (fun v s₂ hv => ?_) fun _ _ e => e
      obtain ⟨hkp, h', tk', rfl, F', N'⟩ := hv
      exact CompEnd.intro F' N' news (fun p hp => hp) off hS (compRest_odd hi hS turn k (i + 1) _ (by omega) (by rw [hod, if_pos hkp, List.length_append]; simp [hl]) hF)
    | false =>
      simp only [Bool.false_eq_true, if_false] at ho ⊢
      obtain ⟨hkp, h', tk', rfl, F', N'⟩ := ho
      exact CompEnd.intro F' N' news (fun p hp => hp) off hS (compRest_odd hi hS turn k (i + 1) _ (by omega) (by rw [hod, if_neg hkp]; omega) hF))
end
theorem sum_cast : ∀ g : List Nat, (g.map fun n : Nat => (n : Int)).sum = ((g.sum : Nat) : Int)
  | [] => rfl
  | x :: g => by rw [List.map_cons, List.sum_cons, List.sum_cons, sum_cast g]; omega
def lawA : List Stmt := (fB st19).drop 1
theorem gr_len : ∀ (p : List Pc) (rs : List Nat) (n : Nat), (gr p rs n).1.length ≤ p.length + 1
  | [], _, _ => by simp [gr]
  | .q :: p, rs, n => by have := gr_len p rs (n + 1); simp only [gr, List.length_cons]; omega
  | .u c :: p, rs, n => by have := gr_len p (rs ++ [n]) 0; simp only [gr, List.length_cons]; omega
  | .l c f :: p, rs, n => by have := gr_len p [] 0; simp only [gr, List.length_cons]; omega
theorem gr_len25 {p : List Pc} (h : p.length ≤ 24) : (gr p [] 0).1.length ≤ 25 := by have := gr_len p [] 0; omega
theorem gr_same : ∀ (p : List Pc) (rs : List Nat) (n : Nat), (gr p rs n).1.length = (gr p rs n).2.length
  | [], _, _ => rfl
  | .q :: p, rs, n => by simp only [gr]; exact gr_same p _ _
  | .u c :: p, rs, n => by simp only [gr]; exact gr_same p _ _
  | .l c f :: p, rs, n => by simp only [gr, List.length_cons]; rw [gr_same p]

theorem gr_sum : ∀ (p : List Pc) (rs : List Nat) (n : Nat), ((gr p rs n).1.map List.sum).sum ≤ rs.sum + n + p.length
  | [], rs, n => by simp [gr]
  | .q :: p, rs, n => by have := gr_sum p rs (n + 1); simp only [gr, List.length_cons]; omega
  | .u c :: p, rs, n => by have := gr_sum p (rs ++ [n]) 0; simp only [gr, List.length_cons]; simp at this; omega
  | .l c f :: p, rs, n => by have := gr_sum p [] 0; simp only [gr, List.length_cons, List.map_cons, List.sum_cons]; simp at this ⊢; omega
theorem sum_le3 : ∀ {fs : List (List Nat)}, (∀ f ∈ fs, f.length ≤ 3) → (fs.map List.length).sum ≤ 3 * fs.length
  | [], _ => by simp
  | f :: fs, h => by
    have h1 := h f (.head _)
    have ih := sum_le3 (fs := fs) fun f hf => h f (.tail _ hf)
    simp only [List.map_cons, List.sum_cons, List.length_cons]; omega
theorem szG_le {pcs : List Pc} (h24 : pcs.length ≤ 24) (hf3 : ∀ f ∈ flds pcs, f.length ≤ 3) : szG (gr pcs [] 0).1 (gr pcs [] 0).2 ≤ 400 := by
  have h1 := gr_sum pcs [] 0
  have h2 := sum_le3 hf3
  have h3 := gr_len25 h24
  have h4 := gr_same pcs [] 0
  unfold szG
  rw [flds_gr] at h4 ⊢
  simp at h1
  omega
theorem p257_len : ∀ (l : List Nat), (p257 l).length ≤ l.length
  | [] => by simp [p257]
  | [c] => by unfold p257; split <;> simp
  | c :: d :: r => by
    unfold p257
    split
    · split
      · have := p257_len r; simp; omega
      · simp
    · have := p257_len (d :: r); simp at this ⊢; omega
theorem unq_len : ∀ (l : List Nat), (unq l).length ≤ l.length
  | [] => by rw [unq_n]; simp
  | c :: r => by
    by_cases h : c = 92
    · subst h
      cases r with
      | nil => rw [unq_b0]; simp
      | cons d r => rw [unq_b]; have := unq_len r; simp; omega
    · rw [unq_o h]; have := unq_len r; simp; omega
theorem prepL_len (P : Params) : ∀ (l : List Nat), (prepL P l).length ≤ 8 * l.length
  | [] => by simp [prepL_nil]
  | c :: r => by
    have ih := prepL_len P r
    have h := b3_short c
    have h' : (b3 c).cps.size ≤ 8 := h
    rw [prepL_cons, List.length_append, List.length_cons]
    split <;> simp <;> omega
theorem strokes_no (P : Params) : ∀ (pcs : List Pc), (∀ x ∈ pcs, x.Ok P) → (∀ c ∈ pcs.map Pc.stroke, c ≠ 34) ∧ ∀ c ∈ prepL P (pcs.map Pc.stroke), c ≠ 34
  | [], _ => ⟨fun _ h => (nomatch h), fun _ h => (nomatch h)⟩
  | x :: p, h => by
    obtain ⟨i1, i2⟩ := strokes_no P p fun y hy => h y (.tail _ hy)
    have hx := h x (.head _)
    refine ⟨fun c hc => ?_, fun c hc => ?_⟩
    · rcases List.mem_cons.mp hc with rfl | hc
      · cases x with
        | q => decide
        | u c => exact hx.2.1
        | l c f => exact hx.2.2.1
      · exact i1 c hc
    · rw [List.map_cons, prepL_cons] at hc
      rcases List.mem_append.mp hc with hc | hc
      · cases x with
        | q =>
          have e : (b1 P ((92 : Nat) : Int)) = false := b1_92 P
          simp only [Pc.stroke, e, b3_92] at hc
          simp at hc; omega
        | u c' =>
          have e : b1 P (c' : Int) = true := hx.1
          simp [Pc.stroke, e] at hc
        | l c' f =>
          obtain ⟨k1, k2, k3, k4, k5, k6⟩ : b1 P c' = false ∧ (b3 c').cps.toList = f ∧ c' ≠ 34 ∧ c' ≠ 92 ∧ f ≠ [] ∧ ∀ d ∈ f, d ≠ 34 ∧ d ≠ 92 := hx
          simp only [Pc.stroke, k1, k2] at hc
          simp at hc
          exact (k6 c hc).1
      · exact i2 c hc
theorem prep_tok (P : Params) : ∀ (pcs : List Pc), (∀ x ∈ pcs, x.Ok P) → (∀ f ∈ flds pcs, ∀ c ∈ f, TokOk c) → ∀ c ∈ prepL P (pcs.map Pc.stroke), TokOk c
  | [], _, _, _, h => nomatch h
  | x :: p, h, hf, c, hc => by
    have hx := h x (.head _)
    rw [List.map_cons, prepL_cons] at hc
    rcases List.mem_append.mp hc with hc | hc
    · cases x with
      | q =>
        have e : (b1 P ((92 : Nat) : Int)) = false := b1_92 P
        simp only [Pc.stroke, e, b3_92] at hc
        simp at hc
        subst hc
        unfold TokOk; decide
      | u c' =>
        have e : b1 P (c' : Int) = true := hx.1
        simp [Pc.stroke, e] at hc
      | l c' f =>
        obtain ⟨k1, k2, k3, k4, k5, k6⟩ : b1 P c' = false ∧ (b3 c').cps.toList = f ∧ c' ≠ 34 ∧ c' ≠ 92 ∧ f ≠ [] ∧ ∀ d ∈ f, d ≠ 34 ∧ d ≠ 92 := hx
        simp only [Pc.stroke, k1, k2] at hc
        simp at hc
        exact hf f (by simp [flds]) c hc
    · refine prep_tok P p (fun y hy => h y (.tail _ hy)) (fun f hf' => hf f ?_) c hc
      cases x <;> simp [flds, hf']
theorem range_map {α β : Type} (φ : List α → β) : ∀ (gs : List (List α)) (n : Nat), n = gs.length → (List.range n).map (fun j => φ (gs.getD j [])) = gs.map φ
  | [], _, h => by subst h; rfl
  | g :: gs, _, h => by
    subst h
    rw [List.length_cons, List.range_succ_eq_map, List.map_cons, List.map_map]
    have ih := range_map φ gs _ rfl
    simp only [List.map_cons, List.getD_cons_zero]
    rw [← ih]; rfl
theorem law_vals (P : Params) {pcs : List Pc} (h : ∀ x ∈ pcs, x.Ok P) : prepL P (p257 (pcs.map Pc.sign)) = marks (gr pcs [] 0).1 (gr pcs [] 0).2 ∧ p257 (prepL P (pcs.map Pc.sign)) = marks (((gr pcs [] 0).1.map List.sum).map fun x => [x]) (gr pcs [] 0).2 ∧
    prepL P (tokOf (pcs.map Pc.stroke)).1 = told3 (gr pcs [] 0).1 (gr pcs [] 0).2 ∧ (tokOf (prepL P (pcs.map Pc.stroke))).1 = told4 ((gr pcs [] 0).1.map List.sum) (gr pcs [] 0).2 := by
  obtain ⟨n1, n2⟩ := strokes_no P pcs h
  have e := sm_gr pcs [] 0
  refine ⟨?_, ?_, ?_, ?_⟩
  · have := law_name1 P pcs [] 0 h; simpa [mrun] using this.symm
  · have := law_name2 P pcs 0 h; rw [flds_gr, e]; simpa using this.symm
  · rw [tokOf_unq n1]; have := law_word1 P pcs [] 0 h; simpa [hv] using this.symm
  · rw [tokOf_unq n2, flds_gr, e]; have := law_word2 P pcs 0 h; simpa using this.symm
theorem gr_run : ∀ (p : List Pc) (rs : List Nat) (n : Nat), ∀ g ∈ (gr p rs n).1, g.length ≤ rs.length + 1 + p.length
  | [], rs, n, g, h => by simp [gr] at h; subst h; simp
  | .q :: p, rs, n, g, h => by have := gr_run p rs (n + 1) g (by simpa [gr] using h); simp; omega
  | .u c :: p, rs, n, g, h => by have := gr_run p (rs ++ [n]) 0 g (by simpa [gr] using h); simp at this ⊢; omega
  | .l c f :: p, rs, n, g, h => by
    simp only [gr] at h
    rcases List.mem_cons.mp h with rfl | h
    · simp <;> omega
    · have := gr_run p [] 0 g h; simp at this ⊢; omega
theorem gr_runs {p : List Pc} (h : p.length ≤ 24) {g : List Nat} (hg : g ∈ (gr p [] 0).1) : g.length ≤ 100 := by have := gr_run p [] 0 g hg; simp at this; omega
theorem obj_of {o : Obj} {v : Data} (_h : o.data = v) : ∃ b : Obj, b = o := ⟨o, rfl⟩

section
open LCg LCt
local macro_rules | `(tactic| walk_at "eval ListComp") => `(tactic| (k_here; first | ((with_reducible show wpAny _ _ (eval (PySem.Expr.ListComp _ [⟨_, _, [], _⟩] _ _) _) _ _ _); k_dflt (refine ListComp_V (F₀ := by k_asm) (by with_unfolding_all rfl) (by decide) (by rfl) (by decide) (by rfl) ?_)) | ((with_reducible show wpAny _ _ (eval (PySem.Expr.ListComp _ [⟨_, _, [_], _⟩] _ _) _) _ _ _); k_dflt (refine ListComp_VT (F₀ := by k_asm) (by with_unfolding_all rfl) (by decide) (by rfl) (by decide) (by rfl) ?_))))
local macro_rules | `(tactic| walk_at "call builtin:str.replace") => `(tactic| (k_here; k_dflt (refine SC.replaceW (by assumption) (by assumption) (by assumption) (by kernel_rfl) (by rw [ofL_len]; omega) (by rw [len_b]; decide) ?_); intro _ _; rw [show Txt.replace _ _ _ = _ by assumption]))
local macro_rules | `(tactic| walk_at "execs cons") => `(tactic| (k_here; first | ((with_reducible show wpAny _ _ (execs (Stmt.Assign [PySem.Expr.Name (Str.ofString "told") _] _ _ :: _) _) _ _ _); refine Stop.out ?_) | ((with_reducible refine wpAny_execs_cons ?_); try dsimp only)))
local macro_rules | `(tactic| walk_at "execs nil") => `(tactic| (k_here; refine wpAny_execs_nil ?_))
local macro_rules | `(tactic| walk_at "binaryOp Mod int int") => `(tactic| (k_here; k_dflt (refine mod_nat2 ?_)))
local macro_rules | `(tactic| walk_at "call builtin:sum") => `(tactic| (k_here; k_dflt (refine' LSm.sum_ints ?F ?N ?h ?l ?i ?_; (case F => k_asm); (case N => k_asm); (case h => exact rfl); (case l => exact isl_of (by k_asm) (by k_mem)); (case i => assumption)); intro h' tk' t' F' N'; (try k_sweep)))
local macro_rules | `(tactic| walk_at "call builtin:len") => `(tactic| (k_here; k_dflt (refine len_vals (by k_asm) (by k_mem) (by assumption) (by omega) ?_)))
local macro_rules | `(tactic| walk_at "ite") => `(tactic| (k_here; (first | (refine ite_t (by (first | exact decide_eq_true (by omega) | assumption | exact not_t (by assumption) | exact bne_t (by assumption) | decide)) ?_) | (refine ite_f (by ((refine nt_of ?_; first | exact decide_eq_false (by omega) | assumption | exact not_f (by assumption) | exact bne_f (by assumption) | decide))) ?_))))
local macro_rules | `(tactic| walk_at "eval Name") => `(tactic| (k_here; first
  | ((with_reducible show wpAny _ _ (eval (PySem.Expr.Name (Str.ofString "folds") _) _) _ _ _); k_dflt (refine' nm_folds ?N ?m ?d ?_; (case N => k_asm); (case m => k_mem); (case d => assumption)))
  | ((with_reducible show wpAny _ _ (eval (PySem.Expr.Name (Str.ofString "sums") _) _) _ _ _); k_dflt (refine' nm_sums ?N ?m ?d ?_; (case N => k_asm); (case m => k_mem); (case d => assumption)))
  | ((with_reducible show wpAny _ _ (eval (PySem.Expr.Name (Str.ofString "odd") _) _) _ _ _); k_dflt (refine' nm_odd ?N ?m ?d ?_; (case N => k_asm); (case m => k_mem); (case d => assumption)))
  | ((with_reducible show wpAny _ _ (eval (PySem.Expr.Name (Str.ofString "groups") _) _) _ _ _); k_dflt (refine' nm_loc ?k1 ?k2 (by kernel_rfl) (by kernel_rfl) ?_; (case k1 => k_asm); (case k2 => first | with_reducible assumption | exact rfl | assumption); k_whole))
  | ((with_reducible show wpAny _ _ (eval (PySem.Expr.Name (Str.ofString "told") _) _) _ _ _); k_dflt (refine' nm_loc ?k1 ?k2 (by kernel_rfl) (by kernel_rfl) ?_; (case k1 => k_asm); (case k2 => first | with_reducible assumption | exact rfl | assumption); k_whole))
  | ((with_reducible show wpAny _ _ (eval (PySem.Expr.Name (Str.ofString "text") _) _) _ _ _); k_dflt (refine' nm_loc ?k1 ?k2 (by kernel_rfl) (by kernel_rfl) ?_; (case k1 => k_asm); (case k2 => first | with_reducible assumption | exact rfl | assumption); k_whole))
  | ((with_reducible show wpAny _ _ (eval (PySem.Expr.Name (Str.ofString "strokes") _) _) _ _ _); k_dflt (refine' nm_loc ?k1 ?k2 (by kernel_rfl) (by kernel_rfl) ?_; (case k1 => k_asm); (case k2 => first | with_reducible assumption | exact rfl | assumption); k_whole))
  | ((with_reducible show wpAny _ _ (eval (PySem.Expr.Name (Str.ofString "due") _) _) _ _ _); k_dflt (refine' nm_loc ?k1 ?k2 (by kernel_rfl) (by kernel_rfl) ?_; (case k1 => k_asm); (case k2 => first | with_reducible assumption | exact rfl | assumption); k_whole))))
local macro_rules | `(tactic| walk_at "storeName") => `(tactic| (k_here; first
  | ((with_reducible show wpAny _ _ (storeName _ (Str.ofString "sums") _) _ _ _); k_dflt (refine' sv_sums ?F ?N ?U ?d ?_; (case F => k_asm); (case N => k_asm); (case U => k_updF); (case d => assumption); k_whole); intro h' o' F' N' d'; (try dsimp only at N'); (try k_sweep))
  | ((with_reducible show wpAny _ _ (storeName _ (Str.ofString "odd") _) _ _ _); k_dflt (refine' sv_odd ?F ?N ?U ?d ?_; (case F => k_asm); (case N => k_asm); (case U => k_updF); (case d => assumption); k_whole); intro h' o' F' N' d'; (try dsimp only at N'); (try k_sweep))
  | ((with_reducible show wpAny _ _ (storeName _ (Str.ofString "groups") _) _ _ _); k_dflt (refine' sv_loc ?F ?N (by kernel_rfl) ?_; (case F => k_asm); (case N => k_asm); k_whole); intro h' F' N'; (try k_sweep))
  | ((with_reducible show wpAny _ _ (storeName _ (Str.ofString "told") _) _ _ _); k_dflt (refine' sv_loc ?F ?N (by kernel_rfl) ?_; (case F => k_asm); (case N => k_asm); k_whole); intro h' F' N'; (try k_sweep))
  | ((with_reducible show wpAny _ _ (storeName _ (Str.ofString "text") _) _ _ _); k_dflt (refine' sv_loc ?F ?N (by kernel_rfl) ?_; (case F => k_asm); (case N => k_asm); k_whole); intro h' F' N'; (try k_sweep))
  | ((with_reducible show wpAny _ _ (storeName _ (Str.ofString "strokes") _) _ _ _); k_dflt (refine' sv_loc ?F ?N (by kernel_rfl) ?_; (case F => k_asm); (case N => k_asm); k_whole); intro h' F' N'; (try k_sweep))
  | ((with_reducible show wpAny _ _ (storeName _ (Str.ofString "due") _) _ _ _); k_dflt (refine' sv_loc ?F ?N (by kernel_rfl) ?_; (case F => k_asm); (case N => k_asm); k_whole); intro h' F' N'; (try k_sweep))))
set_option maxHeartbeats 1200000 in
theorem law_a {p : Program} {w : World} {loose : List Str} {mean : ExcName → Option Value} {mg mb : Str → Option Value} (pcs : List Pc) (hpc : ∀ x ∈ pcs, x.Ok w.params) (htk : ∀ x ∈ pcs, TokOk x.stroke) (h24 : pcs.length ≤ 24) (hfo : FOk (flds pcs)) (hft : ∀ f ∈ flds pcs, ∀ c ∈ f, TokOk c) (hf3 : ∀ f ∈ flds pcs, f.length ≤ 3)
    (gs fs : List (List Nat)) (hgs : gs = (gr pcs [] 0).1) (hfs : fs = (gr pcs [] 0).2) (gcs : List Cell) (gk : Nat) (fv : List Value) (fk : Nat) (hg : CellsAre gcs gs) (hf : StrsAre fv (fs.map ofL)) (G Fo : Addr) (C : List (Addr × Obj)) (o1 o2 o3 : Obj) (w2 w3 : Option Value)
    (dp un : Nat) (gd : Option (List Code)) (a : Addr) (ccd : Value) (outer : List Env) (A₀ : Around) (base h₀ : Heap) (L : Addr) (m : Str → Option Value) (s : Shared) (Q : Flow → Shared → Prop) (E : Value → Shared → Prop)
    (hB : Below A₀ base outer h₀) (F : Fr h₀ L s.heap m) (X : (KF w.params).In h₀) (Tt : Top p loose mean mg mb h₀) (hC : CodeHd base 170 166)
    (N : News h₀ L s.heap ((Fo, listOf fv.toArray fk) :: (G, listOf (gcs.map cref).toArray gk) :: (L + 1 + 1 + 1, o3) :: (L + 1 + 1, o2) :: (L + 1, o1) :: (166, tabObj #[]) :: C)) (mC : ∀ c ∈ gcs, cellO c ∈ C) (nC : ∀ p ∈ C, @LT.lt Nat _ (L + 1 + 1 + 1) p.1)
    (d1 : o1.data = .cell (some (.ref Fo))) (d2 : o2.data = .cell w2) (d3 : o3.data = .cell w3) (lF : @LT.lt Nat _ (L + 1 + 1 + 1) Fo) (lG : @LT.lt Nat _ (L + 1 + 1 + 1) G) (l166 : @LT.lt Nat _ 166 L)
    (hdp : dp + 16 < recursionLimit) (hun : un + 400 < cLine) (e1 : m (Str.ofString "groups") = some (.ref G)) (t1 : Tok) (e2 : m (Str.ofString "text") = some (.str (ofL (pcs.map Pc.sign)) t1)) (k0 : Nat) (hk0 : s.toks = k0 + 1)
    (hQ : ∀ h' tk' m' news', Fr h₀ L h' m' → News h₀ L h' news' → (∃ ps, ((166 : Addr), tabObj ps) ∈ news') → Q (.ret (.bool true)) { s with heap := h', toks := tk' }) (hE : PassesOwn (model pw w) (lawT2 dp un gd L a ccd outer) (envOfC (Str.ofString "law") (fS st19) L a ccd) E) :
    wpAny (model pw w) (lawT2 dp un gd L a ccd outer) (execs lawA (envOfC (Str.ofString "law") (fS st19) L a ccd)) Q E s := by
  have hrep := strokes_eq pcs hpc
  have hn1 : ∀ p ∈ C, p.1 ≠ L + 1 + 1 := fun p hp => Nat.ne_of_gt (Nat.lt_trans (Nat.lt_succ_self _) (nC p hp))
  have hn2 : ∀ p ∈ C, p.1 ≠ L + 1 + 1 + 1 := fun p hp => Nat.ne_of_gt (nC p hp)
  have hl1 := hg.len
  have hu1 : s.toks ≠ 0 := by rw [hk0]; exact Nat.succ_ne_zero _
  have hu2 : s.toks + 1 ≠ 0 := Nat.succ_ne_zero _
  have hu3 : s.toks ≠ s.toks + 1 := Nat.ne_of_lt (Nat.lt_succ_self _)
  have hgl : (gcs.map cref).length = gs.length := by rw [List.length_map]; exact hl1
  have hgr : gs.length ≤ 25 := by rw [hgs]; exact gr_len25 h24
  have hsz : szG gs fs ≤ 400 := by rw [hgs, hfs]; exact szG_le h24 hf3
  have hrl : ∀ g ∈ gs, g.length ≤ 100 := fun g hgm => gr_runs h24 (hgs ▸ hgm)
  have hlx : (pcs.map Pc.sign).length ≤ 24 := by simpa using h24
  k_steps
  refine SrcV.ledger (its := (gcs.map cref).toArray) (k := gk) (by rfl) (by k_asm) (by k_asm) (.tail _ (.head _)) ?hsz fun g5 => ?_
  case hsz => rw [List.size_toArray, sizeLine_eq]; omega
  rw [show (gcs.map cref).toArray.size = gs.length by rw [List.size_toArray, hgl]]
  dsimp only
  refine compRest_out gs.length (fun i v => ∃ t, v = Value.int (((gs.getD i []).sum : Nat) : Int) t) (.inr ⟨_, .tail _ (.head _), rfl, _, rfl⟩) ?turn gs.length 0 [] rfl rfl (fun j v h => by simp at h) ?fin
  case turn =>
    rintro i v ys I oI C9 oC D m₂ h tk E' hi hP hC9 hm₂ F5 N5 off ne
    obtain ⟨g, hgi⟩ : ∃ g, gs[i]? = some g := ⟨_, List.getElem?_eq_getElem hi⟩
    obtain ⟨c, hc, hci⟩ := hg.get hgi
    obtain rfl : v = .ref c.1 := by
      have hP' : (gcs.map cref)[i]? = some v := by simpa using hP
      rw [List.getElem?_map, hc] at hP'
      exact (Option.some.inj hP').symm
    have hcm := mC c (List.mem_of_getElem? hc)
    have hcv : (c.1, listOf c.2.toArray 0) ∈ C := hcm
    k_steps
    all_goals first | (rw [sum_cast, List.getD_eq_getElem?_getD, hgi]; rfl) | k_asm | k_data
  case fin =>
    intro ys hlen hys D h tk F6 N6 O6
    obtain ⟨f1, f2, f3, f4, f5, f6, f7⟩ := O6
    dsimp only at f1 f2 f3 f4 f5 f6
    k_steps
    refine SrcV.ledger (its := (gcs.map cref).toArray) (k := gk) (by rfl) (by k_asm) (by k_asm) (.tail _ (.tail _ (.head _))) ?hsz fun g5 => ?_
    case hsz => rw [List.size_toArray, sizeLine_eq]; omega
    rw [show (gcs.map cref).toArray.size = gs.length by rw [List.size_toArray, hgl]]
    dsimp only
    refine compRest_out gs.length (fun i v => ∃ t, v = Value.int ((oddN (gs.getD i []) : Nat) : Int) t) (.inr ⟨_, .tail _ (.tail _ (.head _)), rfl, _, rfl⟩) ?turn2 gs.length 0 [] rfl rfl (fun j v h => by simp at h) ?fin2
    case turn2 =>
      rintro i v ys2 I oI C9 oC D2 m₂ h tk E' hi hP hC9 hm₂ F5 N5 off ne
      obtain ⟨g, hgi⟩ : ∃ g, gs[i]? = some g := ⟨_, List.getElem?_eq_getElem hi⟩
      obtain ⟨c, hc, hci⟩ := hg.get hgi
      obtain rfl : v = .ref c.1 := by
        have hP' : (gcs.map cref)[i]? = some v := by simpa using hP
        rw [List.getElem?_map, hc] at hP'
        exact (Option.some.inj hP').symm
      have hcv : (c.1, listOf c.2.toArray 0) ∈ C := mC c (List.mem_of_getElem? hc)
      have hod := odd_le g
      have hgs4 : g.sum ≤ 400 := by have := sum_mem_le (List.mem_of_getElem? hgi); unfold szG at hsz; omega
      k_steps
      refine SrcVT.ledger (its := c.2.toArray) (k := 0) (by rfl) (by k_asm) N5 (.tail _ (.tail _ (.tail _ (.tail _ (.tail _ (.tail _ (.tail _ (.tail _ (.tail _ (.tail _ (hcv))))))))))) ?hsz2 fun g6 => ?_
      case hsz2 => have h9 := hci.length; simp at h9; rw [List.size_toArray, sizeLine_eq]; have := hrl g (List.mem_of_getElem? hgi); omega
      rw [show c.2.toArray.size = g.length by rw [List.size_toArray, hci.length, List.length_map]]
      dsimp only
      refine compRest_odd hci (.inr ⟨_, .tail _ (.tail _ (.tail _ (.tail _ (.tail _ (.tail _ (.tail _ (.tail _ (.tail _ (.tail _ (hcv)))))))))), rfl, _, rfl⟩) ?turn3 _ 0 [] rfl rfl ?fin3
      case turn3 =>
        intro c' u ys3 I3 oI3 C3 oC3 D3 m₃ h tk E' hmem hC3 hm₃ F7 N7 off3 ne3
        k_steps
        all_goals first | omega | k_asm | k_data
      case fin3 =>
        intro ys3 hlen3 D3 h tk F7 N7 O7
        k_steps
        all_goals first | (rw [List.getD_eq_getElem?_getD, hgi]; rfl) | k_asm | exact news_tl (by assumption) | k_data
    case fin2 =>
      intro ys2 hlen2 hys2 D2 h tk F7 N7 O7
      obtain ⟨y1, y2, y3, y4, y5, y6, y7, y8⟩ := O7
      dsimp only at y1 y2 y3 y4 y5 y6 y7
      k_steps
      refine Stop.of ?_
      have hsu := ints_of (f := fun j => (((gs.getD j []).sum : Nat) : Int)) hys
      have hod := ints_of (f := fun j => ((oddN (gs.getD j []) : Nat) : Int)) hys2
      rw [hlen, range_map (fun g : List Nat => ((g.sum : Nat) : Int)) gs _ rfl] at hsu
      rw [hlen2, range_map (fun g : List Nat => ((oddN g : Nat) : Int)) gs _ rfl] at hod
      obtain ⟨v1, v2, v3, v4⟩ := law_vals w.params hpc
      obtain ⟨z1, z2⟩ := strokes_no w.params pcs hpc
      have hp1 := p257_len (pcs.map Pc.sign)
      have hp2 := prepL_len w.params (pcs.map Pc.sign)
      have hp3 := unq_len (pcs.map Pc.stroke)
      have hp4 := prepL_len w.params (pcs.map Pc.stroke)
      have hp5 : (pcs.map Pc.stroke).length ≤ 24 := by simpa using h24
      rw [← hgs, ← hfs] at v1 v2 v3 v4
      rename (_ = Data.cell (some (Value.ref D2))) => q3
      rename (_ = Data.cell (some (Value.ref D))) => q2
      obtain ⟨oo3, ho3⟩ := obj_of q3
      subst ho3
      obtain ⟨oo2, ho2⟩ := obj_of q2
      subst ho2
      rename News _ _ _ ((D2, _) :: _) => kN
      refine' law_b gs fs (gs.map List.sum) (gs.map oddN) gcs gk fv fk hg hf (by rw [hgs, hfs]; exact gr_same pcs [] 0) (by rw [hfs, flds_gr]; exact hfo) hsz (by omega) (pcs.map Pc.sign) (pcs.map Pc.stroke) (by omega) (by omega) (by omega) (by omega) (by rw [tokOf_unq z1]; omega) (by omega) ?hk1 (prep_tok w.params pcs hpc hft) v1 v2 v3 v4 G Fo D D2 ys ys2 ys.length ys2.length (by rw [List.map_map]; exact hsu) (by rw [List.map_map]; exact hod) rfl rfl ((D2, lst ys2) :: (D, lst ys) :: (Fo, listOf fv.toArray fk) :: (G, listOf (gcs.map cref).toArray gk) :: (L + 1 + 1 + 1, oo3) :: (L + 1 + 1, oo2) :: (L + 1, o1) :: C) o1 oo2 oo3 dp un gd a ccd outer A₀ base h₀ L _ _ Q E hB ?F X Tt hC ?N ?hR ?mG ?mF ?mC ?mS ?mO ?c1 ?c2 ?c3 d1 q2 q3 hdp hun ?e1 _ _ ?e2 ?e3 ?hQ hE
      case F => k_asm
      case e1 => exact e1
      case e2 => exact e2
      case e3 => exact rfl
      case hk1 =>
        intro c hc
        obtain ⟨x, hx, rfl⟩ := List.mem_map.mp hc
        exact htk x hx
      case N =>
        refine news_sb kN fun p hp => ?_
        rcases List.mem_cons.mp hp with rfl | hp
        · exact .tail _ (.tail _ (.tail _ (.tail _ (.tail _ (.tail _ (.tail _ (.head _)))))))
        iterate 7 (rcases List.mem_cons.mp hp with rfl | hp; (· first | exact .head _ | exact .tail _ (.head _) | exact .tail _ (.tail _ (.head _)) | exact .tail _ (.tail _ (.tail _ (.head _))) | exact .tail _ (.tail _ (.tail _ (.tail _ (.head _)))) | exact .tail _ (.tail _ (.tail _ (.tail _ (.tail _ (.head _))))) | exact .tail _ (.tail _ (.tail _ (.tail _ (.tail _ (.tail _ (.head _))))))))
        exact .tail _ (.tail _ (.tail _ (.tail _ (.tail _ (.tail _ (.tail _ (.tail _ (hp))))))))
      case hR =>
        intro p hp
        rcases List.mem_cons.mp hp with rfl | hp
        · exact Ne.symm y7
        rcases List.mem_cons.mp hp with rfl | hp
        · exact Ne.symm f6
        rcases List.mem_cons.mp hp with rfl | hp
        · exact Nat.ne_of_gt (Nat.lt_trans l166 (Nat.lt_of_le_of_lt (Nat.le_add_right L 3) lF))
        rcases List.mem_cons.mp hp with rfl | hp
        · exact Nat.ne_of_gt (Nat.lt_trans l166 (Nat.lt_of_le_of_lt (Nat.le_add_right L 3) lG))
        rcases List.mem_cons.mp hp with rfl | hp
        · exact Nat.ne_of_gt (Nat.lt_of_lt_of_le l166 (Nat.le_add_right L 3))
        rcases List.mem_cons.mp hp with rfl | hp
        · exact Nat.ne_of_gt (Nat.lt_of_lt_of_le l166 (Nat.le_add_right L 2))
        rcases List.mem_cons.mp hp with rfl | hp
        · exact Nat.ne_of_gt (Nat.lt_of_lt_of_le l166 (Nat.le_add_right L 1))
        · exact Nat.ne_of_gt (Nat.lt_trans l166 (Nat.lt_of_le_of_lt (Nat.le_add_right L 3) (nC p hp)))
      case mG => exact .tail _ (.tail _ (.tail _ (.head _)))
      case mF => exact .tail _ (.tail _ (.head _))
      case mC => exact fun c hc => .tail _ (.tail _ (.tail _ (.tail _ (.tail _ (.tail _ (.tail _ (mC c hc)))))))
      case mS => exact .tail _ (.head _)
      case mO => exact .head _
      case c1 => exact .tail _ (.tail _ (.tail _ (.tail _ (.tail _ (.tail _ (.head _))))))
      case c2 => exact .tail _ (.tail _ (.tail _ (.tail _ (.tail _ (.head _)))))
      case c3 => exact .tail _ (.tail _ (.tail _ (.tail _ (.head _))))
      case hQ => exact fun h' tk' m' news' F' N' G' => hQ h' tk' m' news' F' N' G'
end

theorem letD_f : ∀ k, k < 6 → (letD.getD k (0, [])).2.length ≤ 3 ∧ ∀ c ∈ (letD.getD k (0, [])).2, TokOk c := by unfold TokOk; decide +kernel
theorem flds_mem : ∀ (ns : List Int), ∀ f ∈ flds (ns.map pcOf), f.length ≤ 3 ∧ ∀ c ∈ f, TokOk c
  | [], f, h => by
    simp [flds] at h
    subst h
    exact ⟨by simp, fun c hc => (nomatch hc)⟩
  | n :: ns, f, h => by
    have ih := flds_mem ns f
    rw [List.map_cons] at h
    have hl := letD_f _ (kL_lt n)
    unfold pcOf at h
    split at h
    · exact ih h
    · split at h
      · exact ih h
      · rcases List.mem_cons.mp h with rfl | h
        · exact hl
        · exact ih h
theorem pcs_ok (P : Params) (ns : List Int) : ∀ x ∈ ns.map pcOf, x.Ok P := fun x hx => by
  obtain ⟨n, _, rfl⟩ := List.mem_map.mp hx
  exact pcOf_ok P n
theorem pcs_tok (ns : List Int) : ∀ x ∈ ns.map pcOf, TokOk x.stroke := fun x hx => by
  obtain ⟨n, _, rfl⟩ := List.mem_map.mp hx
  exact pcOf_tok n
theorem fok_of {fs : List (List Nat)} (h : ∀ f ∈ fs, ∀ c ∈ f, TokOk c) : FOk fs := fun f hf c hc => (h f hf c hc).1
theorem dr_ledger {h₀ h : Heap} {L N l0 : Addr} {q : DrO} {pcs : List Pc} {oN ol o1 o2 o3 : Obj} (p : q.Ok N pcs) (N9 : News h₀ L h (q.objs pcs ++ (N, oN) :: (l0, ol) :: (L + 1 + 1 + 1, o3) :: (L + 1 + 1, o2) :: (L + 1, o1) :: (166, tabObj #[]) :: [])) (hLN : @LT.lt Nat _ (L + 1 + 1 + 1) N) :
    ∃ C, News h₀ L h ((q.Tp, { cls := .type "tuple", data := .seq #[.str (ofL (pcs.map Pc.sign)) q.t, .ref q.G, .ref q.Fo] 0 }) :: (q.Fo, listOf q.fv.toArray q.fk) :: (q.G, listOf (q.gcs.map cref).toArray q.gk) :: (L + 1 + 1 + 1, o3) :: (L + 1 + 1, o2) :: (L + 1, o1) :: (166, tabObj #[]) :: C) ∧
      (∀ c ∈ q.gcs, cellO c ∈ C) ∧ (∀ p ∈ C, @LT.lt Nat _ (L + 1 + 1 + 1) p.1) ∧ (∀ p ∈ C, p.1 ≠ L + 1) ∧ @Ne Nat q.Tp (L + 1) ∧ @Ne Nat q.Fo (L + 1) ∧ @Ne Nat q.G (L + 1) ∧ @LT.lt Nat _ (L + 1 + 1 + 1) q.Fo ∧ @LT.lt Nat _ (L + 1 + 1 + 1) q.G := by
  have hC : ∀ p ∈ q.gcs.map cellO, @LT.lt Nat _ (L + 1 + 1 + 1) p.1 := fun x hx => by
    obtain ⟨c, hc, rfl⟩ := List.mem_map.mp hx
    exact Nat.lt_trans hLN (p.hc c hc)
  have h3 : @LT.lt Nat _ (L + 1) (L + 1 + 1 + 1) := Nat.lt_succ_of_lt (Nat.lt_succ_self _)
  refine ⟨q.gcs.map cellO, news_sb N9 fun x hx => ?_, fun c hc => List.mem_map.mpr ⟨c, hc, rfl⟩, hC, fun x hx => Nat.ne_of_gt (Nat.lt_trans h3 (hC x hx)), Nat.ne_of_gt (Nat.lt_trans h3 (Nat.lt_trans hLN p.h1)), Nat.ne_of_gt (Nat.lt_trans h3 (Nat.lt_trans hLN p.h2)), Nat.ne_of_gt (Nat.lt_trans h3 (Nat.lt_trans hLN p.h3)), Nat.lt_trans hLN p.h2, Nat.lt_trans hLN p.h3⟩
  unfold DrO.objs
  rcases List.mem_cons.mp hx with rfl | hx
  · exact .head _
  rcases List.mem_cons.mp hx with rfl | hx
  · exact .tail _ (.head _)
  rcases List.mem_cons.mp hx with rfl | hx
  · exact .tail _ (.tail _ (.head _))
  rcases List.mem_cons.mp hx with rfl | hx
  · exact .tail _ (.tail _ (.tail _ (List.mem_append_right _ (.tail _ (.tail _ (.head _))))))
  rcases List.mem_cons.mp hx with rfl | hx
  · exact .tail _ (.tail _ (.tail _ (List.mem_append_right _ (.tail _ (.tail _ (.tail _ (.head _)))))))
  rcases List.mem_cons.mp hx with rfl | hx
  · exact .tail _ (.tail _ (.tail _ (List.mem_append_right _ (.tail _ (.tail _ (.tail _ (.tail _ (.head _))))))))
  rcases List.mem_cons.mp hx with rfl | hx
  · exact .tail _ (.tail _ (.tail _ (List.mem_append_right _ (.tail _ (.tail _ (.tail _ (.tail _ (.tail _ (.head _)))))))))
  · exact .tail _ (.tail _ (.tail _ (List.mem_append_left _ hx)))
theorem sv_folds {prog : Program} {w : World} {A : Around} {E : Value → Shared → Prop} {s : Shared} {h₀ : Heap} {L a : Addr} {ccd : Value} {m : Str → Option Value} {news : List (Addr × Obj)} {Q : Unit → Shared → Prop} {o : Obj} {v : Value} {g : Obj → List (Addr × Obj)} {v₀ : Option Value} (F : Fr h₀ L s.heap m) (N : News h₀ L s.heap news) (U : UpdF (L + 1) o news g) (hd : o.data = .cell v₀)
    (h : ∀ h' o', Fr h₀ L h' m → News h₀ L h' (g o') → o'.data = .cell (some v) → Q () { s with heap := h' }) : wpAny (model prog w) A (storeName (lawEv L a ccd) (Str.ofString "folds") v) Q E s :=
  storeX_C (cl := cellsFrom (L + 1) (fS st19).names []) F N (by kernel_rfl) U hd h (by kernel_rfl) (by kernel_rfl)


section
set_option maxHeartbeats 0
/-! the pieces of the top's run, each one by the kernel over the library's twins -/
theorem q_pre (w : World) (os : OsState) : l_pre w os = r_pre w os := by kernel_rfl
theorem q_blk (w : World) (os : OsState) : l_blk w os = r_blk w os := by kernel_rfl
theorem q_0 (w : World) (os : OsState) : l_0 w os = r_0 w os := by kernel_rfl
theorem q_2 (w : World) (os : OsState) : l_2 w os = r_2 w os := by kernel_rfl
theorem q_d (gd : Bool → Bool) (lv : List Value → List Value) (pos : Pos) (w : World) (os : OsState) : l_d gd lv pos w os = r_d w os := by kernel_rfl
theorem q_4 (w : World) (os : OsState) : l_4 w os = r_4 w os := by kernel_rfl
theorem q_fin (w : World) (os : OsState) : l_fin w os = r_fin w os := by kernel_rfl
theorem t_pre (w : World) (os : OsState) : l_pre w os = r_pre w os := q_pre w os
theorem t_blk (w : World) (os : OsState) : l_blk w os = r_blk w os := q_blk w os
theorem t_0 (w : World) (os : OsState) : l_0 w os = r_0 w os := q_0 w os
theorem t_2 (w : World) (os : OsState) : l_2 w os = r_2 w os := q_2 w os
theorem t_4 (w : World) (os : OsState) : l_4 w os = r_4 w os := q_4 w os
theorem t_fin (w : World) (os : OsState) : l_fin w os = r_fin w os := q_fin w os
theorem t_d (gd : Bool → Bool) (lv : List Value → List Value) (pos : Pos) (w : World) (os : OsState) : l_d gd lv pos w os = r_d w os :=
  q_d gd lv pos w os
noncomputable def trF0 (fo : Nat → Obj) (P : Params) : BT := (BT.node (boot_o_0 P) (BT.node (boot_o_1 P) (BT.node (ob3_2 P) (BT.node (boot_o_7 P) (BT.node (ob15_2 P) (BT.node (ob31_2 P) (BT.node (ob63_2 P) BT.nil BT.nil) (BT.node (ob95_2 P) BT.nil BT.nil)) (BT.node (ob47_2 P) (BT.node (fo 79) BT.nil BT.nil) BT.nil)) (BT.node (ob23_2 P) (BT.node (ob39_2 P) (BT.node (ob71_2 P) BT.nil BT.nil) BT.nil) (BT.node (ob55_2 P) (BT.node (ob87_2 P) BT.nil BT.nil) BT.nil))) (BT.node (ob11_0 P) (BT.node (fo 19) (BT.node (ob35_2 P) (BT.node (fo 67) BT.nil BT.nil) BT.nil) (BT.node (fo 51) (BT.node (ob83_2 P) BT.nil BT.nil) BT.nil)) (BT.node (ob27_2 P) (BT.node (ob43_2 P) (BT.node (ob75_2 P) BT.nil BT.nil) BT.nil) (BT.node (ob59_2 P) (BT.node (ob91_2 P) BT.nil BT.nil) BT.nil)))) (BT.node (boot_o_5 P) (BT.node (boot_o_9 P) (BT.node (ob17_2 P) (BT.node (ob33_2 P) (BT.node (fo 65) BT.nil BT.nil) BT.nil) (BT.node (ob49_2 P) (BT.node (fo 81) BT.nil BT.nil) BT.nil)) (BT.node (ob25_2 P) (BT.node (ob41_2 P) (BT.node (ob73_2 P) BT.nil BT.nil) BT.nil) (BT.node (ob57_2 P) (BT.node (ob89_2 P) BT.nil BT.nil) BT.nil))) (BT.node (ob13_0 P) (BT.node (fo 21) (BT.node (ob37_2 P) (BT.node (ob69_2 P) BT.nil BT.nil) BT.nil) (BT.node (fo 53) (BT.node (ob85_2 P) BT.nil BT.nil) BT.nil)) (BT.node (ob29_2 P) (BT.node (ob45_2 P) (BT.node (ob77_2 P) BT.nil BT.nil) BT.nil) (BT.node (ob61_2 P) (BT.node (ob93_2 P) BT.nil BT.nil) BT.nil))))) (BT.node (ob2_2 P) (BT.node (boot_o_4 P) (BT.node (boot_o_8 P) (BT.node (ob16_2 P) (BT.node (ob32_2 P) (BT.node (ob64_2 P) BT.nil BT.nil) BT.nil) (BT.node (ob48_2 P) (BT.node (ob80_2 P) BT.nil BT.nil) BT.nil)) (BT.node (ob24_2 P) (BT.node (ob40_2 P) (BT.node (fo 72) BT.nil BT.nil) BT.nil) (BT.node (ob56_2 P) (BT.node (fo 88) BT.nil BT.nil) BT.nil))) (BT.node (ob12_2 P) (BT.node (ob20_2 P) (BT.node (ob36_2 P) (BT.node (ob68_2 P) BT.nil BT.nil) BT.nil) (BT.node (ob52_2 P) (BT.node (ob84_2 P) BT.nil BT.nil) BT.nil)) (BT.node (ob28_2 P) (BT.node (ob44_2 P) (BT.node (ob76_2 P) BT.nil BT.nil) BT.nil) (BT.node (ob60_2 P) (BT.node (ob92_2 P) BT.nil BT.nil) BT.nil)))) (BT.node (boot_o_6 P) (BT.node (boot_o_10 P) (BT.node (ob18_2 P) (BT.node (ob34_2 P) (BT.node (ob66_2 P) BT.nil BT.nil) BT.nil) (BT.node (ob50_2 P) (BT.node (ob82_2 P) BT.nil BT.nil) BT.nil)) (BT.node (ob26_2 P) (BT.node (ob42_2 P) (BT.node (fo 74) BT.nil BT.nil) BT.nil) (BT.node (ob58_2 P) (BT.node (ob90_2 P) BT.nil BT.nil) BT.nil))) (BT.node (ob14_0 P) (BT.node (ob22_2 P) (BT.node (ob38_2 P) (BT.node (ob70_2 P) BT.nil BT.nil) BT.nil) (BT.node (ob54_2 P) (BT.node (fo 86) BT.nil BT.nil) BT.nil)) (BT.node (ob30_2 P) (BT.node (ob46_2 P) (BT.node (ob78_2 P) BT.nil BT.nil) BT.nil) (BT.node (ob62_2 P) (BT.node (ob94_2 P) BT.nil BT.nil) BT.nil))))))
noncomputable def trF1 (fo : Nat → Obj) (P : Params) : BT := (BT.node (boot_o_0 P) (BT.node (boot_o_1 P) (BT.node (ob3_3 P) (BT.node (boot_o_7 P) (BT.node (ob15_2 P) (BT.node (ob31_2 P) (BT.node (ob63_2 P) BT.nil BT.nil) (BT.node (ob95_2 P) BT.nil BT.nil)) (BT.node (ob47_2 P) (BT.node (fo 79) BT.nil BT.nil) BT.nil)) (BT.node (ob23_2 P) (BT.node (ob39_2 P) (BT.node (ob71_2 P) BT.nil BT.nil) (BT.node (ob103_3 P) BT.nil BT.nil)) (BT.node (ob55_2 P) (BT.node (ob87_2 P) BT.nil BT.nil) BT.nil))) (BT.node (ob11_0 P) (BT.node (fo 19) (BT.node (ob35_2 P) (BT.node (fo 67) BT.nil BT.nil) (BT.node (ob99_3 P) BT.nil BT.nil)) (BT.node (fo 51) (BT.node (ob83_2 P) BT.nil BT.nil) BT.nil)) (BT.node (ob27_2 P) (BT.node (ob43_2 P) (BT.node (ob75_2 P) BT.nil BT.nil) BT.nil) (BT.node (ob59_2 P) (BT.node (ob91_2 P) BT.nil BT.nil) BT.nil)))) (BT.node (boot_o_5 P) (BT.node (boot_o_9 P) (BT.node (ob17_2 P) (BT.node (ob33_2 P) (BT.node (fo 65) BT.nil BT.nil) (BT.node (ob97_3 P) BT.nil BT.nil)) (BT.node (ob49_2 P) (BT.node (fo 81) BT.nil BT.nil) BT.nil)) (BT.node (ob25_2 P) (BT.node (ob41_2 P) (BT.node (ob73_2 P) BT.nil BT.nil) (BT.node (ob105_3 P) BT.nil BT.nil)) (BT.node (ob57_2 P) (BT.node (ob89_2 P) BT.nil BT.nil) BT.nil))) (BT.node (ob13_0 P) (BT.node (fo 21) (BT.node (ob37_2 P) (BT.node (ob69_2 P) BT.nil BT.nil) (BT.node (ob101_3 P) BT.nil BT.nil)) (BT.node (fo 53) (BT.node (ob85_2 P) BT.nil BT.nil) BT.nil)) (BT.node (ob29_2 P) (BT.node (ob45_2 P) (BT.node (ob77_2 P) BT.nil BT.nil) BT.nil) (BT.node (ob61_2 P) (BT.node (ob93_2 P) BT.nil BT.nil) BT.nil))))) (BT.node (ob2_2 P) (BT.node (boot_o_4 P) (BT.node (boot_o_8 P) (BT.node (ob16_2 P) (BT.node (ob32_2 P) (BT.node (ob64_2 P) BT.nil BT.nil) (BT.node (ob96_3 P) BT.nil BT.nil)) (BT.node (ob48_2 P) (BT.node (ob80_2 P) BT.nil BT.nil) BT.nil)) (BT.node (ob24_2 P) (BT.node (ob40_2 P) (BT.node (fo 72) BT.nil BT.nil) (BT.node (ob104_3 P) BT.nil BT.nil)) (BT.node (ob56_2 P) (BT.node (fo 88) BT.nil BT.nil) BT.nil))) (BT.node (ob12_2 P) (BT.node (ob20_2 P) (BT.node (ob36_2 P) (BT.node (ob68_2 P) BT.nil BT.nil) (BT.node (ob100_3 P) BT.nil BT.nil)) (BT.node (ob52_2 P) (BT.node (ob84_2 P) BT.nil BT.nil) BT.nil)) (BT.node (ob28_2 P) (BT.node (ob44_2 P) (BT.node (ob76_2 P) BT.nil BT.nil) BT.nil) (BT.node (ob60_2 P) (BT.node (ob92_2 P) BT.nil BT.nil) BT.nil)))) (BT.node (boot_o_6 P) (BT.node (boot_o_10 P) (BT.node (ob18_2 P) (BT.node (ob34_2 P) (BT.node (ob66_2 P) BT.nil BT.nil) (BT.node (ob98_3 P) BT.nil BT.nil)) (BT.node (ob50_2 P) (BT.node (ob82_2 P) BT.nil BT.nil) BT.nil)) (BT.node (ob26_2 P) (BT.node (ob42_2 P) (BT.node (fo 74) BT.nil BT.nil) (BT.node (ob106_3 P) BT.nil BT.nil)) (BT.node (ob58_2 P) (BT.node (ob90_2 P) BT.nil BT.nil) BT.nil))) (BT.node (ob14_0 P) (BT.node (ob22_2 P) (BT.node (ob38_2 P) (BT.node (ob70_2 P) BT.nil BT.nil) (BT.node (ob102_3 P) BT.nil BT.nil)) (BT.node (ob54_2 P) (BT.node (fo 86) BT.nil BT.nil) BT.nil)) (BT.node (ob30_2 P) (BT.node (ob46_2 P) (BT.node (ob78_2 P) BT.nil BT.nil) BT.nil) (BT.node (ob62_2 P) (BT.node (ob94_2 P) BT.nil BT.nil) BT.nil))))))
noncomputable def g_1 (fo : Nat → Obj) (p : Program) (ev : Env) (c : Code) (sts : List Stmt) (w : World) (os : OsState) : Option (Flow × SharedT × Code × Pos) := segRunT treeTable p w 11 ann 1 999 (SharedT.mk (trF0 fo w.params) 96 life0 (Array.mk []) (Drawn.mk 0 0 0 0) 305 os) (piecesOf sts ev c (Pos.mk 70 0 70 8) topF)
noncomputable def h_1 (fo : Nat → Obj) (c : Code) (w : World) (os : OsState) : Option (Flow × SharedT × Code × Pos) := some (.next, SharedT.mk (trF1 fo w.params) 107 life0 (Array.mk []) (Drawn.mk 0 0 0 0) 365 os, c, (Pos.mk 71 0 71 6))
noncomputable def foW (P : Params) (k : Nat) : Obj := cond (Nat.beq k 88) (ob88_2 P) (cond (Nat.beq k 86) (ob86_2 P) (cond (Nat.beq k 81) (ob81_2 P) (cond (Nat.beq k 79) (ob79_2 P) (cond (Nat.beq k 74) (ob74_2 P) (cond (Nat.beq k 72) (ob72_2 P) (cond (Nat.beq k 67) (ob67_2 P) (cond (Nat.beq k 65) (ob65_2 P) (cond (Nat.beq k 53) (ob53_2 P) (cond (Nat.beq k 51) (ob51_2 P) (cond (Nat.beq k 21) (ob21_2 P) (cond (Nat.beq k 19) (ob19_2 P) (boot_o_0 P))))))))))))
theorem e_g_1 : g_1 = g_1 := rfl
theorem e_h_1 : h_1 = h_1 := rfl
name_quick qg_1 for Mine.g_1 by Mine.e_g_1
name_quick qh_1 for Mine.h_1 by Mine.e_h_1
theorem q_1ff (fo : Nat → Obj) (w : World) (os : OsState) : PySem.W.Fast.qg_1 fo pw env cE sts1 ((w.withFollow "special-get-raises" false).withFollow "set-order" false) os = PySem.W.Fast.qh_1 fo cE ((w.withFollow "special-get-raises" false).withFollow "set-order" false) os := by kernel_rfl
theorem q_1tf (fo : Nat → Obj) (w : World) (os : OsState) : PySem.W.Fast.qg_1 fo pw env cE sts1 ((w.withFollow "special-get-raises" true).withFollow "set-order" false) os = PySem.W.Fast.qh_1 fo cE ((w.withFollow "special-get-raises" true).withFollow "set-order" false) os := by kernel_rfl
theorem q_1ft (fo : Nat → Obj) (w : World) (os : OsState) : PySem.W.Fast.qg_1 fo pw env cE sts1 ((w.withFollow "special-get-raises" false).withFollow "set-order" true) os = PySem.W.Fast.qh_1 fo cE ((w.withFollow "special-get-raises" false).withFollow "set-order" true) os := by kernel_rfl
theorem q_1tt (fo : Nat → Obj) (w : World) (os : OsState) : PySem.W.Fast.qg_1 fo pw env cE sts1 ((w.withFollow "special-get-raises" true).withFollow "set-order" true) os = PySem.W.Fast.qh_1 fo cE ((w.withFollow "special-get-raises" true).withFollow "set-order" true) os := by kernel_rfl
theorem q_1 (fo : Nat → Obj) (w : World) (os : OsState) : PySem.W.Fast.qg_1 fo pw env cE sts1 w os = PySem.W.Fast.qh_1 fo cE w os := by
  have h : ∀ (a b : Bool) (w : World), PySem.W.Fast.qg_1 fo pw env cE sts1 ((w.withFollow "special-get-raises" a).withFollow "set-order" b) os = PySem.W.Fast.qh_1 fo cE ((w.withFollow "special-get-raises" a).withFollow "set-order" b) os := fun a b w => by
    cases a <;> cases b
    · exact q_1ff fo w os
    · exact q_1ft fo w os
    · exact q_1tf fo w os
    · exact q_1tt fo w os
  exact byRow2 "set-order" (P := fun w => PySem.W.Fast.qg_1 fo pw env cE sts1 w os = PySem.W.Fast.qh_1 fo cE w os)
      (fun w => byRow2 "special-get-raises" (P := fun w => PySem.W.Fast.qg_1 fo pw env cE sts1 (w.withFollow "set-order" false) os = PySem.W.Fast.qh_1 fo cE (w.withFollow "set-order" false) os) (h false false) (h true false) w)
      (fun w => byRow2 "special-get-raises" (P := fun w => PySem.W.Fast.qg_1 fo pw env cE sts1 (w.withFollow "set-order" true) os = PySem.W.Fast.qh_1 fo cE (w.withFollow "set-order" true) os) (h false true) (h true true) w) w
theorem l_g_1 (w : World) (os : OsState) : l_1 w os = g_1 (foW w.params) pw env cE sts1 w os := by kernel_rfl
theorem r_h_1 (w : World) (os : OsState) : r_1 w os = h_1 (foW w.params) cE w os := by kernel_rfl
theorem t_1 (w : World) (os : OsState) : l_1 w os = r_1 w os := by
  rw [l_g_1, r_h_1]
  have hg : ∀ fo, g_1 fo pw env cE sts1 w os = PySem.W.Fast.qg_1 fo pw env cE sts1 w os := fun fo => by rw [PySem.W.Fast.qg_1_eq]
  have hh : ∀ fo, h_1 fo cE w os = PySem.W.Fast.qh_1 fo cE w os := fun fo => by rw [PySem.W.Fast.qh_1_eq]
  rw [hg, hh]
  exact q_1 _ w os

/-! the written table's statement -/
def dPos : Stmt → Pos
  | .Assign _ (.Dict _ _ p) _ => p
  | _ => Pos.mk 0 0 0 0
def sPos : Stmt → Pos
  | .Assign _ _ p => p
  | _ => Pos.mk 0 0 0 0
def allC : List (Option PySem.Expr) → List PySem.Expr → Bool
  | [], [] => true
  | some (.Constant (.int _) _ _) :: ks, .Constant (.str _) _ _ :: vs => allC ks vs
  | _, _ => false
theorem items_of (en : Env) (pos : Pos) : ∀ (ks : List (Option PySem.Expr)) (vs : List PySem.Expr), allC ks vs = true →
    (evalEachOpt ks en).zip ((evalEach vs en).map fun v => do let x ← v; standAt pos; pure x) = (tabPairs ks vs).map (itemT pos)
  | [], [], _ => rfl
  | [], _ :: _, h => by simp [allC] at h
  | k :: ks, [], h => by
    exfalso
    have : allC (k :: ks) [] = false := by
      cases k with
      | none => rfl
      | some k => cases k <;> first | rfl | (rename_i c _ _; cases c <;> rfl)
    rw [this] at h
    cases h
  | k :: ks, v :: vs, h => by
    rcases k with _ | k
    · simp [allC] at h
    · cases k <;> (try (simp [allC] at h; done))
      rename_i c n p
      cases c <;> (try (simp [allC] at h; done))
      rename_i i
      cases v <;> (try (simp [allC] at h; done))
      rename_i c' n' p'
      cases c' <;> (try (simp [allC] at h; done))
      rename_i x
      have ih := items_of en pos ks vs (by simpa [allC] using h)
      show (_ :: _) = (_ :: _)
      rw [← ih]
      rfl
def inc : Int → List (Int × Str) → Bool
  | _, [] => true
  | lo, x :: r => decide (lo < x.1) && decide (x.1 < 1000000) && inc x.1 r
theorem inc_lt : ∀ (R : List (Int × Str)) (lo : Int), inc lo R = true → ∀ x ∈ R, lo < x.1 ∧ x.1 < 1000000
  | [], _, _, _, h => (nomatch h)
  | y :: r, lo, e, x, h => by
    simp only [inc, Bool.and_eq_true, decide_eq_true_eq] at e
    rcases List.mem_cons.mp h with rfl | h
    · exact e.1
    · have := inc_lt r y.1 e.2 x h
      omega
theorem hash_small {k : Int} (h0 : 0 ≤ k) (h1 : k < 1000000) : hashInt k = k := by
  have hn : ((k.natAbs : Nat) : Int) = k := Int.natAbs_of_nonneg h0
  have hm : ((k.natAbs : Nat) : Int) % ((2 ^ 61 - 1 : Nat) : Int) = k := by
    rw [hn]
    have : ((2 ^ 61 - 1 : Nat) : Int) = 2305843009213693951 := by decide
    exact Int.emod_eq_of_lt h0 (by omega)
  have h : rawHash k = k := by
    unfold rawHash
    dsimp only
    have h1 : ¬ k < 0 := by omega
    have h2 : (k == -1) = false := by simp; omega
    rw [hm]
    simp [h1, h2]
  unfold hashInt
  rw [h, if_neg (by simp; omega)]
theorem inc_apart : ∀ (R : List (Int × Str)) (lo : Int), 0 ≤ lo → inc lo R = true → R.Pairwise fun x y => hashInt x.1 ≠ hashInt y.1
  | [], _, _, _ => List.Pairwise.nil
  | y :: r, lo, h0, e => by
    simp only [inc, Bool.and_eq_true, decide_eq_true_eq] at e
    refine List.Pairwise.cons (fun z hz => ?_) (inc_apart r y.1 (by omega) e.2)
    have := inc_lt r y.1 e.2 z hz
    rw [hash_small (by omega) (by omega), hash_small (by omega) (by omega)]
    omega
theorem tab_inc : inc 0 tabR = true := by kernel_rfl
theorem tab_const : allC (dE st10).1 (dE st10).2 = true := by kernel_rfl
theorem tab_split : tabChunk 0 ++ (tabMid.flatten ++ tabLast) = tabR := by kernel_rfl
theorem tab_mids : (tabMid.all fun c => c.length == 17) = true := by kernel_rfl
theorem tab_first : (tabChunk 0).length = 17 := by kernel_rfl
theorem tab_last : tabLast.length = 4 := by kernel_rfl
theorem tab_midN : tabMid.flatten.length = 629 := by kernel_rfl
theorem tab_midC : tabMid.length = 37 := by kernel_rfl
theorem st_tab : st10 = .Assign [.Name (aName st10) (aPos st10)] (.Dict (dE st10).1 (dE st10).2 (dPos st10)) (sPos st10) := by kernel_rfl
theorem tab_swap : swapsWith (.Dict (dE st10).1 (dE st10).2 (dPos st10)) (some (.Name (aName st10) (aPos st10))) (sPos st10).line env = pure false := by kernel_rfl
theorem tab_heap (P : Params) : (trd P).list 153 = (tr2 P).list 114 ++ dO (rowsAt tabTok (tabChunk 0 ++ tabMid.flatten) ++ rowsS (tabTok + 3 * (tabChunk 0 ++ tabMid.flatten).length) tabLast) ((tabChunk 0).length + (tabMid.flatten.length + tabLast.length)) :: (subsOf (tabTok + 3 * (tabChunk 0).length) tabMid ++ [dO (rowsS (tabTok + 3 * (tabChunk 0 ++ tabMid.flatten).length) tabLast) tabLast.length]) := by kernel_rfl
def CX (w : World) : Cx := ⟨pw, w, 11, ann, bE, env, (Pos.mk 0 0 0 0)⟩
theorem lr_bind_name (w : World) (os : OsState) : LR (CX w) x_d (Sd w os).abs 20 .next (S3 w os).abs := fun K H gd lv pos => by
  have h := segRun_of (t_d gd lv pos w os)
  obtain ⟨a, ha, hN⟩ := seg_top (res := id) (K' := K) (H' := H) (B := topF) rfl 20 _ ⟨x_d.wrap doneF deadEnd gd lv, cE, pos, topF⟩ ⟨x_d.wrap K H gd lv, cE, pos, topF⟩ _ _ _ _ ⟨rfl, rfl, .inl ⟨rfl, rfl, _, rfl, rfl⟩⟩ h
  obtain rfl : a = .next := ha
  exact ⟨_, fun N r k => hN N r k⟩
theorem list_len (t : BT) (n : Nat) : (t.list n).length = n := by unfold BT.list; rw [List.length_map, List.length_range]
theorem lr_tab (w : World) (os : OsState) : LR (CX w) (exec st10 env) (S2 w os).abs (1 + (1 + (223 + (330 * 37 + (6 + 19 * 4))) + 20)) .next (S3 w os).abs := by
  rw [st_tab, exec_Assign_Name _ _ _ _ _ tab_swap]
  refine LR.bind (n := 1) LR.standAt ?_
  refine LR.bind (n := 1 + (223 + (330 * 37 + (6 + 19 * 4)))) (m := 20) (a := Value.ref 114) (s₁ := (Sd w os).abs) ?_ (lr_bind_name w os)
  show LR (CX w) (do standAt (dPos st10); dictDisplay _) _ _ _ _
  refine LR.bind (n := 1) LR.standAt ?_
  rw [items_of env (dPos st10) _ _ tab_const]
  have hl := list_len (tr2 w.params) 114
  have hd := LR.display (C := CX w) (l := life0) (g := Array.mk []) (dr := Drawn.mk 0 0 0 0) (os := os) (A := (tr2 w.params).list 114) (pos := dPos st10) (c₀ := tabChunk 0) (last := tabLast) (cs := tabMid) (tk := tabTok)
    (by rw [hl]; rfl) (by rw [hl]; rfl) tab_first (fun c hc => by simpa using List.all_eq_true.mp tab_mids c hc) (fun e => by have := tab_last; rw [e] at this; cases this) (by rw [tab_last]; decide)
    (by rw [tab_split]; exact ⟨fun _ he => (nomatch he), inc_apart tabR 0 (by decide) tab_inc⟩) (by rw [tab_first, tab_last, tab_midN]; decide)
  rw [tab_split, tab_midC] at hd
  rw [hl] at hd
  rw [← tab_heap w.params] at hd
  rw [tab_first, tab_midN, tab_last] at hd
  exact hd
theorem body_is : bE = sts0 ++ (sts1 ++ (sts2 ++ (sts3 ++ (sts4 ++ [])))) := by kernel_rfl
def topM : Nat := 12 + (1 + (822 + (999 + (30 + ((1 + (1 + (223 + (330 * 37 + (6 + 19 * 4))) + 20)) + (240 + (2)))))))
theorem run_top (w : World) (os : OsState) : topRun treeTable pw w 11 ann topM (Sz w os) (topStub pw) = some (Sf w os) := by
  refine go_top (t_pre w os) ?_
  refine piece_block (b := bE) (env := env) (q := (Pos.mk 0 0 0 0)) (t_blk w os) ?_
  rw [body_is]
  refine piece_app (l := sts0) (env := env) (q := (Pos.mk 0 0 0 0)) (segRun_of (t_0 w os)) ?_
  refine piece_app (l := sts1) (env := env) (q := (Pos.mk 0 0 0 0)) (segRun_of (t_1 w os)) ?_
  refine piece_app (l := sts2) (env := env) (q := (Pos.mk 0 0 0 0)) (segRun_of (t_2 w os)) ?_
  rw [show sts3 ++ ((sts4 ++ [])) = st10 :: ((sts4 ++ [])) from rfl]
  show topRun treeTable pw w 11 ann _ _ ⟨(execs (st10 :: ((sts4 ++ []))) env).wrap doneF (leaveH env) id id, cE, (Pos.mk 72 0 73 30), topF⟩ = _
  rw [execs_cons_wrap]
  obtain ⟨p3, k3⟩ := lr_tab w os (fun f => match f with | .next => (execs ((sts4 ++ [])) env).wrap doneF (leaveH env) id id | f => doneF f) (leaveH env) id id (Pos.mk 72 0 73 30)
  refine k3 _ _ ?_
  refine piece_app (l := sts4) (env := env) (q := (Pos.mk 0 0 0 0)) (segRun_of (t_4 w os)) ?_
  exact t_fin w os
theorem size_top (w : World) : ((boot_heap w.params).isNs mainGlobals && (Array.mk [] : Array GenState).size == 0, (boot_heap w.params).objs.size, (boot_heap w.params).nsMap mainGlobals "__annotations__") = (true, 11, ann) := by kernel_rfl
theorem open_is : opening pw = plainProg pw.main.scope.names := by kernel_rfl
theorem fence_is (s : Shared) : fenceModules? pw s = some s := by kernel_rfl
theorem open_top0 (N : Nat) (hN : Nat.ble 600 N = true) : ∀ w : World, (fencedOpening treeTable pw w N).map (fun s => (s.heap, s.gens, s.drawn, s.toks)) = some (boot_heap w.params, Array.mk [], boot_drawn, boot_toks) := boot_open open_is hN fence_is
/-! what the heap behind the top is seen to be -/
noncomputable section
def lawR : RowW := (OpenLaw.row PySem.Challenge.rw_tr0055_02).toRowW
def Hk : Hook := kmHook KF KFa (fun _ => rfl) [166]
def Xt (s : Shared) : Bool := xlAt qv [] s && recOk (RowW.records lawR) s
def l_lkA (w : World) : Bool := staticsOk (importedModules pw.main.body) (boot_heap w.params) (heapF w.params) && namesBound pw (heapF w.params)
def l_lkB (w : World) (os : OsState) : Bool := gensDone (Sf w os) && laidKept (boot_heap w.params) (heapF w.params)
def l_look (w : World) (os : OsState) := openSeen qv looseL (importedModules pw.main.body) Xt true (Sf w os)
def r_look (_w : World) (_os : OsState) := openGood qv looseL
def l_hk (w : World) (os : OsState) : List (Option Obj) × List (Option Obj) := (KFa.map (Sf w os).heap.get?, [166].map (Sf w os).heap.get?)
def r_hk (w : World) (_os : OsState) : List (Option Obj) × List (Option Obj) := ((KF w.params).map fun p => some p.2, [166].map fun _ => some (tabObj #[]))
end
theorem q_lkA (w : World) : l_lkA w = true := by kernel_rfl
theorem q_lkB (w : World) (os : OsState) : l_lkB w os = true := by kernel_rfl
theorem q_look (w : World) (os : OsState) : l_look w os = r_look w os := by kernel_rfl
theorem t_lkA (w : World) : l_lkA w = true := q_lkA w
theorem t_lkB (w : World) (os : OsState) : l_lkB w os = true := q_lkB w os
theorem t_look (w : World) (os : OsState) : l_look w os = r_look w os := q_look w os
theorem t_hk (w : World) (os : OsState) : l_hk w os = r_hk w os := by
  unfold l_hk r_hk
  refine Prod.ext ?_ ?_ <;> rfl
theorem leftT : LeftO pw qv looseL Xt (Hook.obs Hk) (Hook.val Hk) 40000 true :=
  LeftO.of_pieces (p := pw) (q := qv) (loose := looseL) (Xt := Xt) (N := 40000) (g0 := true) (H₀ := boot_heap) (H₁ := heapF) (gs₀ := Array.mk []) (gs₁ := Array.mk []) (d₀ := boot_drawn) (d₁ := (Drawn.mk 0 0 0 0)) (k₀ := boot_toks) (k₁ := 2385) (m₀ := 11) (ann := ann) (M := topM)
    (open_top0 40000 rfl) size_top run_top (by unfold topM; decide) (fun w => funext fun os => by
      refine Prod.ext ?_ (Prod.ext (t_look w os) (t_hk w os))
      show (staticsOk _ _ _ && namesBound _ _ && gensDone _ && laidKept _ _) = true
      have a := t_lkA w
      have b := t_lkB w os
      unfold l_lkA at a
      unfold l_lkB at b
      rw [a, Bool.true_and]
      exact b)
end
-- THE LAW JOINED
section
local macro_rules | `(tactic| walk_at "ite") => `(tactic| (k_here; first | (first | (refine ite_t (by (first | exact decide_eq_true (by omega) | assumption | exact not_t (by assumption) | exact bne_t (by assumption) | decide)) ?_) | (refine ite_f (by ((refine nt_of ?_; first | exact decide_eq_false (by omega) | assumption | exact not_f (by assumption) | exact bne_f (by assumption) | decide))) ?_)) | refine ite_t (by simp; done) ?_ | refine ite_f (by simp; done) ?_))
local macro_rules | `(tactic| walk_at "call ref") => `(tactic| (k_here; refine Stop.out ?_))
local macro_rules | `(tactic| walk_at "storeName") => `(tactic| (k_here; first
  | ((with_reducible show wpAny _ _ (storeName _ (Str.ofString "folds") _) _ _ _); k_dflt (refine' sv_folds ?F ?N ?U ?d ?_; (case F => k_asm); (case N => k_asm); (case U => k_updF); (case d => assumption); k_whole); intro h' o' F' N' d'; (try dsimp only at N'); (try k_sweep))
  | ((with_reducible show wpAny _ _ (storeName _ (Str.ofString "groups") _) _ _ _); k_dflt (refine' sv_loc ?F ?N (by kernel_rfl) ?_; (case F => k_asm); (case N => k_asm); k_whole); intro h' F' N'; (try k_sweep))
  | ((with_reducible show wpAny _ _ (storeName _ (Str.ofString "text") _) _ _ _); k_dflt (refine' sv_loc ?F ?N (by kernel_rfl) ?_; (case F => k_asm); (case N => k_asm); k_whole); intro h' F' N'; (try k_sweep))))
local macro_rules | `(tactic| walk_at "execs cons") => `(tactic| (k_here; first | ((with_reducible show wpAny _ _ (execs (Stmt.Assign [PySem.Expr.Name (Str.ofString "strokes") _] _ _ :: _) _) _ _ _); refine Stop.out ?_) | ((with_reducible refine wpAny_execs_cons ?_); try dsimp only)))
local macro_rules | `(tactic| walk_at "execs nil") => `(tactic| (k_here; refine wpAny_execs_nil ?_))
theorem saidT : OpenLaw.wellSaid PySem.Challenge.rw_tr0055_02 = true := by kernel_rfl
set_option maxHeartbeats 3000000 in
theorem holdsT : PySem.Challenge.rw_tr0055_02.Holds := by
  w_on
  refine holds_law saidT fun said => ?_
  refine holds_open (q := qv) (d := { name := Str.ofString "law", params := fA st19, body := fB st19, scope := fS st19, pos := _ }) (loose := looseL) (Xt := Xt) (XP := XL qv []) (Yf := Hook.obs Hk) (Ya := Hook.val Hk) (YP := Hook.says Hk) (N := 40000) leftT (Hook.of Hk) (Hook.keeps Hk) (fun s e => xl_of s (Bool.and_eq_true_iff.mp e).1) XL.keeps (by rfl) (by rfl) (by rfl) (fun s e => recFacts_of (Bool.and_eq_true_iff.mp e).2) (by first | rfl | fail "wr") (by first | assumption | decide +kernel) (by decide +kernel) ⟨rfl, rfl, rfl, rfl, rfl, by decide +kernel⟩ ?hw ?hc
  case hw => w_witness2
  k_go0
  all_goals try k_fold
  rename IntsAre _ _ => hI
  cases hI with
  | nil =>
    k_steps
    refine Stop.of ?_
    rename (_ < _ ∧ _ ∧ _ ∧ _ ∧ 166 < _) => lt9
    k_dflt (refine' c_drawn _ _ ([0, 3, 0, 4, 0, 0, 9, 0]) _ ?hi ?h24 _ ?hN _ _ _ _ _ _ _ _ _ _ _ _ _ _ _ _ _ ?k1 ?k2 ?k3 ?k4 ?k5 ?kK ?kd ?ku ?kR)
    case k1 => k_asm
    case k2 => k_asm
    case k3 => k_asm
    case k4 => k_asm
    case k5 => k_asm
    case kK => exact rfl
    case hi => exact .cons _ _ (.cons _ _ (.cons _ _ (.cons _ _ (.cons _ _ (.cons _ _ (.cons _ _ (.cons _ _ .nil)))))))
    case h24 => decide
    case hN => k_dflt exact ⟨lt9.1, lt9.2.1, lt9.2.2.1, lt9.2.2.2.1, lt9.2.2.2.2, trivial⟩
    case kd => ktr_room
    case ku => ktr_units
    case kR =>
      intro q9 h9 tk9 p9 F9 N9
      dsimp only at N9 ⊢
      obtain ⟨C, N8, a1, a2, a3, a4, a5, a6, a7, a8⟩ := dr_ledger p9 N9 lt9.2.1
      clear N9
      k_steps
      refine Stop.of ?_
      k_dflt (refine' law_a ((([0, 3, 0, 4, 0, 0, 9, 0] : List Int)).map pcOf) (pcs_ok _ _) (pcs_tok _) ?h24 (fok_of fun f hf => (flds_mem _ f hf).2) (fun f hf => (flds_mem _ f hf).2) (fun f hf => (flds_mem _ f hf).1) _ _ rfl rfl q9.gcs q9.gk q9.fv q9.fk p9.hg p9.hf q9.G q9.Fo C _ _ _ _ _ _ _ _ _ _ _ _ _ _ _ _ _ _ _ ?hB ?F ?X ?Tt ?hC ?N a1 a2 ?d1 ?d2 ?d3 a7 a8 ?l166 ?hdp ?hun ?e1 _ ?e2 _ ?hk0 ?hQ ?hE)
      case h24 => decide
      case F => k_asm
      case N => exact news_tl (by k_asm)
      case hB => k_asm
      case X => k_asm
      case Tt => k_asm
      case hC => k_dflt assumption
      case d1 => k_dflt assumption
      case d2 => k_dflt assumption
      case d3 => k_dflt assumption
      case l166 => exact Heap.lt_size (hT8 166 (.head _))
      case hdp => decide +kernel
      case hun => decide +kernel
      case e1 => exact rfl
      case e2 => exact rfl
      case hk0 => exact rfl
      case hE => passes_own
      case hQ =>
        intro h5 tk5 m5 news5 F5 N5 G5
        obtain ⟨ps, hps⟩ := G5
        refine ⟨?_, GrownAt.of N5 hps, trivial⟩
        k_steps
  | cons c tc hr =>
    have hI2 := IntsAre.cons c tc hr
    k_steps
    refine Stop.of ?_
    rename (_ < _ ∧ _ ∧ _ ∧ _ ∧ 166 < _) => lt9
    k_dflt (refine' c_drawn _ _ (List.take 24 (c :: _)) _ ?hi ?h24 _ ?hN _ _ _ _ _ _ _ _ _ _ _ _ _ _ _ _ _ ?k1 ?k2 ?k3 ?k4 ?k5 ?kK ?kd ?ku ?kR)
    case k1 => k_asm
    case k2 => k_asm
    case k3 => k_asm
    case k4 => k_asm
    case k5 => k_asm
    case kK => exact rfl
    case hi => assumption
    case h24 => exact Nat.le_trans (List.length_take_le _ _) (Nat.le_refl _)
    case hN => k_dflt exact ⟨lt9.1, lt9.2.1, lt9.2.2.1, lt9.2.2.2.1, lt9.2.2.2.2, trivial⟩
    case kd => ktr_room
    case ku => ktr_units
    case kR =>
      intro q9 h9 tk9 p9 F9 N9
      dsimp only at N9 ⊢
      obtain ⟨C, N8, a1, a2, a3, a4, a5, a6, a7, a8⟩ := dr_ledger p9 N9 lt9.2.1
      clear N9
      k_steps
      refine Stop.of ?_
      k_dflt (refine' law_a ((List.take 24 (c :: _)).map pcOf) (pcs_ok _ _) (pcs_tok _) ?h24 (fok_of fun f hf => (flds_mem _ f hf).2) (fun f hf => (flds_mem _ f hf).2) (fun f hf => (flds_mem _ f hf).1) _ _ rfl rfl q9.gcs q9.gk q9.fv q9.fk p9.hg p9.hf q9.G q9.Fo C _ _ _ _ _ _ _ _ _ _ _ _ _ _ _ _ _ _ _ ?hB ?F ?X ?Tt ?hC ?N a1 a2 ?d1 ?d2 ?d3 a7 a8 ?l166 ?hdp ?hun ?e1 _ ?e2 _ ?hk0 ?hQ ?hE)
      case h24 => rw [List.length_map]; exact Nat.le_trans (List.length_take_le _ _) (Nat.le_refl _)
      case F => k_asm
      case N => exact news_tl (by k_asm)
      case hB => k_asm
      case X => k_asm
      case Tt => k_asm
      case hC => k_dflt assumption
      case d1 => k_dflt assumption
      case d2 => k_dflt assumption
      case d3 => k_dflt assumption
      case l166 => exact Heap.lt_size (hT8 166 (.head _))
      case hdp => decide +kernel
      case hun => decide +kernel
      case e1 => exact rfl
      case e2 => exact rfl
      case hk0 => exact rfl
      case hE => passes_own
      case hQ =>
        intro h5 tk5 m5 news5 F5 N5 G5
        obtain ⟨ps, hps⟩ := G5
        refine ⟨?_, GrownAt.of N5 hps, trivial⟩
        k_steps
end


end Mine
theorem PySem.Challenge.cw_tr0055_02_holds : PySem.Challenge.rw_tr0055_02.Holds := by
  exact Mine.holdsT
