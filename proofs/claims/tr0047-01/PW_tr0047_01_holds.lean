import PyProof.Rows.All
import Wide.All
import OpenK.AllK
import Wide.FinOn
import PySem.Challenge.RW_tr0047_01
set_option Elab.async false
section
open PySem PySem.W PySem.Calls PyProof.Rows
namespace Mine
section
variable {p : Program} {w : World} {n₀ : Nat} {ann : Option Value} {α β : Type}

/-- n steps of the top's run lead from the tree m at s, q to its value a at s', q' -/
def Stp (p : Program) (w : World) (n₀ : Nat) (ann : Option Value) (n : Nat) (s : Shared) (q : Pos) (m : Sem α) (s' : Shared) (q' : Pos) (a : α) : Prop :=
  ∀ (K : α → Sem Fin) (H : Value → Sem Fin) (gd : Bool → Bool) (lv : List Value → List Value) (c : Code) (st : List Frame) (N : Nat) (r : Shared),
    topRun table p w n₀ ann N s' ⟨K a, c, q', st⟩ = some r → topRun table p w n₀ ann (n + N) s ⟨m.wrap K H gd lv, c, q, st⟩ = some r

theorem run_one {s s' r : Shared} {t t' : Thread} {N : Nat} (h1 : through t = false) (h2 : stepOk n₀ ann t = true) (h3 : step (denote table) p w s t = .go s' t')
    (h : topRun table p w n₀ ann N s' t' = some r) : topRun table p w n₀ ann (N + 1) s t = some r := by
  unfold topRun; rw [h1, h2, h3]; exact h
theorem thr {x : Sem Fin} (hx : ∀ f, x ≠ .pure (.done f)) {c : Code} {q : Pos} {st : List Frame} : through ⟨x, c, q, st⟩ = false := by
  unfold through
  cases x with
  | pure f => cases f with
    | done f => exact absurd rfl (hx f)
    | again c => simp
  | _ => simp

theorem Stp.pure {s : Shared} {q : Pos} {a : α} : Stp p w n₀ ann 0 s q (.pure a) s q a := fun K H gd lv c st N r h => by rw [Nat.zero_add]; exact h
theorem Stp.pure' {s : Shared} {q : Pos} {a : α} : Stp p w n₀ ann 0 s q (Pure.pure a : Sem α) s q a := Stp.pure
theorem Stp.bind {n k : Nat} {s s₁ s₂ : Shared} {q q₁ q₂ : Pos} {m : Sem α} {f : α → Sem β} {a : α} {b : β} (h1 : Stp p w n₀ ann n s q m s₁ q₁ a) (h2 : Stp p w n₀ ann k s₁ q₁ (f a) s₂ q₂ b) :
    Stp p w n₀ ann (n + k) s q (m >>= f) s₂ q₂ b := fun K H gd lv c st N r h => by
  rw [Sem.bind_eq_wrap', Sem.wrap_wrap, Nat.add_assoc]
  exact h1 _ _ _ _ c st (k + N) r (h2 K H gd lv c st N r h)
theorem Stp.keep {n : Nat} {s s₁ : Shared} {q q₁ : Pos} {m : Sem α} {a : α} {vs : List Value} (h : Stp p w n₀ ann n s q m s₁ q₁ a) : Stp p w n₀ ann n s q (m.keep vs) s₁ q₁ a := fun K H gd lv c st N r hr => by
  rw [Sem.keep_eq_wrap, Sem.wrap_wrap]
  exact h _ _ _ _ c st N r hr
theorem Stp.holding {n : Nat} {s s₁ : Shared} {q q₁ : Pos} {m : Sem α} {a : α} {vs : List Value} (h : Stp p w n₀ ann n s q m s₁ q₁ a) : Stp p w n₀ ann n s q (holding vs m) s₁ q₁ a := by
  unfold PySem.holding
  split
  · exact h
  · exact h.keep
theorem Stp.onRaise {n : Nat} {s s₁ : Shared} {q q₁ : Pos} {m : Sem α} {a : α} {k : Value → Sem Unit} (h : Stp p w n₀ ann n s q m s₁ q₁ a) : Stp p w n₀ ann n s q (m.onRaise k) s₁ q₁ a := fun K H gd lv c st N r hr => by
  rw [Sem.onRaise_eq_wrap, Sem.wrap_wrap]
  exact h _ _ _ _ c st N r hr

section
variable {n : Nat} {s s₁ : Shared} {q q₁ : Pos} {a : α}
theorem Stp.rule {t : String} {k : Unit → Sem α} (h : Stp p w n₀ ann n s q (k ()) s₁ q₁ a) : Stp p w n₀ ann (1 + n) s q (.rule t k) s₁ q₁ a := fun K H gd lv c st N r hr => by
  rw [show 1 + n + N = n + N + 1 by omega]
  exact run_one (thr (fun f h => by cases h)) rfl rfl (h K H gd lv c st N r hr)
theorem Stp.at {t : Pos} {k : Unit → Sem α} (h : Stp p w n₀ ann n s t (k ()) s₁ q₁ a) : Stp p w n₀ ann (1 + n) s q (.at t k) s₁ q₁ a := fun K H gd lv c st N r hr => by
  rw [show 1 + n + N = n + N + 1 by omega]
  exact run_one (thr (fun f h => by cases h)) rfl rfl (h K H gd lv c st N r hr)
theorem Stp.point {l : List Value} {k : Unit → Sem α} (h : Stp p w n₀ ann n s q (k ()) s₁ q₁ a) : Stp p w n₀ ann (1 + n) s q (.point l k) s₁ q₁ a := fun K H gd lv c st N r hr => by
  rw [show 1 + n + N = n + N + 1 by omega]
  exact run_one (thr (fun f h => by cases h)) rfl rfl (h K H gd lv c st N r hr)
theorem Stp.fresh {k : Tok → Sem α} (h : Stp p w n₀ ann n { s with toks := s.toks + 1 } q (k s.toks) s₁ q₁ a) : Stp p w n₀ ann (1 + n) s q (.fresh k) s₁ q₁ a := fun K H gd lv c st N r hr => by
  rw [show 1 + n + N = n + N + 1 by omega]
  obtain ⟨heap, gens, drawn, toks, os⟩ := s
  exact run_one (thr (fun f h => by cases h)) rfl rfl (h K H gd lv c st N r hr)
theorem Stp.ask {k : Setting → Sem α} (h : Stp p w n₀ ann n s q (k ⟨p, w.params⟩) s₁ q₁ a) : Stp p w n₀ ann (1 + n) s q (.ask k) s₁ q₁ a := fun K H gd lv c st N r hr => by
  rw [show 1 + n + N = n + N + 1 by omega]
  exact run_one (thr (fun f h => by cases h)) rfl rfl (h K H gd lv c st N r hr)
theorem Stp.load {b : Addr} {part : Option Value} {k : Obj → Sem α} {o : Obj} (ho : s.heap.get? b = some o) (h : Stp p w n₀ ann n s q (k o) s₁ q₁ a) : Stp p w n₀ ann (1 + n) s q (.load b part k) s₁ q₁ a := fun K H gd lv c st N r hr => by
  rw [show 1 + n + N = n + N + 1 by omega]
  obtain ⟨heap, gens, drawn, toks, os⟩ := s
  refine run_one (thr (fun f h => by cases h)) rfl ?_ (h K H gd lv c st N r hr)
  dsimp only at ho
  simp only [Sem.wrap, step, ho]
theorem Stp.update {b : Addr} {part : Option Value} {f : Obj → Obj} {k : Unit → Sem α} {o : Obj} (hb : (Nat.ble n₀ b || b == mainNs || b == cStatics || ann == some (.ref b)) = true) (ho : s.heap.get? b = some o)
    (h : Stp p w n₀ ann n { s with heap := s.heap.update b f } q (k ()) s₁ q₁ a) : Stp p w n₀ ann (1 + n) s q (.update b part f k) s₁ q₁ a := fun K H gd lv c st N r hr => by
  rw [show 1 + n + N = n + N + 1 by omega]
  obtain ⟨heap, gens, drawn, toks, os⟩ := s
  refine run_one (thr (fun f h => by cases h)) ?_ ?_ (h K H gd lv c st N r hr)
  · simp only [stepOk, Thread.calm, Thread.atCollectorCode, Thread.atExit, Thread.yieldsInsideHandler, Sem.wrap, Bool.not_false, Bool.true_or, Bool.and_true, Bool.true_and]
    exact hb
  · dsimp only at ho
    simp only [Sem.wrap, step, ho, Option.isSome_some, if_true]
theorem Stp.alloc {o : Obj} {k : Addr → Sem α} (h : Stp p w n₀ ann n { s with heap := s.heap.push o } q (k s.heap.objs.size) s₁ q₁ a) : Stp p w n₀ ann (1 + n) s q (.alloc o k) s₁ q₁ a := fun K H gd lv c st N r hr => by
  rw [show 1 + n + N = n + N + 1 by omega]
  obtain ⟨heap, gens, drawn, toks, os⟩ := s
  exact run_one (thr (fun f h => by cases h)) rfl rfl (h K H gd lv c st N r hr)
end
theorem wrap_same {γ : Type} (m : Sem γ) : m.wrap Sem.pure Sem.raise id id = m := by
  induction m <;> (simp only [Sem.wrap, id]; try (congr 1; funext x; apply_assumption))
/-- a call whose code runs to an answer by a plain tree -/
theorem Stp.call {c' : Code} {hd : Option Value} {g : Bool} {l : List Value} {k : Result → Sem α} {n j : Nat} {s s₁ s₂ : Shared} {q q₁ q₂ : Pos} {a : α} {f : Flow}
    (h1 : Stp p w n₀ ann n s q (denote table c') s₁ q₁ (.done f)) (h2 : Stp p w n₀ ann j s₁ q (k (.ok f)) s₂ q₂ a) : Stp p w n₀ ann (1 + n + 1 + j) s q (.call c' hd g l k) s₂ q₂ a := fun K H gd lv c st N r hr => by
  rw [show 1 + n + 1 + j + N = n + (1 + (j + N)) + 1 by omega]
  refine run_one (thr (fun f h => by cases h)) rfl rfl ?_
  have e := (wrap_same (denote table c')).symm
  rw [e]
  refine h1 _ _ _ _ _ _ _ r ?_
  rw [Nat.add_comm 1]
  refine run_one ?_ rfl rfl (h2 K H gd lv c st N r hr)
  rfl
/-- the same, where the code hands on to another first -/
theorem Stp.call2 {c' c'' : Code} {hd : Option Value} {g : Bool} {l : List Value} {k : Result → Sem α} {n j : Nat} {s s₁ s₂ : Shared} {q q₁ q₂ : Pos} {a : α} {f : Flow}
    (e : denote table c' = .pure (.again c'')) (hq : c''.quiet = true)
    (h1 : Stp p w n₀ ann n s q (denote table c'') s₁ q₁ (.done f)) (h2 : Stp p w n₀ ann j s₁ q (k (.ok f)) s₂ q₂ a) : Stp p w n₀ ann (1 + 1 + n + 1 + j) s q (.call c' hd g l k) s₂ q₂ a := fun K H gd lv c st N r hr => by
  rw [show 1 + 1 + n + 1 + j + N = (n + (1 + (j + N)) + 1) + 1 by omega]
  refine run_one (thr (fun f h => by cases h)) rfl rfl ?_
  rw [e]
  obtain ⟨heap, gens, drawn, toks, os⟩ := s
  refine run_one (thr (fun f h => by cases h)) ?_ step_again ?_
  · have z := Thread.calm_eq
    simp only [stepOk, Bool.and_true]
    rw [Thread.calm_eq, Thread.loud_again, hq]
    rfl
  rw [← wrap_same (denote table c'')]
  refine h1 _ _ _ _ _ _ _ r ?_
  rw [Nat.add_comm 1]
  refine run_one ?_ rfl rfl (h2 K H gd lv c st N r hr)
  rfl
end
end Mine
end
section
open PySem PySem.W PySem.Calls PyProof.Rows
namespace Mine
set_option maxRecDepth 100000
set_option maxHeartbeats 1000000
section
variable {p : Program} {w : World} {n₀ : Nat} {ann : Option Value} {α β : Type} {s s₁ : Shared} {q q₁ : Pos} {n : Nat}
theorem Stp.to {m m' : Sem α} {a : α} (e : m = m') (h : Stp p w n₀ ann n s q m' s₁ q₁ a) : Stp p w n₀ ann n s q m s₁ q₁ a := e ▸ h
theorem Stp.cnt {n' : Nat} {m : Sem α} {a : α} (e : n' = n) (h : Stp p w n₀ ann n s q m s₁ q₁ a) : Stp p w n₀ ann n' s q m s₁ q₁ a := e ▸ h
theorem Stp.tryC {m : Sem α} {a : α} {k : Value → Sem α} (h : Stp p w n₀ ann n s q m s₁ q₁ a) : Stp p w n₀ ann n s q (m.tryCatch k) s₁ q₁ a := fun K H gd lv c st N r hr => by
  rw [Sem.tryCatch_eq_wrap, Sem.wrap_wrap]
  exact h _ _ _ _ c st N r hr
theorem chk_hash (k : Int) (t : Tok) : checkBuiltinCall "int.__hash__" ⟨[.int k t], []⟩ = Pure.pure () := by
  kernel_rfl
theorem spec_hash (k : Int) (t : Tok) : specialOf (.int k t) "__hash__" = Pure.pure (some (.builtin "int.__hash__")) := slot_int_hash.lookup
theorem den_of (tb : String → Option Builtin) (id : String) (a : Args) {b : Builtin} (h : entryFor tb id = some b) : denote tb (.builtin id a) = b a := by
  simp only [denote, h]
theorem den_hash (k : Int) (t : Tok) : denote table (.builtin "int.__hash__" ⟨[.int k t], []⟩) = Sem.fresh fun u => .pure (.done (.ret (.int (rawHash k) u))) :=
  (den_of table "int.__hash__" ⟨[.int k t], []⟩ entry_int_hash).trans rfl
theorem call_hash (k : Int) (t : Tok) : Stp p w n₀ ann 4 s q (PySem.call (.builtin "int.__hash__") [.int k t]) { s with toks := s.toks + 1 } q (.int (rawHash k) s.toks) := by
  have e1 : denote table (.call (.builtin "int.__hash__") ⟨[.int k t], []⟩) = .pure (.again (.builtin "int.__hash__" ⟨[.int k t], []⟩)) := by
    show (do checkBuiltinCall "int.__hash__" ⟨[.int k t], []⟩; again (.builtin "int.__hash__" ⟨[.int k t], []⟩)) = _
    rw [chk_hash]; rfl
  unfold PySem.call runValue
  refine' Stp.cnt ?e (Stp.bind (a := .ret (.int (rawHash k) s.toks)) (Stp.call2 (q₁ := q) e1 (Code.quiet_builtin _ (by decide +kernel)) (.to (den_hash k t) (Stp.fresh Stp.pure)) Stp.pure) Stp.pure')
  rfl
theorem hash_ok (k : Int) (t : Tok) : Stp p w n₀ ann 5 s q (pyHash (.int k t)) { s with toks := s.toks + 1 } q (hashInt k) := by
  have hr := rawHash_range k
  have hv : [Value.int k t].any Value.onHeap = false := rfl
  show Stp p w n₀ ann 5 s q (pyHashByItsType (.int k t)) _ q (hashInt k)
  unfold pyHashByItsType
  refine Stp.bind (n := 0) (k := 5) (a := ()) (.to (by rw [cRoomFor, if_neg (by rw [hv]; exact Bool.false_ne_true)]) Stp.pure') ?_
  rw [spec_hash]
  refine Stp.bind (n := 0) (k := 5) Stp.pure' ?_
  show Stp p w n₀ ann 5 s q (if (some (Value.builtin "int.__hash__") == some Value.none) = true then _ else _) _ q _
  rw [if_neg (by rw [beq_builtin_none]; exact Bool.false_ne_true)]
  refine Stp.bind (n := 0) (k := 5) Stp.pure' ?_
  show Stp p w n₀ ann 5 s q (callSpecialIfBoundUnlessNone? (.int k t) "__hash__" _ >>= _) _ q _
  refine' Stp.bind (n := 5) (k := 0) (s₁ := { s with toks := s.toks + 1 }) (q₁ := q) (a := some (.int (rawHash k) s.toks)) ?_ ?_
  · simp only [callSpecialIfBoundUnlessNone?, bindSpecialIfBound?]
    refine Stp.holding ?_
    rw [spec_hash]
    have fin : Stp p w n₀ ann 4 s q (if (Value.builtin "int.__hash__" == Value.none) = true then ((do
          rule "hash.unhashable"
          let x ← PySem.typeNameOf (Value.int k t)
          raiseErrorMade "TypeError" (toString "unhashable type: '" ++ toString x ++ toString "'")) >>= fun v => Pure.pure (some v)) else (PySem.call (.builtin "int.__hash__") [.int k t] >>= fun v => Pure.pure (some v))) { s with toks := s.toks + 1 } q (some (.int (rawHash k) s.toks)) := by
      rw [if_neg (by rw [builtin_beq_none]; exact Bool.false_ne_true)]
      exact Stp.bind (k := 0) (call_hash k t) Stp.pure'
    refine' Stp.bind (n := 1) (k := 4) (s₁ := s) (q₁ := q) (a := some (Value.builtin "int.__hash__", [Value.int k t])) ?_ fin
    refine' Stp.bind (n := 0) (k := 1) Stp.pure' ?_
    dsimp only
    rw [slot_int_hash.bind]
    refine Stp.bind (n := 1) (k := 0) (Stp.ask Stp.pure) ?_
    split
    · exact Stp.bind (n := 0) (k := 0) Stp.pure' Stp.pure'
    · exact Stp.tryC (Stp.bind (n := 0) (k := 0) Stp.pure' Stp.pure')
  · show Stp p w n₀ ann 0 _ q (if (decide (-(2 : Int) ^ 63 ≤ rawHash k) && decide (rawHash k < 2 ^ 63)) = true then _ else _) _ q _
    rw [if_pos (by rw [decide_eq_true hr.1, decide_eq_true hr.2]; rfl)]
    exact Stp.pure'
end
end Mine
end
section
open PySem PySem.W PySem.Calls PyProof.Rows
namespace Mine
section
variable {p : Program} {w : World} {n₀ : Nat} {ann : Option Value} {α β : Type} {s s₁ : Shared} {q q₁ : Pos} {n : Nat}
/-- a plain dict -/
def dob (es : List DictEntry) (n : Nat) : Obj := { cls := .type "dict", data := .dict es.toArray n }
/-- a heap with more objects behind it -/
def hp (H : Heap) (l : List Obj) : Heap := ⟨H.objs ++ l.toArray, H.life⟩
theorem hp_push (H : Heap) (l : List Obj) (o : Obj) : (hp H l).push o = hp H (l ++ [o]) := by
  simp [hp, Heap.push]
theorem hp_size (H : Heap) (l : List Obj) : (hp H l).objs.size = H.objs.size + l.length := by simp [hp]
theorem hp_get (H : Heap) (l : List Obj) (i : Nat) (es : List DictEntry) (m : Nat) (h : l[i]? = some (dob es m)) : (hp H l).get? (H.objs.size + i) = some (dob es m) := by
  have e : (hp H l).objs[H.objs.size + i]? = some (dob es m) := by
    simp [hp, Array.getElem?_append_right, h]
  unfold Heap.get?
  rw [e]
  rfl
theorem mod_behind {γ : Type} (f : γ → γ) (i : Nat) (l : List γ) : ∀ a : List γ, (a ++ l).modify (a.length + i) f = a ++ l.modify i f
  | [] => by simp
  | x :: a => by
    rw [List.cons_append, List.length_cons, show a.length + 1 + i = (a.length + i) + 1 by omega, List.modify_succ_cons, mod_behind f i l a]; rfl
theorem hp_update (H : Heap) (l : List Obj) (i : Nat) (f : Obj → Obj) : (hp H l).update (H.objs.size + i) f = hp H (l.modify i f) := by
  unfold hp Heap.update
  simp only [Heap.mk.injEq, and_true]
  apply Array.ext'
  simp only [Array.toList_modify, Array.toList_append]
  exact mod_behind _ _ _ _
theorem map_push (es : List DictEntry) (m : Nat) (e : DictEntry) : Obj.mapDictKeys (·.push e) (dob es m) = dob (es ++ [e]) (m + 1) := by
  simp [Obj.mapDictKeys, dob]
/-- no entry bears this hash -/
def Free (es : List DictEntry) (h : Int) : Prop := ∀ e ∈ es, e.hash ≠ h
theorem places_free {es : List DictEntry} {h : Int} (f : Free es h) : placesWithHash es.toArray.size (fun i => es.toArray[i]?.map (·.hash)) h = [] := by
  unfold placesWithHash
  rw [List.filter_eq_nil_iff]
  intro i hi
  simp only [List.size_toArray, List.mem_range] at hi
  simp only [List.getElem?_toArray, List.getElem?_eq_getElem hi, Option.map_some, beq_iff_eq, Option.some.injEq]
  exact f _ (List.getElem_mem hi)
theorem find_new {d : Addr} {es : List DictEntry} {m : Nat} {k h : Int} {t : Tok} (hd : s.heap.get? d = some (dob es m)) (f : Free es h) :
    Stp p w n₀ ann 1 s q (dictFind d (.int k t) h) s q none := by
  unfold dictFind
  refine Stp.holding ?_
  refine' Stp.bind (n := 1) (k := 0) (a := es.toArray) (s₁ := s) (q₁ := q) ?_ ?_
  · exact Stp.bind (n := 1) (k := 0) (Stp.load hd Stp.pure) Stp.pure'
  · dsimp only
    rw [places_free f]
    exact Stp.bind (n := 0) (k := 0) Stp.pure' Stp.pure'

theorem pastLine {es : List DictEntry} {m : Nat} (h : es.length ≤ 100000) : (dob es m).data.pastItsLine = none := by
  have : es.toArray.size ≤ sizeLine + 1 := by rw [List.size_toArray, sizeLine_eq]; omega
  exact pastItsLine_dict this
theorem keys_push {H : Heap} {l : List Obj} {i : Nat} {es : List DictEntry} {m : Nat} {e : DictEntry} {part : Option Value} (hs : s.heap = hp H l) (hi : l[i]? = some (dob es m)) (hsz : es.length < 100000) (hn : n₀ ≤ H.objs.size) :
    Stp p w n₀ ann 3 s q (updateDictKeys (H.objs.size + i) (·.push e) part) { s with heap := hp H (l.set i (dob (es ++ [e]) (m + 1))) } q () := by
  have hd : s.heap.get? (H.objs.size + i) = some (dob es m) := by rw [hs]; exact hp_get H l i es m hi
  have hlt : i < l.length := by
    rcases List.getElem?_eq_some_iff.mp hi with ⟨h, _⟩; exact h
  have em : l.modify i (Obj.mapDictKeys (·.push e)) = l.set i (dob (es ++ [e]) (m + 1)) := by
    rw [← map_push]
    apply List.ext_getElem?
    intro j
    rw [List.getElem?_modify, List.getElem?_set]
    by_cases hj : i = j
    · subst hj
      have ev : l[i] = dob es m := by rw [List.getElem?_eq_getElem hlt] at hi; exact Option.some.inj hi
      simp [hlt, ev]
    · simp [hj]
  have eh : s.heap.update (H.objs.size + i) (Obj.mapDictKeys (·.push e)) = hp H (l.set i (dob (es ++ [e]) (m + 1))) := by rw [hs, hp_update, em]
  unfold updateDictKeys
  refine' Stp.bind (n := 1) (k := 2) (a := dob es m) (s₁ := s) (q₁ := q) (Stp.load hd Stp.pure) ?_
  show Stp p w n₀ ann 2 s q (updatePart (H.objs.size + i) part (Obj.mapDictKeys (·.push e)) >>= fun _ => lookBehind (H.objs.size + i) part) _ q ()
  refine' Stp.bind (n := 1) (k := 1) (a := ()) (s₁ := { s with heap := hp H (l.set i (dob (es ++ [e]) (m + 1))) }) (q₁ := q) ?_ ?_
  · refine Stp.update (n := 0) (by simp [Nat.ble_eq, Nat.le_trans hn (Nat.le_add_right _ i)]) hd ?_
    rw [eh]
    exact Stp.pure
  · unfold lookBehind
    refine' Stp.bind (n := 1) (k := 0) (a := dob (es ++ [e]) (m + 1)) (Stp.load (hp_get H _ i _ _ (by simp [hlt])) Stp.pure) ?_
    rw [pastLine (by simp; omega)]
    exact Stp.pure'
/-- d[k] = v where no key of this hash lies in d -/
theorem set_new {H : Heap} {l : List Obj} {i : Nat} {es : List DictEntry} {m : Nat} {k : Int} {t : Tok} {v : Value} (hs : s.heap = hp H l) (hi : l[i]? = some (dob es m)) (hsz : es.length < 100000) (hn : n₀ ≤ H.objs.size) (f : Free es (hashInt k)) :
    Stp p w n₀ ann 10 s q (dictSet (H.objs.size + i) (.int k t) v) { s with heap := hp H (l.set i (dob (es ++ [⟨hashInt k, .int k t, v⟩]) (m + 1))), toks := s.toks + 1 } q () := by
  unfold dictSet
  refine Stp.holding ?_
  refine Stp.bind (n := 5) (k := 5) (hash_ok k t) ?_
  unfold dictSetHashed
  refine Stp.holding ?_
  refine Stp.bind (n := 1) (k := 4) (find_new (s := { s with toks := s.toks + 1 }) (by rw [show ({ s with toks := s.toks + 1 } : Shared).heap = hp H l from hs]; exact hp_get H l i es m hi) f) ?_
  exact Stp.bind (n := 1) (k := 3) (Stp.rule Stp.pure) (keys_push (s := { s with toks := s.toks + 1 }) hs hi hsz hn)
end
end Mine
end
section
open PySem PySem.W PySem.Calls PyProof.Rows
namespace Mine
section
variable {p : Program} {w : World} {n₀ : Nat} {ann : Option Value} {α β : Type} {s s₁ : Shared} {q q₁ : Pos} {n : Nat}
def ent (k : Int) (v : PySem.Str) (t : Tok) : DictEntry := ⟨hashInt k, .int k t, .str v (t + 1)⟩
/-- the entries that a list of written pairs makes, their tokens g apart -/
def ents (g : Nat) : Nat → List (Int × PySem.Str) → List DictEntry
  | _, [] => []
  | t, (k, v) :: r => ent k v t :: ents g (t + g) r
theorem ents_length (g : Nat) : ∀ (t : Nat) (l : List (Int × PySem.Str)), (ents g t l).length = l.length
  | _, [] => rfl
  | t, (k, v) :: r => by simp [ents, ents_length g (t + g) r]
theorem ents_hash (g : Nat) : ∀ (t : Nat) (l : List (Int × PySem.Str)), (ents g t l).map (·.hash) = l.map fun x => hashInt x.1
  | _, [] => rfl
  | t, (k, v) :: r => by simp [ents, ent, ents_hash g (t + g) r]
/-- new keys, one after the other -/
def News' (hs : List Int) : List Int → Prop
  | [] => True
  | h :: r => h ∉ hs ∧ News' (hs ++ [h]) r
theorem free_of {es : List DictEntry} {h : Int} (x : h ∉ es.map (·.hash)) : Free es h := fun e he hq => x (hq ▸ List.mem_map.mpr ⟨e, he, rfl⟩)
/-- a pair of trees that are a written int and a written text -/
structure El (p : Program) (w : World) (n₀ : Nat) (ann : Option Value) (pos : Pos) (x : Sem Value × Sem Value) (y : Int × PySem.Str) : Prop where
  key : ∀ (s : Shared) (q : Pos), Stp p w n₀ ann 1 s q x.1 { s with toks := s.toks + 1 } q (.int y.1 s.toks)
  val : ∀ (s : Shared) (q : Pos), Stp p w n₀ ann 2 s q x.2 { s with toks := s.toks + 1 } pos (.str y.2 s.toks)
inductive Els (p : Program) (w : World) (n₀ : Nat) (ann : Option Value) (pos : Pos) : List (Sem Value × Sem Value) → List (Int × PySem.Str) → Prop
  | nil : Els p w n₀ ann pos [] []
  | cons {x y l r} : El p w n₀ ann pos x y → Els p w n₀ ann pos l r → Els p w n₀ ann pos (x :: l) (y :: r)
theorem Els.len {pos : Pos} {l r} (h : Els p w n₀ ann pos l r) : l.length = r.length := by
  induction h with
  | nil => rfl
  | cons _ _ ih => simp [ih]

theorem set_last (l : List Obj) (a b : Obj) : (l ++ [a]).set l.length b = l ++ [b] := by simp
theorem long_loop {pos : Pos} {H : Heap} {l : List Obj} (hn : n₀ ≤ H.objs.size) {f : (Sem Value × Sem Value) → PUnit → Sem (ForInStep PUnit)}
    (hf : ∀ x u, f x u = (do let kv ← x.1; let vv ← holding [kv] x.2; holding [kv, vv] (dictSet (H.objs.size + l.length) kv vv); Pure.pure (.yield PUnit.unit))) {ps kvs} (h : Els p w n₀ ann pos ps kvs) :
    ∀ (s : Shared) (es : List DictEntry) (m : Nat), s.heap = hp H (l ++ [dob es m]) → es.length + kvs.length < 100000 → News' (es.map (·.hash)) (kvs.map fun x => hashInt x.1) →
      Stp p w n₀ ann (13 * kvs.length) s pos (forIn ps PUnit.unit f) { s with heap := hp H (l ++ [dob (es ++ ents 3 s.toks kvs) (m + kvs.length)]), toks := s.toks + 3 * kvs.length } pos PUnit.unit := by
  induction h with
  | nil =>
    intro s es m hs _ _
    have e : ({ s with heap := hp H (l ++ [dob (es ++ ents 3 s.toks []) (m + 0)]), toks := s.toks + 3 * 0 } : Shared) = s := by
      simp only [ents, List.append_nil, Nat.add_zero, Nat.mul_zero, ← hs]
    show Stp p w n₀ ann 0 s pos _ ({ s with heap := hp H (l ++ [dob (es ++ ents 3 s.toks []) (m + 0)]), toks := s.toks + 3 * 0 } : Shared) pos PUnit.unit
    rw [e, List.forIn_nil]
    exact Stp.pure'
  | @cons x y lx r hx _ ih =>
    intro s es m hs hsz hN
    obtain ⟨k, v⟩ := y
    rw [List.forIn_cons, hf]
    simp only [List.length_cons, List.map_cons, News'] at hsz hN ⊢
    have step := set_new (p := p) (w := w) (n₀ := n₀) (ann := ann) (s := { s with toks := s.toks + 1 + 1 }) (q := pos) (H := H) (l := l ++ [dob es m]) (i := l.length) (es := es) (m := m) (k := k) (t := s.toks) (v := .str v (s.toks + 1)) hs (by simp) (by omega) hn (free_of hN.1)
    rw [set_last] at step
    have rest := ih { s with heap := hp H (l ++ [dob (es ++ [ent k v s.toks]) (m + 1)]), toks := s.toks + 1 + 1 + 1 } (es ++ [ent k v s.toks]) (m + 1) rfl (by simp; omega) (by rw [List.map_append]; exact hN.2)
    refine' Stp.cnt ?e (Stp.bind (a := ForInStep.yield PUnit.unit) (q₁ := pos) (s₁ := { s with heap := hp H (l ++ [dob (es ++ [ent k v s.toks]) (m + 1)]), toks := s.toks + 1 + 1 + 1 })
      (Stp.bind (hx.key s pos) (Stp.bind (Stp.holding (hx.val _ pos)) (Stp.bind (Stp.holding step) Stp.pure'))) ?r)
    case r =>
      dsimp only
      have e1 : es ++ [ent k v s.toks] ++ ents 3 (s.toks + 1 + 1 + 1) r = es ++ ents 3 s.toks ((k, v) :: r) := by simp [ents]
      have e2 : m + 1 + r.length = m + (r.length + 1) := by omega
      have e3 : s.toks + 1 + 1 + 1 + 3 * r.length = s.toks + 3 * (r.length + 1) := by omega
      dsimp only at rest
      rw [e1, e2, e3] at rest
      exact rest
    case e => omega
end
end Mine
end
section
open PySem PySem.W PySem.Calls PyProof.Rows
namespace Mine
section
variable {p : Program} {w : World} {n₀ : Nat} {ann : Option Value} {α β : Type} {s s₁ : Shared} {q q₁ : Pos} {n : Nat}
theorem subDict_long {pos : Pos} {H : Heap} {l : List Obj} (hn : n₀ ≤ H.objs.size) {ps kvs} (h : Els p w n₀ ann pos ps kvs) (h15 : 15 < kvs.length) (hsz : kvs.length < 100000) (hs : s.heap = hp H l) (hN : News' [] (kvs.map fun x => hashInt x.1)) :
    Stp p w n₀ ann (2 + 13 * kvs.length) s pos (subDict ps) { s with heap := hp H (l ++ [dob (ents 3 s.toks kvs) kvs.length]), toks := s.toks + 3 * kvs.length } pos (H.objs.size + l.length) := by
  unfold subDict
  have e0 : ({ s with heap := s.heap.push (dob [] 0) } : Shared).heap = hp H (l ++ [dob [] 0]) := by rw [hs]; exact hp_push H l _
  have ea : s.heap.objs.size = H.objs.size + l.length := by rw [hs, hp_size]
  have hl : ¬ ps.length ≤ 15 := by rw [h.len]; omega
  refine' Stp.cnt ?e (Stp.bind (Stp.alloc (n := 0) Stp.pure) ?r)
  case r =>
    rw [ea]
    rw [if_neg hl]
    refine' Stp.bind (a := ()) (Stp.holding (Stp.bind (Stp.rule (n := 0) Stp.pure) (Stp.bind ?g Stp.pure'))) Stp.pure'
    case g =>
      have L := long_loop (p := p) (w := w) (n₀ := n₀) (ann := ann) (H := H) (l := l) hn (f := fun x u => (do let kv ← x.1; let vv ← holding [kv] x.2; holding [kv, vv] (dictSet (H.objs.size + l.length) kv vv); Pure.pure (.yield PUnit.unit))) (fun x u => rfl) h
        { s with heap := s.heap.push (dob [] 0) } [] 0 e0 (by simpa using hsz) hN
      simp only [List.nil_append, Nat.zero_add] at L
      exact L
  case e => omega
theorem pairs_ok {pos : Pos} {ps kvs} (h : Els p w n₀ ann pos ps kvs) : ∀ (s : Shared),
    Stp p w n₀ ann (3 * kvs.length) s pos (evalPairs ps) { s with toks := s.toks + 2 * kvs.length } pos ((kvs.zipIdx).map fun x => (.int x.1.1 (s.toks + 2 * x.2), .str x.1.2 (s.toks + 2 * x.2 + 1))) := by
  induction h with
  | nil => intro s; exact Stp.pure'
  | @cons x y lx r hx _ ih =>
    intro s
    obtain ⟨k, v⟩ := y
    obtain ⟨a, b⟩ := x
    unfold evalPairs
    have rest := ih { s with toks := s.toks + 1 + 1 }
    refine' Stp.cnt ?e (Stp.bind (hx.key s pos) (Stp.bind (Stp.holding (hx.val _ pos)) (Stp.bind (Stp.holding rest) ?r)))
    case r =>
      have e1 : s.toks + 1 + 1 + 2 * r.length = s.toks + 2 * (r.length + 1) := by omega
      dsimp only
      rw [e1]
      have e2 : ((k, v) :: r).zipIdx.map (fun x : (Int × PySem.Str) × Nat => (Value.int x.1.1 (s.toks + 2 * x.2), Value.str x.1.2 (s.toks + 2 * x.2 + 1)))
          = (Value.int k s.toks, Value.str v (s.toks + 1)) :: r.zipIdx.map (fun x => (Value.int x.1.1 (s.toks + 1 + 1 + 2 * x.2), Value.str x.1.2 (s.toks + 1 + 1 + 2 * x.2 + 1))) := by
        rw [List.zipIdx_cons, List.map_cons]
        rw [List.zipIdx_succ, List.map_map]
        simp only [Nat.mul_zero, Nat.add_zero, List.cons.injEq, true_and]
        refine List.map_congr_left fun x _ => ?_
        have q1 : s.toks + 2 * (x.2 + 1) = s.toks + 1 + 1 + 2 * x.2 := by omega
        simp only [Function.comp, q1]
      rw [e2]
      exact Stp.pure'
    case e => simp only [List.length_cons]; omega
theorem short_loop {H : Heap} {l : List Obj} (hn : n₀ ≤ H.objs.size) {f : (Value × Value) → PUnit → Sem (ForInStep PUnit)}
    (hf : ∀ x u, f x u = (do dictSet (H.objs.size + l.length) x.1 x.2; Pure.pure (.yield PUnit.unit))) (t0 : Nat) : ∀ (kvs : List (Int × PySem.Str)) (j : Nat) (s : Shared) (es : List DictEntry) (m : Nat), s.heap = hp H (l ++ [dob es m]) → es.length + kvs.length < 100000 →
      News' (es.map (·.hash)) (kvs.map fun x => hashInt x.1) →
      Stp p w n₀ ann (10 * kvs.length) s q (forIn ((kvs.zipIdx j).map fun x => (Value.int x.1.1 (t0 + 2 * x.2), Value.str x.1.2 (t0 + 2 * x.2 + 1))) PUnit.unit f) { s with heap := hp H (l ++ [dob (es ++ ents 2 (t0 + 2 * j) kvs) (m + kvs.length)]), toks := s.toks + kvs.length } q PUnit.unit
  | [], j, s, es, m, hs, _, _ => by
    have e : ({ s with heap := hp H (l ++ [dob (es ++ ents 2 (t0 + 2 * j) []) (m + 0)]), toks := s.toks + 0 } : Shared) = s := by
      simp only [ents, List.append_nil, Nat.add_zero, ← hs]
    show Stp p w n₀ ann 0 s q _ ({ s with heap := hp H (l ++ [dob (es ++ ents 2 (t0 + 2 * j) []) (m + 0)]), toks := s.toks + 0 } : Shared) q PUnit.unit
    rw [e]
    exact Stp.pure'
  | (k, v) :: r, j, s, es, m, hs, hsz, hN => by
    rw [List.zipIdx_cons, List.map_cons, List.forIn_cons, hf]
    simp only [List.length_cons, List.map_cons, News'] at hsz hN ⊢
    have step := set_new (p := p) (w := w) (n₀ := n₀) (ann := ann) (s := s) (q := q) (H := H) (l := l ++ [dob es m]) (i := l.length) (es := es) (m := m) (k := k) (t := t0 + 2 * j) (v := .str v (t0 + 2 * j + 1)) hs (by simp) (by omega) hn (free_of hN.1)
    rw [set_last] at step
    have rest := short_loop hn hf t0 r (j + 1) { s with heap := hp H (l ++ [dob (es ++ [ent k v (t0 + 2 * j)]) (m + 1)]), toks := s.toks + 1 } (es ++ [ent k v (t0 + 2 * j)]) (m + 1) rfl (by simp; omega) (by rw [List.map_append]; exact hN.2)
    refine' Stp.cnt ?e (Stp.bind (a := ForInStep.yield PUnit.unit) (Stp.bind step Stp.pure') ?r)
    case r =>
      dsimp only
      have e1 : es ++ [ent k v (t0 + 2 * j)] ++ ents 2 (t0 + 2 * (j + 1)) r = es ++ ents 2 (t0 + 2 * j) ((k, v) :: r) := by
        simp [ents]; rw [show t0 + 2 * (j + 1) = t0 + 2 * j + 2 by omega]
      have e2 : m + 1 + r.length = m + (r.length + 1) := by omega
      have e3 : s.toks + 1 + r.length = s.toks + (r.length + 1) := by omega
      dsimp only at rest
      rw [e1, e2, e3] at rest
      exact rest
    case e => omega
theorem subDict_short {pos : Pos} {H : Heap} {l : List Obj} (hn : n₀ ≤ H.objs.size) {ps kvs} (h : Els p w n₀ ann pos ps kvs) (h15 : kvs.length ≤ 15) (hs : s.heap = hp H l) (hN : News' [] (kvs.map fun x => hashInt x.1)) :
    Stp p w n₀ ann (1 + 13 * kvs.length) s pos (subDict ps) { s with heap := hp H (l ++ [dob (ents 2 s.toks kvs) kvs.length]), toks := s.toks + 3 * kvs.length } pos (H.objs.size + l.length) := by
  unfold subDict
  have e0 : s.heap.push (dob [] 0) = hp H (l ++ [dob [] 0]) := by rw [hs]; exact hp_push H l _
  have ea : s.heap.objs.size = H.objs.size + l.length := by rw [hs, hp_size]
  have hl : ps.length ≤ 15 := by rw [h.len]; omega
  refine' Stp.cnt ?e (Stp.bind (Stp.alloc (n := 0) Stp.pure) ?r)
  case r =>
    rw [ea]
    rw [if_pos hl]
    refine' Stp.bind (a := ()) (Stp.holding (Stp.bind (pairs_ok h _) (Stp.holding (Stp.bind ?g Stp.pure')))) Stp.pure'
    case g =>
      have L := short_loop (p := p) (w := w) (n₀ := n₀) (ann := ann) (q := pos) (H := H) (l := l) hn (f := fun x u => (do dictSet (H.objs.size + l.length) x.1 x.2; Pure.pure (.yield PUnit.unit))) (fun x u => rfl) s.toks kvs 0
        { s with heap := s.heap.push (dob [] 0), toks := s.toks + 2 * kvs.length } [] 0 e0 (by simp; omega) hN
      simp only [List.nil_append, Nat.zero_add, Nat.mul_zero, Nat.add_zero] at L
      have e3 : s.toks + 2 * kvs.length + kvs.length = s.toks + 3 * kvs.length := by omega
      rw [e3] at L
      exact L
  case e => omega
end
end Mine
end
section
open PySem PySem.W PySem.Calls PyProof.Rows
namespace Mine
section
variable {p : Program} {w : World} {n₀ : Nat} {ann : Option Value} {α β : Type} {s s₁ : Shared} {q q₁ : Pos} {n : Nat}
/-- entries under ints, their hashes the ints' own -/
def IntKeyed (es : List DictEntry) : Prop := ∀ e ∈ es, ∃ k t, e.key = .int k t
theorem ents_keyed (g : Nat) : ∀ (t : Nat) (l : List (Int × PySem.Str)), IntKeyed (ents g t l)
  | _, [] => fun _ he => nomatch he
  | t, (k, v) :: r => fun e he => by
    rcases List.mem_cons.mp he with rfl | he
    · exact ⟨k, t, rfl⟩
    · exact ents_keyed g (t + g) r e he
theorem put_new {H : Heap} {l : List Obj} {i : Nat} {es : List DictEntry} {m : Nat} {h k : Int} {t : Tok} {v : Value} (hs : s.heap = hp H l) (hi : l[i]? = some (dob es m)) (hsz : es.length < 100000) (hn : n₀ ≤ H.objs.size) (f : Free es h) :
    Stp p w n₀ ann 4 s q (dictPut (H.objs.size + i) h (.int k t) v) { s with heap := hp H (l.set i (dob (es ++ [⟨h, .int k t, v⟩]) (m + 1))) } q () := by
  unfold dictPut
  refine Stp.bind (n := 1) (k := 3) (find_new (by rw [hs]; exact hp_get H l i es m hi) f) ?_
  exact keys_push hs hi hsz hn
theorem epoch_ok {H : Heap} {l : List Obj} {i : Nat} {es : List DictEntry} {m : Nat} (hs : s.heap = hp H l) (hi : l[i]? = some (dob es m)) : Stp p w n₀ ann 1 s q (dictEpoch (H.objs.size + i)) s q m := by
  unfold dictEpoch
  exact Stp.bind (n := 1) (k := 0) (Stp.load (by rw [hs]; exact hp_get H l i es m hi) Stp.pure) Stp.pure'
theorem entries_ok {H : Heap} {l : List Obj} {i : Nat} {es : List DictEntry} {m : Nat} (hs : s.heap = hp H l) (hi : l[i]? = some (dob es m)) : Stp p w n₀ ann 1 s q (dictEntries (H.objs.size + i)) s q es.toArray := by
  unfold dictEntries
  exact Stp.bind (n := 1) (k := 0) (Stp.load (by rw [hs]; exact hp_get H l i es m hi) Stp.pure) Stp.pure'
theorem merge_loop {H : Heap} {j : Nat} {es' : List DictEntry} {m' : Nat} (hn : n₀ ≤ H.objs.size) (hj : 0 < j) (hk : IntKeyed es') {f : Nat → PUnit → Sem (ForInStep PUnit)}
    (hf : ∀ i u, f i u = (do
      match (← dictEntries (H.objs.size + j))[i]? with
      | some e => do
        holding [e.key, e.val] (do
          if false = true then
            if (← dictFind (H.objs.size + 0) e.key e.hash).isSome then rule "dict.merge.duplicate-key"; raiseNew (← newExc (.type "KeyError") [e.key])
          dictPut (H.objs.size + 0) e.hash e.key e.val)
        if (← dictEpoch (H.objs.size + j)) != m' then unsupported "dict.changed-during-merge"
        Pure.pure (.yield PUnit.unit)
      | _ => unsupported "dict.changed-during-merge")) :
    ∀ (c i : Nat) (s : Shared) (l : List Obj) (es : List DictEntry) (m : Nat), i + c = es'.length → s.heap = hp H l → l[0]? = some (dob es m) → l[j]? = some (dob es' m') → es.length + c < 100000 → News' (es.map (·.hash)) ((es'.drop i).map (·.hash)) →
      Stp p w n₀ ann (6 * c) s q (forIn (List.range' i c) PUnit.unit f) { s with heap := hp H (l.set 0 (dob (es ++ es'.drop i) (m + c))) } q PUnit.unit
  | 0, i, s, l, es, m, hc, hs, h0, _, _, _ => by
    have e0 : es'.drop i = [] := List.drop_eq_nil_of_le (by omega)
    have e1 : l.set 0 (dob (es ++ es'.drop i) (m + 0)) = l := by
      rw [e0, List.append_nil, Nat.add_zero]
      cases l with
      | nil => rfl
      | cons a r => simp at h0; rw [h0]; rfl
    rw [e1, ← hs]
    exact Stp.pure'
  | c + 1, i, s, l, es, m, hc, hs, h0, hj', hsz, hN => by
    have hlt : i < es'.length := by omega
    have ed : es'.drop i = es'[i] :: es'.drop (i + 1) := List.drop_eq_getElem_cons hlt
    rw [ed, List.map_cons] at hN
    obtain ⟨hN1, hN2⟩ := hN
    obtain ⟨k, t, hkt⟩ := hk es'[i] (List.getElem_mem hlt)
    have ee : es'[i] = ⟨es'[i].hash, .int k t, es'[i].val⟩ := by rw [← hkt]
    generalize es'[i] = e at *
    obtain ⟨h, ky, v⟩ := e
    dsimp only at hkt
    subst hkt
    rw [List.range'_succ, List.forIn_cons, hf]
    have eg : es'.toArray[i]? = some ⟨h, .int k t, v⟩ := by
      have := congrArg (·[0]?) ed
      simp at this
      simpa using this
    have step := put_new (p := p) (w := w) (n₀ := n₀) (ann := ann) (s := s) (q := q) (H := H) (l := l) (i := 0) (es := es) (m := m) (h := h) (k := k) (t := t) (v := v) hs h0 (by omega) hn (free_of hN1)
    have hl0 : 0 < l.length := by rcases List.getElem?_eq_some_iff.mp h0 with ⟨h, _⟩; exact h
    have g0 : (l.set 0 (dob (es ++ [⟨h, .int k t, v⟩]) (m + 1)))[0]? = some (dob (es ++ [⟨h, .int k t, v⟩]) (m + 1)) := by simp [hl0]
    have gj : (l.set 0 (dob (es ++ [⟨h, .int k t, v⟩]) (m + 1)))[j]? = some (dob es' m') := by rw [List.getElem?_set_ne (by omega)]; exact hj'
    have rest := merge_loop hn hj hk hf c (i + 1) { s with heap := hp H (l.set 0 (dob (es ++ [⟨h, .int k t, v⟩]) (m + 1))) } _ (es ++ [⟨h, .int k t, v⟩]) (m + 1) (by omega) rfl g0 gj (by simp; omega) (by rw [List.map_append]; exact hN2)
    refine' Stp.cnt ?e (Stp.bind (a := ForInStep.yield PUnit.unit) (s₁ := { s with heap := hp H (l.set 0 (dob (es ++ [⟨h, .int k t, v⟩]) (m + 1))) }) (q₁ := q) (n := 6)
      (Stp.bind (n := 1) (k := 5) (entries_ok hs hj') ?bb) ?r)
    case bb =>
      rw [eg]
      refine' Stp.bind (n := 4) (k := 1) (a := ()) (q₁ := q) (s₁ := { s with heap := hp H (l.set 0 (dob (es ++ [⟨h, .int k t, v⟩]) (m + 1))) }) (Stp.holding ?_) ?_
      · show Stp p w n₀ ann 4 s q (if false = true then _ else _) _ _ _
        rw [if_neg (by decide)]
        exact step
      · refine Stp.bind (n := 1) (k := 0) (epoch_ok (s := { s with heap := hp H (l.set 0 (dob (es ++ [⟨h, .int k t, v⟩]) (m + 1))) }) rfl gj) ?_
        show Stp p w n₀ ann 0 _ q (if (m' != m') = true then _ else _) _ _ _
        rw [if_neg (by simp)]
        exact Stp.pure'
    case r =>
      dsimp only at rest ⊢
      rw [List.set_set] at rest
      have e1 : es ++ [⟨h, .int k t, v⟩] ++ es'.drop (i + 1) = es ++ es'.drop i := by rw [ed]; simp
      have e2 : m + 1 + c = m + (c + 1) := by omega
      rw [e1, e2] at rest
      exact rest
    case e => omega
end
end Mine
end
section
open PySem PySem.W PySem.Calls PyProof.Rows
namespace Mine
section
variable {p : Program} {w : World} {n₀ : Nat} {ann : Option Value} {α β : Type} {s s₁ : Shared} {q q₁ : Pos} {n : Nat}
theorem typeOf_dict {H : Heap} {l : List Obj} {i : Nat} {es : List DictEntry} {m : Nat} (hs : s.heap = hp H l) (hi : l[i]? = some (dob es m)) : Stp p w n₀ ann 1 s q (typeOf (.ref (H.objs.size + i))) s q (.type "dict") := by
  unfold typeOf
  exact Stp.bind (n := 1) (k := 0) (Stp.load (by rw [hs]; exact hp_get H l i es m hi) Stp.pure) Stp.pure'
theorem pure_is {a b : α} (e : a = b) : Stp p w n₀ ann 0 s q (Pure.pure a : Sem α) s q b := e ▸ Stp.pure'
theorem sub_dict : isSubtype (.type "dict") (.type "dict") = Pure.pure true := by rw [isSubtype_type]; kernel_rfl
theorem merge_ok {H : Heap} {l : List Obj} {j : Nat} {es es' : List DictEntry} {m m' : Nat} (hn : n₀ ≤ H.objs.size) (hj : 0 < j) (hk : IntKeyed es') (hs : s.heap = hp H l) (h0 : l[0]? = some (dob es m)) (hj' : l[j]? = some (dob es' m')) (hne : es ≠ [])
    (hsz : es.length + es'.length < 100000) (hN : News' (es.map (·.hash)) (es'.map (·.hash))) (hsm : (H.objs.size + j == sysModules) = false) :
    Stp p w n₀ ann (5 + 6 * es'.length) s q (mergeMapping (H.objs.size + 0) (.ref (H.objs.size + j)) false) { s with heap := hp H (l.set 0 (dob (es ++ es') (m + es'.length))) } q () := by
  unfold mergeMapping
  have L := merge_loop (p := p) (w := w) (n₀ := n₀) (ann := ann) (q := q) (H := H) (j := j) (es' := es') (m' := m') hn hj hk (fun i u => rfl) es'.length 0 s l es m (by omega) hs h0 hj' hsz (by simpa using hN)
  rw [List.drop_zero] at L
  have i1 : Stp p w n₀ ann 1 s q (isInstance (.ref (H.objs.size + j)) (.type "dict")) s q true := by
    unfold isInstance
    exact Stp.bind (n := 1) (k := 0) (typeOf_dict hs hj') (.to sub_dict Stp.pure')
  have i2 : Stp p w n₀ ann 1 s q (specialOf (.ref (H.objs.size + j)) "__iter__") s q (some (.builtin "dict.__iter__")) := by
    unfold specialOf
    exact Stp.bind (n := 1) (k := 0) (typeOf_dict hs hj') (.to F.slot_dict_iter.lookup Stp.pure')
  refine' Stp.cnt ?e (Stp.bind i1 ?r)
  case r =>
    rw [if_pos rfl]
    refine' Stp.bind i2 ?g1
    case g1 =>
      refine' Stp.bind (pure_is (b := true) ?hb) ?hr
      case hb => decide
      case hr =>
        dsimp only
        rw [hsm, if_neg Bool.false_ne_true]
        refine' Stp.bind (entries_ok hs h0) ?g2
        case g2 =>
          rw [if_neg (by simp [hne])]
          refine' Stp.bind (entries_ok hs hj') ?g3
          case g3 =>
            refine' Stp.bind (epoch_ok hs hj') ?g4
            case g4 =>
              rw [List.size_toArray, List.range_eq_range']
              exact Stp.bind (k := 0) L Stp.pure'
  case e => omega
end
end Mine
end
section
open PySem PySem.W PySem.Calls PyProof.Rows
namespace Mine
section
variable {p : Program} {w : World} {n₀ : Nat} {ann : Option Value} {α β : Type} {s s₁ : Shared} {q q₁ : Pos} {n : Nat}
abbrev SPair := Sem Value × Sem Value
abbrev IPair := Int × PySem.Str
/-- what a display does with the pairs that it has gathered -/
def flsh (run : List SPair) (main : Option Addr) : Sem (Option Addr) :=
  if run.isEmpty = true then Pure.pure main
  else match main with
    | none => do
      let x ← subDict run
      Pure.pure (some x)
    | some d => do
      let sub ← holding [Value.ref d] (subDict run)
      (holding [Value.ref d, Value.ref sub] (mergeMapping d (Value.ref sub) false)).onRaise fun x => do
          let _ ← holding [Value.ref d, x] (runValue (Code.builtin "proto.let_go" { }))
          Pure.pure ()
      Pure.pure (some d)
theorem ents_append (g : Nat) : ∀ (t : Nat) (a b : List IPair), ents g t (a ++ b) = ents g t a ++ ents g (t + g * a.length) b
  | _, [], _ => by simp [ents]
  | t, (k, v) :: r, b => by
    rw [List.cons_append, ents, ents, ents_append g (t + g) r b, List.cons_append, List.length_cons, Nat.mul_add, Nat.mul_one, Nat.add_assoc, Nat.add_comm g]
theorem news_app : ∀ (hs a b : List Int), News' hs (a ++ b) ↔ News' hs a ∧ News' (hs ++ a) b
  | hs, [], b => by simp [News']
  | hs, h :: r, b => by
    rw [List.cons_append, News', News', news_app (hs ++ [h]) r b, and_assoc, List.append_assoc]; rfl
theorem news_less : ∀ (x hs a : List Int), News' (x ++ hs) a → News' hs a
  | x, hs, [], _ => trivial
  | x, hs, h :: r, e => ⟨fun m => e.1 (List.mem_append_right _ m), news_less x _ r (by rw [← List.append_assoc]; exact e.2)⟩
theorem els_ne {pos : Pos} {ps : List SPair} {kvs : List IPair} (h : Els p w n₀ ann pos ps kvs) (h0 : 0 < kvs.length) : ps.isEmpty = false := by
  cases h with
  | nil => simp at h0
  | cons => rfl
theorem flush_first {pos : Pos} {H : Heap} (hn : n₀ ≤ H.objs.size) {ps : List SPair} {kvs : List IPair} (h : Els p w n₀ ann pos ps kvs) (h15 : 15 < kvs.length) (hsz : kvs.length < 100000) (hs : s.heap = hp H []) (hN : News' [] (kvs.map fun x => hashInt x.1)) :
    Stp p w n₀ ann (2 + 13 * kvs.length) s pos (flsh ps none) { s with heap := hp H [dob (ents 3 s.toks kvs) kvs.length], toks := s.toks + 3 * kvs.length } pos (some (H.objs.size + 0)) := by
  unfold flsh
  rw [els_ne h (by omega), if_neg Bool.false_ne_true]
  exact Stp.bind (k := 0) (subDict_long hn h h15 hsz hs hN) Stp.pure'
theorem flush_more {pos : Pos} {H : Heap} {es : List DictEntry} {m : Nat} {subs : List Obj} (hn : n₀ ≤ H.objs.size) {ps : List SPair} {kvs : List IPair} (h : Els p w n₀ ann pos ps kvs) (h15 : 15 < kvs.length) (hne : es ≠ []) (hsz : es.length + kvs.length < 100000)
    (hs : s.heap = hp H (dob es m :: subs)) (hN : News' (es.map (·.hash)) (kvs.map fun x => hashInt x.1)) (hsm : (H.objs.size + (subs.length + 1) == sysModules) = false) :
    Stp p w n₀ ann (7 + 19 * kvs.length) s pos (flsh ps (some (H.objs.size + 0))) { s with heap := hp H (dob (es ++ ents 3 s.toks kvs) (m + kvs.length) :: (subs ++ [dob (ents 3 s.toks kvs) kvs.length])), toks := s.toks + 3 * kvs.length } pos (some (H.objs.size + 0)) := by
  unfold flsh
  rw [els_ne h (by omega), if_neg Bool.false_ne_true]
  have S := subDict_long (p := p) (w := w) (n₀ := n₀) (ann := ann) hn h h15 (by omega) hs (news_less (es.map (·.hash)) [] _ (by simpa using hN))
  have ml : (ents 3 s.toks kvs).length = kvs.length := ents_length _ _ _
  have M := merge_ok (p := p) (w := w) (n₀ := n₀) (ann := ann) (s := { s with heap := hp H (dob es m :: subs ++ [dob (ents 3 s.toks kvs) kvs.length]), toks := s.toks + 3 * kvs.length }) (q := pos) (l := dob es m :: subs ++ [dob (ents 3 s.toks kvs) kvs.length]) (j := subs.length + 1)
    (es := es) (m := m) (es' := ents 3 s.toks kvs) (m' := kvs.length) hn (by omega) (ents_keyed _ _ _) rfl rfl (by simp) hne (by omega) (by rw [ents_hash]; exact hN) hsm
  rw [ml] at M
  refine' Stp.cnt ?e (Stp.bind (Stp.holding S) ?r)
  case r => exact Stp.bind (k := 0) (Stp.onRaise (Stp.holding M)) Stp.pure'
  case e => omega
theorem flush_last {pos : Pos} {H : Heap} {es : List DictEntry} {m : Nat} {subs : List Obj} (hn : n₀ ≤ H.objs.size) {ps : List SPair} {kvs : List IPair} (h : Els p w n₀ ann pos ps kvs) (h15 : kvs.length ≤ 15) (h0 : 0 < kvs.length) (hne : es ≠ []) (hsz : es.length + kvs.length < 100000)
    (hs : s.heap = hp H (dob es m :: subs)) (hN : News' (es.map (·.hash)) (kvs.map fun x => hashInt x.1)) (hsm : (H.objs.size + (subs.length + 1) == sysModules) = false) :
    Stp p w n₀ ann (6 + 19 * kvs.length) s pos (flsh ps (some (H.objs.size + 0))) { s with heap := hp H (dob (es ++ ents 2 s.toks kvs) (m + kvs.length) :: (subs ++ [dob (ents 2 s.toks kvs) kvs.length])), toks := s.toks + 3 * kvs.length } pos (some (H.objs.size + 0)) := by
  unfold flsh
  rw [els_ne h (by omega), if_neg Bool.false_ne_true]
  have S := subDict_short (p := p) (w := w) (n₀ := n₀) (ann := ann) hn h h15 hs (news_less (es.map (·.hash)) [] _ (by simpa using hN))
  have ml : (ents 2 s.toks kvs).length = kvs.length := ents_length _ _ _
  have M := merge_ok (p := p) (w := w) (n₀ := n₀) (ann := ann) (s := { s with heap := hp H (dob es m :: subs ++ [dob (ents 2 s.toks kvs) kvs.length]), toks := s.toks + 3 * kvs.length }) (q := pos) (l := dob es m :: subs ++ [dob (ents 2 s.toks kvs) kvs.length]) (j := subs.length + 1)
    (es := es) (m := m) (es' := ents 2 s.toks kvs) (m' := kvs.length) hn (by omega) (ents_keyed _ _ _) rfl rfl (by simp) hne (by omega) (by rw [ents_hash]; exact hN) hsm
  rw [ml] at M
  refine' Stp.cnt ?e (Stp.bind (Stp.holding S) ?r)
  case r => exact Stp.bind (k := 0) (Stp.onRaise (Stp.holding M)) Stp.pure'
  case e => omega
end
end Mine
end
section
open PySem PySem.W PySem.Calls PyProof.Rows
namespace Mine
section
variable {p : Program} {w : World} {n₀ : Nat} {ann : Option Value} {α β : Type} {s s₁ : Shared} {q q₁ : Pos} {n : Nat}
def mkItem (x : SPair) : Option (Sem Value) × Sem Value := (some x.1, x.2)
abbrev LoopF := (Option (Sem Value) × Sem Value) → (Option Addr × List SPair) → Sem (ForInStep (Option Addr × List SPair))
theorem gather {f : LoopF} (hf : ∀ x run main, f (mkItem x) (main, run) = if ((run ++ [x]).length == 17) = true then (do let m ← flsh (run ++ [x]) main; Pure.pure (.yield (m, []))) else Pure.pure (.yield (main, run ++ [x]))) (rest : List (Option (Sem Value) × Sem Value)) (main : Option Addr) :
    ∀ (l run : List SPair), run.length + l.length < 17 → forIn (l.map mkItem ++ rest) (main, run) f = forIn rest (main, run ++ l) f
  | [], run, _ => by simp
  | x :: l, run, h => by
    simp only [List.length_cons] at h
    rw [List.map_cons, List.cons_append, List.forIn_cons, hf, if_neg (by simp; omega), pure_bind]
    have := gather hf rest main l (run ++ [x]) (by simp; omega)
    simpa using this
theorem chunk {f : LoopF} (hf : ∀ x run main, f (mkItem x) (main, run) = if ((run ++ [x]).length == 17) = true then (do let m ← flsh (run ++ [x]) main; Pure.pure (.yield (m, []))) else Pure.pure (.yield (main, run ++ [x]))) (rest : List (Option (Sem Value) × Sem Value)) (main : Option Addr)
    (l : List SPair) (h : l.length = 17) : forIn (l.map mkItem ++ rest) (main, []) f = (do let m ← flsh l main; forIn rest (m, []) f) := by
  obtain ⟨a, x, rfl⟩ : ∃ a x, l = a ++ [x] := ⟨l.dropLast, l.getLast (by intro e; simp [e] at h), (List.dropLast_concat_getLast _).symm⟩
  have ha : a.length = 16 := by simp at h; exact h
  rw [List.map_append, List.append_assoc, gather hf _ main a [] (by simp [ha])]
  simp only [List.map_cons, List.map_nil, List.cons_append, List.nil_append, List.forIn_cons]
  rw [hf, if_pos (by simp [ha])]
  simp only [bind_assoc, pure_bind]
/-- chunks of seventeen -/
inductive Chs (p : Program) (w : World) (n₀ : Nat) (ann : Option Value) (pos : Pos) : List (List SPair) → List (List IPair) → Prop
  | nil : Chs p w n₀ ann pos [] []
  | cons {c k cs ks} : Els p w n₀ ann pos c k → k.length = 17 → Chs p w n₀ ann pos cs ks → Chs p w n₀ ann pos (c :: cs) (k :: ks)
def subsOf : Nat → List (List IPair) → List Obj
  | _, [] => []
  | t, c :: r => dob (ents 3 t c) c.length :: subsOf (t + 3 * c.length) r
theorem subsOf_length : ∀ (t : Nat) (l : List (List IPair)), (subsOf t l).length = l.length
  | _, [] => rfl
  | t, c :: r => by simp [subsOf, subsOf_length _ r]
theorem sm_ne {H : Heap} (hsm : sysModules < H.objs.size) (j : Nat) : (H.objs.size + j == sysModules) = false := by
  rw [beq_eq_false_iff_ne]
  intro e
  rw [← e] at hsm
  exact absurd hsm (Nat.not_lt.mpr (Nat.le_add_right _ _))
theorem chunks_ok {pos : Pos} {H : Heap} (hn : n₀ ≤ H.objs.size) (hsm : sysModules < H.objs.size) {f : LoopF}
    (hf : ∀ x run main, f (mkItem x) (main, run) = if ((run ++ [x]).length == 17) = true then (do let m ← flsh (run ++ [x]) main; Pure.pure (.yield (m, []))) else Pure.pure (.yield (main, run ++ [x])))
    {rest : List (Option (Sem Value) × Sem Value)} {n : Nat} {s₂ : Shared} {q₂ : Pos} {a : Option Addr × List SPair} {cs ks} (h : Chs p w n₀ ann pos cs ks) :
    ∀ (s : Shared) (es : List DictEntry) (m : Nat) (subs : List Obj), s.heap = hp H (dob es m :: subs) → es ≠ [] → es.length + ks.flatten.length < 100000 → News' (es.map (·.hash)) (ks.flatten.map fun x => hashInt x.1) →
      Stp p w n₀ ann n { s with heap := hp H (dob (es ++ ents 3 s.toks ks.flatten) (m + ks.flatten.length) :: (subs ++ subsOf s.toks ks)), toks := s.toks + 3 * ks.flatten.length } pos (forIn rest (some (H.objs.size + 0), []) f) s₂ q₂ a →
      Stp p w n₀ ann (330 * ks.length + n) s pos (forIn ((cs.flatten).map mkItem ++ rest) (some (H.objs.size + 0), []) f) s₂ q₂ a := by
  induction h with
  | nil =>
    intro s es m subs hs _ _ _ hr
    have e : ({ s with heap := hp H (dob (es ++ ents 3 s.toks ([] : List (List IPair)).flatten) (m + ([] : List (List IPair)).flatten.length) :: (subs ++ subsOf s.toks [])), toks := s.toks + 3 * ([] : List (List IPair)).flatten.length } : Shared) = s := by
      simp only [List.flatten_nil, ents, subsOf, List.append_nil, List.length_nil, Nat.add_zero, Nat.mul_zero, ← hs]
    rw [e] at hr
    simpa using hr
  | @cons c k cs ks hc hk _ ih =>
    intro s es m subs hs hne hsz hN hr
    have hcl : c.length = 17 := by rw [hc.len, hk]
    simp only [List.flatten_cons, List.length_append, List.map_append] at hsz hN hr
    obtain ⟨hN1, hN2⟩ := (news_app _ _ _).mp hN
    have F := flush_more (p := p) (w := w) (n₀ := n₀) (ann := ann) (subs := subs) hn hc (by omega) hne (by omega) hs hN1 (sm_ne hsm _)
    have R := ih { s with heap := hp H (dob (es ++ ents 3 s.toks k) (m + k.length) :: (subs ++ [dob (ents 3 s.toks k) k.length])), toks := s.toks + 3 * k.length } (es ++ ents 3 s.toks k) (m + k.length) (subs ++ [dob (ents 3 s.toks k) k.length]) rfl (by simp [hne])
      (by rw [List.length_append, ents_length]; omega) (by rw [List.map_append, ents_hash]; exact hN2)
    rw [List.flatten_cons, List.map_append, List.append_assoc, chunk hf _ _ c hcl]
    refine' Stp.cnt ?e (Stp.bind F (R ?r))
    case r =>
      dsimp only
      have e1 : es ++ ents 3 s.toks (k ++ ks.flatten) = es ++ ents 3 s.toks k ++ ents 3 (s.toks + 3 * k.length) ks.flatten := by rw [ents_append, List.append_assoc]
      have e2 : m + (k.length + ks.flatten.length) = m + k.length + ks.flatten.length := by omega
      have e3 : s.toks + 3 * (k.length + ks.flatten.length) = s.toks + 3 * k.length + 3 * ks.flatten.length := by omega
      have e4 : subs ++ subsOf s.toks (k :: ks) = subs ++ [dob (ents 3 s.toks k) k.length] ++ subsOf (s.toks + 3 * k.length) ks := by simp [subsOf]
      rw [e1, e2, e3, e4] at hr
      exact hr
    case e => rw [hk, List.length_cons]; omega
theorem disp_gen {f : LoopF} (hf : ∀ x run main, f (mkItem x) (main, run) = if ((run ++ [x]).length == 17) = true then (do let m ← flsh (run ++ [x]) main; Pure.pure (.yield (m, []))) else Pure.pure (.yield (main, run ++ [x])))
    {g : (Option Addr × List SPair) → Sem Value} (hg : ∀ main run, g (main, run) = (do match ← flsh run main with | some d => Pure.pure (.ref d) | none => newDict))
    {pos : Pos} {H : Heap} (hn : n₀ ≤ H.objs.size) (hsm : sysModules < H.objs.size) {c₀ cs cl k₀ ks kl} (h₀ : Els p w n₀ ann pos c₀ k₀) (h17 : k₀.length = 17) (h : Chs p w n₀ ann pos cs ks) (hl : Els p w n₀ ann pos cl kl) (hl15 : kl.length ≤ 15) (hl0 : 0 < kl.length)
    (hs : s.heap = hp H []) (hsz : 17 + ks.flatten.length + kl.length < 100000) (hN : News' [] ((k₀ ++ (ks.flatten ++ kl)).map fun x => hashInt x.1)) :
    Stp p w n₀ ann (223 + 330 * ks.length + (6 + 19 * kl.length)) s pos (forIn ((c₀ ++ (cs.flatten ++ cl)).map mkItem) ((none : Option Addr), ([] : List SPair)) f >>= g)
      { s with heap := hp H (dob (ents 3 s.toks (k₀ ++ ks.flatten) ++ ents 2 (s.toks + 3 * (17 + ks.flatten.length)) kl) (17 + ks.flatten.length + kl.length) ::
          (subsOf (s.toks + 51) ks ++ [dob (ents 2 (s.toks + 3 * (17 + ks.flatten.length)) kl) kl.length])), toks := s.toks + 3 * (17 + ks.flatten.length + kl.length) } pos (.ref (H.objs.size + 0)) := by
  have hc0 : c₀.length = 17 := by rw [h₀.len, h17]
  have hcl : cl.length < 17 := by rw [hl.len]; omega
  rw [List.map_append, List.map_append] at hN
  obtain ⟨hN1, hN23⟩ := (news_app _ _ _).mp hN
  obtain ⟨hN2, hN3⟩ := (news_app _ _ _).mp hN23
  rw [List.nil_append] at hN2 hN3
  rw [List.map_append, List.map_append, chunk hf _ _ c₀ hc0]
  have F := flush_first (p := p) (w := w) (n₀ := n₀) (ann := ann) hn h₀ (by omega) (by omega) hs hN1
  have e0 : (ents 3 s.toks k₀).length = 17 := by rw [ents_length, h17]
  have hne : ents 3 s.toks k₀ ≠ [] := by intro e; rw [e] at e0; simp at e0
  have L := flush_last (p := p) (w := w) (n₀ := n₀) (ann := ann)
    (s := { s with heap := hp H (dob (ents 3 s.toks k₀ ++ ents 3 (s.toks + 3 * k₀.length) ks.flatten) (k₀.length + ks.flatten.length) :: ([] ++ subsOf (s.toks + 3 * k₀.length) ks)), toks := s.toks + 3 * k₀.length + 3 * ks.flatten.length })
    (subs := [] ++ subsOf (s.toks + 3 * k₀.length) ks) hn hl hl15 hl0 (by simp [hne]) (by rw [List.length_append, ents_length, ents_length]; omega) rfl (by rw [List.map_append, ents_hash, ents_hash]; exact hN3) (sm_ne hsm _)
  have C := chunks_ok (p := p) (w := w) (n₀ := n₀) (ann := ann) (f := f) hn hsm hf (rest := cl.map mkItem) h { s with heap := hp H [dob (ents 3 s.toks k₀) k₀.length], toks := s.toks + 3 * k₀.length } (ents 3 s.toks k₀) k₀.length [] rfl hne (by rw [ents_length]; omega) (by rw [ents_hash]; exact hN2)
    (n := 0) (s₂ := { s with heap := hp H (dob (ents 3 s.toks k₀ ++ ents 3 (s.toks + 3 * k₀.length) ks.flatten) (k₀.length + ks.flatten.length) :: ([] ++ subsOf (s.toks + 3 * k₀.length) ks)), toks := s.toks + 3 * k₀.length + 3 * ks.flatten.length }) (q₂ := pos) (a := (some (H.objs.size + 0), cl))
    (.to (by have := gather hf [] (some (H.objs.size + 0)) cl [] (by simp; omega); simpa using this) Stp.pure')
  rw [bind_assoc]
  refine' Stp.cnt ?e (Stp.bind F (Stp.bind C ?r))
  case r =>
    rw [hg]
    refine' Stp.bind (k := 0) ?r1 ?r2
    case r1 => exact L
    case r2 =>
      dsimp only
      have e1 : ents 3 s.toks (k₀ ++ ks.flatten) = ents 3 s.toks k₀ ++ ents 3 (s.toks + 3 * k₀.length) ks.flatten := ents_append 3 s.toks k₀ _
      have e2 : s.toks + 3 * (17 + ks.flatten.length) = s.toks + 3 * k₀.length + 3 * ks.flatten.length := by omega
      have e3 : 17 + ks.flatten.length + kl.length = k₀.length + ks.flatten.length + kl.length := by omega
      have e4 : s.toks + 51 = s.toks + 3 * k₀.length := by omega
      have e5 : s.toks + 3 * (17 + ks.flatten.length + kl.length) = s.toks + 3 * k₀.length + 3 * ks.flatten.length + 3 * kl.length := by omega
      rw [e5, e1, e2, e3, e4, List.nil_append]
      exact Stp.pure'
  case e => omega
/-- the whole display: a first chunk, more chunks, a last short one -/
theorem display_ok {pos : Pos} {H : Heap} (hn : n₀ ≤ H.objs.size) (hsm : sysModules < H.objs.size) {c₀ cs cl k₀ ks kl} (h₀ : Els p w n₀ ann pos c₀ k₀) (h17 : k₀.length = 17) (h : Chs p w n₀ ann pos cs ks) (hl : Els p w n₀ ann pos cl kl) (hl15 : kl.length ≤ 15) (hl0 : 0 < kl.length)
    (hs : s.heap = hp H []) (hsz : 17 + ks.flatten.length + kl.length < 100000) (hN : News' [] ((k₀ ++ (ks.flatten ++ kl)).map fun x => hashInt x.1)) :
    Stp p w n₀ ann (223 + 330 * ks.length + (6 + 19 * kl.length)) s pos (dictDisplay ((c₀ ++ (cs.flatten ++ cl)).map mkItem))
      { s with heap := hp H (dob (ents 3 s.toks (k₀ ++ ks.flatten) ++ ents 2 (s.toks + 3 * (17 + ks.flatten.length)) kl) (17 + ks.flatten.length + kl.length) ::
          (subsOf (s.toks + 51) ks ++ [dob (ents 2 (s.toks + 3 * (17 + ks.flatten.length)) kl) kl.length])), toks := s.toks + 3 * (17 + ks.flatten.length + kl.length) } pos (.ref (H.objs.size + 0)) := by
  unfold dictDisplay
  exact disp_gen (fun x run main => rfl) (fun main run => rfl) hn hsm h₀ h17 h hl hl15 hl0 hs hsz hN
end
end Mine
end
section
open PySem PySem.W PySem.Calls PyProof.Rows
namespace Mine
section
variable {p : Program} {w : World} {n₀ : Nat} {ann : Option Value} {α β : Type} {s s₁ : Shared} {q q₁ : Pos} {n : Nat}
def cut {γ : Type} : Nat → List γ → List (List γ)
  | 0, _ => []
  | n + 1, l => l.take 17 :: cut n (l.drop 17)
theorem cut_flat {γ : Type} : ∀ (n : Nat) (l : List γ), (cut n l).flatten ++ l.drop (17 * n) = l
  | 0, l => by simp [cut]
  | n + 1, l => by
    have h := cut_flat n (l.drop 17)
    rw [List.drop_drop] at h
    rw [cut, List.flatten_cons, List.append_assoc, show 17 * (n + 1) = 17 + 17 * n by omega, h, List.take_append_drop]
theorem cut_len {γ : Type} : ∀ (n : Nat) (l : List γ), (cut n l).length = n
  | 0, _ => rfl
  | n + 1, l => by simp [cut, cut_len n]
theorem cut_flat_len {γ : Type} : ∀ (n : Nat) (l : List γ), 17 * n ≤ l.length → (cut n l).flatten.length = 17 * n
  | 0, _, _ => by simp [cut]
  | n + 1, l, h => by
    rw [cut, List.flatten_cons, List.length_append, cut_flat_len n _ (by rw [List.length_drop]; omega), List.length_take]; omega
theorem Els.take {pos : Pos} {ps : List SPair} {ks : List IPair} (h : Els p w n₀ ann pos ps ks) : ∀ n, Els p w n₀ ann pos (ps.take n) (ks.take n) := by
  induction h with
  | nil => intro n; simp; exact .nil
  | cons a _ ih => intro n; cases n with
    | zero => exact .nil
    | succ n => exact .cons a (ih n)
theorem Els.drop {pos : Pos} {ps : List SPair} {ks : List IPair} (h : Els p w n₀ ann pos ps ks) : ∀ n, Els p w n₀ ann pos (ps.drop n) (ks.drop n) := by
  induction h with
  | nil => intro n; simp; exact .nil
  | cons a b ih => intro n; cases n with
    | zero => exact .cons a b
    | succ n => exact ih n
theorem chs_cut {pos : Pos} : ∀ (n : Nat) {ps : List SPair} {ks : List IPair}, Els p w n₀ ann pos ps ks → 17 * n ≤ ks.length → Chs p w n₀ ann pos (cut n ps) (cut n ks)
  | 0, _, _, _, _ => .nil
  | n + 1, ps, ks, h, hl => .cons (h.take 17) (by rw [List.length_take]; omega) (chs_cut n (h.drop 17) (by rw [List.length_drop]; omega))

def keyOf : Option Expr → Int
  | some (.Constant (.int k) _ _) => k
  | _ => 0
def valOf : Expr → PySem.Str
  | .Constant (.str x) _ _ => x
  | _ => ⟨#[]⟩
def isKey : Option Expr → Bool
  | some (.Constant (.int _) _ _) => true
  | _ => false
def isVal : Expr → Bool
  | .Constant (.str _) _ _ => true
  | _ => false
/-- a display's written keys and texts -/
def kvsOf (ks : List (Option Expr)) (vs : List Expr) : List IPair := (ks.map keyOf).zip (vs.map valOf)
def pairsOf (env : Env) (pos : Pos) : List (Option Expr) → List Expr → List SPair
  | some k :: ks, v :: vs => (eval k env, do let x ← eval v env; standAt pos; Pure.pure x) :: pairsOf env pos ks vs
  | _, _ => []
theorem items_of (env : Env) (pos : Pos) : ∀ (ks : List (Option Expr)) (vs : List Expr), ks.all isKey = true → vs.all isVal = true →
    (evalEachOpt ks env).zip ((evalEach vs env).map fun v => do let x ← v; standAt pos; Pure.pure x) = (pairsOf env pos ks vs).map mkItem ∧ (∀ p w n₀ ann, Els p w n₀ ann pos (pairsOf env pos ks vs) (kvsOf ks vs))
  | [], vs, _, _ => ⟨by simp [evalEachOpt, pairsOf], fun _ _ _ _ => .nil⟩
  | k :: ks, [], _, _ => ⟨by cases k <;> simp [evalEach, pairsOf], fun _ _ _ _ => by cases k <;> simp [pairsOf, kvsOf] <;> exact .nil⟩
  | k :: ks, v :: vs, hk, hv => by
    simp only [List.all_cons, Bool.and_eq_true] at hk hv
    obtain ⟨ih1, ih2⟩ := items_of env pos ks vs hk.2 hv.2
    have hk1 := hk.1
    have hv1 := hv.1
    unfold isKey at hk1
    split at hk1
    · rename_i kk u1 u2
      unfold isVal at hv1
      split at hv1
      · rename_i xx u3 u4
        refine ⟨?_, fun p w n₀ ann => ?_⟩
        · rw [evalEachOpt, evalEach, List.map_cons, List.zip_cons_cons, ih1]
          rfl
        · refine .cons ⟨fun s q => ?_, fun s q => ?_⟩ (ih2 p w n₀ ann)
          · show Stp p w n₀ ann 1 s q (mkInt kk) _ q _
            exact Stp.bind (n := 1) (k := 0) (Stp.fresh Stp.pure) Stp.pure'
          · show Stp p w n₀ ann 2 s q (mkText xx >>= fun x => standAt pos >>= fun _ => Pure.pure x) _ pos _
            exact Stp.bind (n := 1) (k := 1) (Stp.bind (n := 1) (k := 0) (Stp.fresh Stp.pure) Stp.pure') (Stp.bind (n := 1) (k := 0) (Stp.at Stp.pure) Stp.pure')
      · cases hv1
    · cases hk1
end
end Mine
end
section
open PySem PySem.W PySem.Calls PyProof.Rows
namespace Mine
section
variable {p : Program} {w : World} {n₀ : Nat} {ann : Option Value} {α β : Type} {s s₁ : Shared} {q q₁ : Pos} {n : Nat}
theorem hp_get_low (H : Heap) (l : List Obj) {a : Nat} (h : a < H.objs.size) : (hp H l).get? a = H.get? a := by
  unfold Heap.get? hp
  dsimp only
  rw [Array.getElem?_append_left h]
theorem mod_low {γ : Type} (f : γ → γ) (l : List γ) : ∀ (a : List γ) (i : Nat), i < a.length → (a ++ l).modify i f = a.modify i f ++ l
  | [], i, h => by simp at h
  | x :: a, 0, _ => by simp
  | x :: a, i + 1, h => by
    rw [List.cons_append, List.modify_succ_cons, mod_low f l a i (by simpa using h), List.modify_succ_cons]; rfl
theorem hp_update_low (H : Heap) (l : List Obj) {a : Nat} (h : a < H.objs.size) (f : Obj → Obj) : (hp H l).update a f = hp (H.update a f) l := by
  unfold hp Heap.update
  simp only [Heap.mk.injEq, and_true]
  apply Array.ext'
  simp only [Array.toList_modify, Array.toList_append]
  exact mod_low _ _ _ _ (by simpa using h)
theorem nsSet_ok {H : Heap} {l : List Obj} {a : Nat} {x : PySem.Str} {v : Value} {o : Obj} {es : Array DictEntry} {m : Nat} (hs : s.heap = hp H l) (ha : a < H.objs.size) (ho : H.get? a = some o) (hd : o.data = .dict es m) (hr : aRefKeyMayBeTheName x es = false)
    (hb : (Nat.ble n₀ a || a == mainNs || a == cStatics || ann == some (.ref a)) = true) :
    Stp p w n₀ ann 4 s q (nsSet a x v) { s with heap := hp (H.update a (Obj.putName x (if x.cps.isEmpty then 0 else reduceHash (w.params.strHash x.cps)) (.str x s.toks) v)) l, toks := s.toks + 1 } q () := by
  have hg : s.heap.get? a = some o := by rw [hs, hp_get_low H l ha]; exact ho
  unfold nsSet strHash
  refine Stp.bind (n := 1) (k := 3) (Stp.bind (n := 1) (k := 0) (Stp.ask Stp.pure) Stp.pure') ?_
  refine Stp.bind (n := 1) (k := 2) (Stp.bind (n := 1) (k := 0) (Stp.fresh Stp.pure) Stp.pure') ?_
  refine Stp.bind (n := 1) (k := 1) (Stp.load (s := { s with toks := s.toks + 1 }) hg Stp.pure) ?_
  rw [hd]
  dsimp only
  rw [hr, if_neg Bool.false_ne_true]
  refine Stp.update (n := 0) hb (o := o) hg ?_
  dsimp only
  rw [hs, hp_update_low H l ha]
  exact Stp.pure
/-- the state behind the display's statement -/
def behind (w : World) (H : Heap) (kvs : List IPair) (x : PySem.Str) (s : Shared) : Shared :=
  { s with
    heap := hp (H.update mainNs (Obj.putName x (if x.cps.isEmpty then 0 else reduceHash (w.params.strHash x.cps)) (.str x (s.toks + 1950)) (.ref (H.objs.size + 0))))
      (dob (ents 3 s.toks (kvs.take 17 ++ (cut 37 (kvs.drop 17)).flatten) ++ ents 2 (s.toks + 1938) (kvs.drop 646)) 650 ::
        (subsOf (s.toks + 51) (cut 37 (kvs.drop 17)) ++ [dob (ents 2 (s.toks + 1938) (kvs.drop 646)) 4])),
    toks := s.toks + 1951 }
theorem stmt_ok {H : Heap} {x : PySem.Str} {px dp sp : Pos} {ks : List (Option Expr)} {vs : List Expr} {env : Env} {o : Obj} {es : Array DictEntry} {m : Nat} (hs : s.heap = H) (hn : n₀ ≤ H.objs.size) (hsm : sysModules < H.objs.size) (ha : mainNs < H.objs.size) (ho : H.get? mainNs = some o) (hd : o.data = .dict es m)
    (hr : aRefKeyMayBeTheName x es = false) (hk : ks.all isKey = true) (hv : vs.all isVal = true) (hl : (kvsOf ks vs).length = 650) (hN : News' [] ((kvsOf ks vs).map fun x => hashInt x.1)) (hst : ∀ v, storeName env x v = nsSet mainNs x v) :
    Stp p w n₀ ann 12524 s q (exec (.Assign [.Name x px] (.Dict ks vs dp) sp) env) (behind w H (kvsOf ks vs) x s) px .next := by
  obtain ⟨e1, e2⟩ := items_of env dp ks vs hk hv
  have E := e2 p w n₀ ann
  have hs0 : s.heap = hp H [] := by rw [hs]; simp [hp]
  have hfl : (cut 37 ((kvsOf ks vs).drop 17)).flatten.length = 629 := cut_flat_len 37 _ (by rw [List.length_drop, hl]; decide)
  have hcf := cut_flat 37 ((kvsOf ks vs).drop 17)
  rw [List.drop_drop] at hcf
  have hpf : (cut 37 ((pairsOf env dp ks vs).drop 17)).flatten ++ (pairsOf env dp ks vs).drop 646 = (pairsOf env dp ks vs).drop 17 := by
    have h := cut_flat 37 ((pairsOf env dp ks vs).drop 17)
    rwa [List.drop_drop] at h
  have kll : ((kvsOf ks vs).drop 646).length = 4 := by rw [List.length_drop, hl]
  have D := display_ok (p := p) (w := w) (n₀ := n₀) (ann := ann) (s := s) (pos := dp) (H := H) hn hsm (E.take 17) (by rw [List.length_take, hl]; decide) (chs_cut 37 (E.drop 17) (by rw [List.length_drop, hl]; decide)) (E.drop 646) (by rw [kll]; decide) (by rw [kll]; decide) hs0
    (by rw [hfl, kll]; decide) (by rw [hcf, List.take_append_drop]; exact hN)
  rw [hpf, List.take_append_drop, ← e1, hfl, kll, cut_len] at D
  have A : exec (.Assign [.Name x px] (.Dict ks vs dp) sp) env = (do
      standAt sp
      let v ← (do standAt dp; dictDisplay ((evalEachOpt ks env).zip ((evalEach vs env).map fun v => do let x ← v; standAt dp; Pure.pure x)))
      (do standAt px; bindName env x v)
      Pure.pure Flow.next) := rfl
  rw [A]
  refine' Stp.cnt ?e (Stp.bind (Stp.at (n := 0) Stp.pure) (Stp.bind (Stp.bind (Stp.at (n := 0) Stp.pure) D) (Stp.bind (s₁ := behind w H (kvsOf ks vs) x s) (q₁ := px) (a := ()) (Stp.bind (Stp.at (n := 0) Stp.pure) ?bn) Stp.pure')))
  case bn =>
    unfold bindName
    rw [hst]
    refine' Stp.bind (n := 1) (k := 5) (a := ()) (Stp.holding (Stp.point (n := 0) Stp.pure)) ?b1
    case b1 =>
      refine' Stp.bind (n := 4) (k := 1) (nsSet_ok rfl ha ho hd hr (by simp)) ?b2
      case b2 =>
        exact Stp.point (n := 0) Stp.pure
  case e => rfl
end
end Mine
end
section
open PySem PySem.W PySem.Calls PyProof.Rows
set_option maxRecDepth 100000
namespace Mine
noncomputable abbrev PW : PySem.Program := PySem.Challenge.pw_tr0047_01
noncomputable def body0 : List PySem.Stmt := behindTheImports PW
noncomputable def fnPar (i : Nat) : PySem.Arguments := match body0.drop i with | .FunctionDef _ a _ _ _ _ _ _ _ _ :: _ => a | _ => default
noncomputable def fnBody (i : Nat) : List PySem.Stmt := match body0.drop i with | .FunctionDef _ _ b _ _ _ _ _ _ _ :: _ => b | _ => []
noncomputable def fnScope (i : Nat) : PySem.Scope := match body0.drop i with | .FunctionDef _ _ _ _ _ _ c _ _ _ :: _ => c | _ => default
noncomputable def dKeys : List (Option PySem.Expr) := match body0.drop 7 with | .Assign _ (.Dict ks _ _) _ :: _ => ks | _ => []
noncomputable def dVals : List PySem.Expr := match body0.drop 7 with | .Assign _ (.Dict _ vs _) _ :: _ => vs | _ => []
noncomputable def dPos : PySem.Pos := match body0.drop 7 with | .Assign _ (.Dict _ _ p) _ :: _ => p | _ => default
noncomputable def kvs0 : List IPair := kvsOf dKeys dVals
noncomputable def subs0 : List PySem.Obj := subsOf (215 + 51) (cut 37 (kvs0.drop 17)) ++ [dob (ents 2 (215 + 1938) (kvs0.drop 646)) 4]
noncomputable def od29 (_ : PySem.Params) : PySem.Obj := dob (ents 3 215 (kvs0.take 17 ++ (cut 37 (kvs0.drop 17)).flatten) ++ ents 2 (215 + 1938) (kvs0.drop 646)) 650
noncomputable def sub0 (i : Nat) : PySem.Obj := match subs0.drop i with | o :: _ => o | [] => dob [] 0
noncomputable def od30 (_ : PySem.Params) : PySem.Obj := sub0 0
noncomputable def od31 (_ : PySem.Params) : PySem.Obj := sub0 1
noncomputable def od32 (_ : PySem.Params) : PySem.Obj := sub0 2
noncomputable def od33 (_ : PySem.Params) : PySem.Obj := sub0 3
noncomputable def od34 (_ : PySem.Params) : PySem.Obj := sub0 4
noncomputable def od35 (_ : PySem.Params) : PySem.Obj := sub0 5
noncomputable def od36 (_ : PySem.Params) : PySem.Obj := sub0 6
noncomputable def od37 (_ : PySem.Params) : PySem.Obj := sub0 7
noncomputable def od38 (_ : PySem.Params) : PySem.Obj := sub0 8
noncomputable def od39 (_ : PySem.Params) : PySem.Obj := sub0 9
noncomputable def od40 (_ : PySem.Params) : PySem.Obj := sub0 10
noncomputable def od41 (_ : PySem.Params) : PySem.Obj := sub0 11
noncomputable def od42 (_ : PySem.Params) : PySem.Obj := sub0 12
noncomputable def od43 (_ : PySem.Params) : PySem.Obj := sub0 13
noncomputable def od44 (_ : PySem.Params) : PySem.Obj := sub0 14
noncomputable def od45 (_ : PySem.Params) : PySem.Obj := sub0 15
noncomputable def od46 (_ : PySem.Params) : PySem.Obj := sub0 16
noncomputable def od47 (_ : PySem.Params) : PySem.Obj := sub0 17
noncomputable def od48 (_ : PySem.Params) : PySem.Obj := sub0 18
noncomputable def od49 (_ : PySem.Params) : PySem.Obj := sub0 19
noncomputable def od50 (_ : PySem.Params) : PySem.Obj := sub0 20
noncomputable def od51 (_ : PySem.Params) : PySem.Obj := sub0 21
noncomputable def od52 (_ : PySem.Params) : PySem.Obj := sub0 22
noncomputable def od53 (_ : PySem.Params) : PySem.Obj := sub0 23
noncomputable def od54 (_ : PySem.Params) : PySem.Obj := sub0 24
noncomputable def od55 (_ : PySem.Params) : PySem.Obj := sub0 25
noncomputable def od56 (_ : PySem.Params) : PySem.Obj := sub0 26
noncomputable def od57 (_ : PySem.Params) : PySem.Obj := sub0 27
noncomputable def od58 (_ : PySem.Params) : PySem.Obj := sub0 28
noncomputable def od59 (_ : PySem.Params) : PySem.Obj := sub0 29
noncomputable def od60 (_ : PySem.Params) : PySem.Obj := sub0 30
noncomputable def od61 (_ : PySem.Params) : PySem.Obj := sub0 31
noncomputable def od62 (_ : PySem.Params) : PySem.Obj := sub0 32
noncomputable def od63 (_ : PySem.Params) : PySem.Obj := sub0 33
noncomputable def od64 (_ : PySem.Params) : PySem.Obj := sub0 34
noncomputable def od65 (_ : PySem.Params) : PySem.Obj := sub0 35
noncomputable def od66 (_ : PySem.Params) : PySem.Obj := sub0 36
noncomputable def od67 (_ : PySem.Params) : PySem.Obj := sub0 37
noncomputable def oa11 (P : PySem.Params) : PySem.Obj := (@PySem.Obj.mk (@PySem.Value.type "tuple") (@Option.none @Nat) (@PySem.Data.seq (@List.toArray @PySem.Value []) (0 : @Nat)) (@List.toArray (@Option @PySem.Value) []))
noncomputable def oa12 (P : PySem.Params) : PySem.Obj := (@PySem.Obj.mk @PySem.Value.none (@Option.none @Nat) (@PySem.Data.fields (@List.toArray @PySem.Value [])) (@List.toArray (@Option @PySem.Value) []))
noncomputable def oa13 (P : PySem.Params) : PySem.Obj := (@PySem.Obj.mk (@PySem.Value.type "code") (@Option.none @Nat) (@PySem.Data.fields (@List.toArray @PySem.Value [(@PySem.Value.str (@PySem.Str.ofString "<module>") (182 : @Nat)), (@PySem.Value.str (@PySem.Str.ofString "<module>") (183 : @Nat)), (@PySem.Value.str (@PySem.Str.ofString "/claim/cut.py") (184 : @Nat)), (@PySem.Value.int (1 : @Int) (0 : @Nat)), (@PySem.Value.int (0 : @Int) (0 : @Nat)), (@PySem.Value.int (0 : @Int) (0 : @Nat)), (@PySem.Value.int (0 : @Int) (0 : @Nat)), (@PySem.Value.int (0 : @Int) (0 : @Nat)), (@PySem.Value.ref (11 : @Nat)), (@PySem.Value.bool @Bool.false), (@PySem.Value.int (181 : @Int) (0 : @Nat)), (@PySem.Value.ref (12 : @Nat)), @PySem.Value.none, @PySem.Value.none, @PySem.Value.none, @PySem.Value.none, (@PySem.Value.int (185 : @Int) (0 : @Nat)), (@PySem.Value.int (1 : @Int) (0 : @Nat)), (@PySem.Value.str (@PySem.Str.ofString "/claim/cut.py") (186 : @Nat))])) (@List.toArray (@Option @PySem.Value) []))
noncomputable def oa14 (P : PySem.Params) : PySem.Obj := (@PySem.Obj.mk (@PySem.Value.type "frame") (@Option.none @Nat) @PySem.Data.plain (@List.toArray (@Option @PySem.Value) [(@Option.some @PySem.Value (@PySem.Value.ref (13 : @Nat))), (@Option.some @PySem.Value (@PySem.Value.ref (3 : @Nat))), (@Option.some @PySem.Value (@PySem.Value.ref (3 : @Nat))), (@Option.none @PySem.Value), (@Option.some @PySem.Value (@PySem.Value.str (@PySem.Str.ofString "__main__") (164 : @Nat))), (@Option.none @PySem.Value), (@Option.some @PySem.Value (@PySem.Value.ref (0 : @Nat)))]))
noncomputable def oatree (P : PySem.Params) : BT := (.node (PySem.W.boot_o_0 P) (.node (PySem.W.boot_o_1 P) (.node (PySem.W.boot_o_3 P) (.node (PySem.W.boot_o_7 P) .nil .nil) (.node (oa11 P) .nil .nil)) (.node (PySem.W.boot_o_5 P) (.node (PySem.W.boot_o_9 P) .nil .nil) (.node (oa13 P) .nil .nil))) (.node (PySem.W.boot_o_2 P) (.node (PySem.W.boot_o_4 P) (.node (PySem.W.boot_o_8 P) .nil .nil) (.node (oa12 P) .nil .nil)) (.node (PySem.W.boot_o_6 P) (.node (PySem.W.boot_o_10 P) .nil .nil) (.node (oa14 P) .nil .nil))))
noncomputable def oc3 (P : PySem.Params) : PySem.Obj := (@PySem.Obj.mk (@PySem.Value.type "dict") (@Option.none @Nat) (@PySem.Data.dict (@List.toArray @PySem.DictEntry [(@PySem.DictEntry.mk (@PySem.PyData.keyHash P (@PySem.Str.ofString "__name__")) (@PySem.Value.str (@PySem.Str.ofString "__name__") (165 : @Nat)) (@PySem.Value.str (@PySem.Str.ofString "cpy313.stringprep") (213 : @Nat))), (@PySem.DictEntry.mk (@PySem.PyData.keyHash P (@PySem.Str.ofString "__doc__")) (@PySem.Value.str (@PySem.Str.ofString "__doc__") (166 : @Nat)) @PySem.Value.none), (@PySem.DictEntry.mk (@PySem.PyData.keyHash P (@PySem.Str.ofString "__package__")) (@PySem.Value.str (@PySem.Str.ofString "__package__") (167 : @Nat)) @PySem.Value.none), (@PySem.DictEntry.mk (@PySem.PyData.keyHash P (@PySem.Str.ofString "__loader__")) (@PySem.Value.str (@PySem.Str.ofString "__loader__") (168 : @Nat)) (@PySem.Value.builtin "__main__.__loader__#opaque")), (@PySem.DictEntry.mk (@PySem.PyData.keyHash P (@PySem.Str.ofString "__spec__")) (@PySem.Value.str (@PySem.Str.ofString "__spec__") (169 : @Nat)) @PySem.Value.none), (@PySem.DictEntry.mk (@PySem.PyData.keyHash P (@PySem.Str.ofString "__annotations__")) (@PySem.Value.str (@PySem.Str.ofString "__annotations__") (170 : @Nat)) (@PySem.Value.ref (6 : @Nat))), (@PySem.DictEntry.mk (@PySem.PyData.keyHash P (@PySem.Str.ofString "__builtins__")) (@PySem.Value.str (@PySem.Str.ofString "__builtins__") (171 : @Nat)) (@PySem.Value.ref (4 : @Nat))), (@PySem.DictEntry.mk (@PySem.PyData.keyHash P (@PySem.Str.ofString "__file__")) (@PySem.Value.str (@PySem.Str.ofString "__file__") (173 : @Nat)) (@PySem.Value.str (@PySem.Str.ofString "/claim/cut.py") (172 : @Nat))), (@PySem.DictEntry.mk (@PySem.PyData.keyHash P (@PySem.Str.ofString "__cached__")) (@PySem.Value.str (@PySem.Str.ofString "__cached__") (174 : @Nat)) @PySem.Value.none), (@PySem.DictEntry.mk (@PySem.PyData.keyHash P (@PySem.Str.ofString "_MOVE_COST")) (@PySem.Value.str (@PySem.Str.ofString "_MOVE_COST") (190 : @Nat)) (@PySem.Value.int (2 : @Int) (189 : @Nat))), (@PySem.DictEntry.mk (@PySem.PyData.keyHash P (@PySem.Str.ofString "_CASE_COST")) (@PySem.Value.str (@PySem.Str.ofString "_CASE_COST") (192 : @Nat)) (@PySem.Value.int (1 : @Int) (191 : @Nat))), (@PySem.DictEntry.mk (@PySem.PyData.keyHash P (@PySem.Str.ofString "_substitution_cost")) (@PySem.Value.str (@PySem.Str.ofString "_substitution_cost") (200 : @Nat)) (@PySem.Value.ref (21 : @Nat))), (@PySem.DictEntry.mk (@PySem.PyData.keyHash P (@PySem.Str.ofString "Int2AP")) (@PySem.Value.str (@PySem.Str.ofString "Int2AP") (212 : @Nat)) (@PySem.Value.ref (28 : @Nat)))]) (13 : @Nat)) (@List.toArray (@Option @PySem.Value) []))
noncomputable def oc12 (P : PySem.Params) : PySem.Obj := (@PySem.Obj.mk @PySem.Value.none (@Option.none @Nat) (@PySem.Data.fields (@List.toArray @PySem.Value [(@PySem.Value.int (4 : @Int) (0 : @Nat)), (@PySem.Value.int (0 : @Int) (0 : @Nat)), (@PySem.Value.ref (20 : @Nat)), (@PySem.Value.int (11 : @Int) (0 : @Nat)), (@PySem.Value.int (0 : @Int) (0 : @Nat)), (@PySem.Value.ref (27 : @Nat))])) (@List.toArray (@Option @PySem.Value) []))
noncomputable def oc15 (P : PySem.Params) : PySem.Obj := (@PySem.Obj.mk (@PySem.Value.type "tuple") (@Option.none @Nat) (@PySem.Data.seq (@List.toArray @PySem.Value []) (0 : @Nat)) (@List.toArray (@Option @PySem.Value) []))
noncomputable def oc16 (P : PySem.Params) : PySem.Obj := (@PySem.Obj.mk @PySem.Value.none (@Option.none @Nat) (@PySem.Data.fields (@List.toArray @PySem.Value [])) (@List.toArray (@Option @PySem.Value) []))
noncomputable def oc17 (P : PySem.Params) : PySem.Obj := (@PySem.Obj.mk (@PySem.Value.type "tuple") (@Option.none @Nat) (@PySem.Data.seq (@List.toArray @PySem.Value [(@PySem.Value.str (@PySem.Str.ofString "ch_a") (196 : @Nat)), (@PySem.Value.str (@PySem.Str.ofString "ch_b") (197 : @Nat))]) (0 : @Nat)) (@List.toArray (@Option @PySem.Value) []))
noncomputable def oc18 (P : PySem.Params) : PySem.Obj := (@PySem.Obj.mk (@PySem.Value.type "tuple") (@Option.none @Nat) (@PySem.Data.seq (@List.toArray @PySem.Value []) (0 : @Nat)) (@List.toArray (@Option @PySem.Value) []))
noncomputable def oc19 (P : PySem.Params) : PySem.Obj := (@PySem.Obj.mk @PySem.Value.none (@Option.none @Nat) (@PySem.Data.func (@PySem.FuncData.mk (@PySem.Str.ofString "_substitution_cost") (@PySem.Str.ofString "_substitution_cost") (fnPar 3) (@PySem.FuncBody.stmts (fnBody 3)) (fnScope 3) (0 : @Nat) [] @PySem.Value.none @PySem.Value.none @PySem.Value.none @PySem.Value.none (@Option.none @Nat) @PySem.Value.none @PySem.Value.none (0 : @Nat))) (@List.toArray (@Option @PySem.Value) []))
noncomputable def oc20 (P : PySem.Params) : PySem.Obj := (@PySem.Obj.mk (@PySem.Value.type "code") (@Option.none @Nat) (@PySem.Data.fields (@List.toArray @PySem.Value [(@PySem.Value.str (@PySem.Str.ofString "_substitution_cost") (193 : @Nat)), (@PySem.Value.str (@PySem.Str.ofString "_substitution_cost") (194 : @Nat)), (@PySem.Value.str (@PySem.Str.ofString "/claim/cut.py") (195 : @Nat)), (@PySem.Value.int (4 : @Int) (0 : @Nat)), (@PySem.Value.int (2 : @Int) (0 : @Nat)), (@PySem.Value.int (0 : @Int) (0 : @Nat)), (@PySem.Value.int (0 : @Int) (0 : @Nat)), (@PySem.Value.int (3 : @Int) (0 : @Nat)), (@PySem.Value.ref (15 : @Nat)), (@PySem.Value.bool @Bool.true), (@PySem.Value.int (181 : @Int) (0 : @Nat)), (@PySem.Value.ref (16 : @Nat)), @PySem.Value.none, (@PySem.Value.ref (17 : @Nat)), (@PySem.Value.ref (18 : @Nat)), (@PySem.Value.ref (19 : @Nat)), (@PySem.Value.int (198 : @Int) (0 : @Nat)), (@PySem.Value.int (4 : @Int) (0 : @Nat)), (@PySem.Value.str (@PySem.Str.ofString "/claim/cut.py") (199 : @Nat))])) (@List.toArray (@Option @PySem.Value) []))
noncomputable def oc21 (P : PySem.Params) : PySem.Obj := (@PySem.Obj.mk (@PySem.Value.type "function") (@Option.none @Nat) (@PySem.Data.func (@PySem.FuncData.mk (@PySem.Str.ofString "_substitution_cost") (@PySem.Str.ofString "_substitution_cost") (fnPar 3) (@PySem.FuncBody.stmts (fnBody 3)) (fnScope 3) (3 : @Nat) [] @PySem.Value.none @PySem.Value.none @PySem.Value.none (@PySem.Value.str (@PySem.Str.ofString "cpy313.traceback") (187 : @Nat)) (@Option.none @Nat) (@PySem.Value.ref (20 : @Nat)) @PySem.Value.none (0 : @Nat))) (@List.toArray (@Option @PySem.Value) []))
noncomputable def oc22 (P : PySem.Params) : PySem.Obj := (@PySem.Obj.mk (@PySem.Value.type "tuple") (@Option.none @Nat) (@PySem.Data.seq (@List.toArray @PySem.Value []) (0 : @Nat)) (@List.toArray (@Option @PySem.Value) []))
noncomputable def oc23 (P : PySem.Params) : PySem.Obj := (@PySem.Obj.mk @PySem.Value.none (@Option.none @Nat) (@PySem.Data.fields (@List.toArray @PySem.Value [])) (@List.toArray (@Option @PySem.Value) []))
noncomputable def oc24 (P : PySem.Params) : PySem.Obj := (@PySem.Obj.mk (@PySem.Value.type "tuple") (@Option.none @Nat) (@PySem.Data.seq (@List.toArray @PySem.Value [(@PySem.Value.str (@PySem.Str.ofString "num") (206 : @Nat)), (@PySem.Value.str (@PySem.Str.ofString "val") (207 : @Nat)), (@PySem.Value.str (@PySem.Str.ofString "AP") (208 : @Nat)), (@PySem.Value.str (@PySem.Str.ofString "mod") (209 : @Nat))]) (0 : @Nat)) (@List.toArray (@Option @PySem.Value) []))
noncomputable def oc25 (P : PySem.Params) : PySem.Obj := (@PySem.Obj.mk (@PySem.Value.type "tuple") (@Option.none @Nat) (@PySem.Data.seq (@List.toArray @PySem.Value []) (0 : @Nat)) (@List.toArray (@Option @PySem.Value) []))
noncomputable def oc26 (P : PySem.Params) : PySem.Obj := (@PySem.Obj.mk @PySem.Value.none (@Option.none @Nat) (@PySem.Data.func (@PySem.FuncData.mk (@PySem.Str.ofString "Int2AP") (@PySem.Str.ofString "Int2AP") (fnPar 5) (@PySem.FuncBody.stmts (fnBody 5)) (fnScope 5) (0 : @Nat) [] @PySem.Value.none @PySem.Value.none @PySem.Value.none @PySem.Value.none (@Option.none @Nat) @PySem.Value.none @PySem.Value.none (0 : @Nat))) (@List.toArray (@Option @PySem.Value) []))
noncomputable def oc27 (P : PySem.Params) : PySem.Obj := (@PySem.Obj.mk (@PySem.Value.type "code") (@Option.none @Nat) (@PySem.Data.fields (@List.toArray @PySem.Value [(@PySem.Value.str (@PySem.Str.ofString "Int2AP") (203 : @Nat)), (@PySem.Value.str (@PySem.Str.ofString "Int2AP") (204 : @Nat)), (@PySem.Value.str (@PySem.Str.ofString "/claim/cut.py") (205 : @Nat)), (@PySem.Value.int (11 : @Int) (0 : @Nat)), (@PySem.Value.int (1 : @Int) (0 : @Nat)), (@PySem.Value.int (0 : @Int) (0 : @Nat)), (@PySem.Value.int (0 : @Int) (0 : @Nat)), (@PySem.Value.int (3 : @Int) (0 : @Nat)), (@PySem.Value.ref (22 : @Nat)), (@PySem.Value.bool @Bool.true), (@PySem.Value.int (181 : @Int) (0 : @Nat)), (@PySem.Value.ref (23 : @Nat)), @PySem.Value.none, (@PySem.Value.ref (24 : @Nat)), (@PySem.Value.ref (25 : @Nat)), (@PySem.Value.ref (26 : @Nat)), (@PySem.Value.int (210 : @Int) (0 : @Nat)), (@PySem.Value.int (11 : @Int) (0 : @Nat)), (@PySem.Value.str (@PySem.Str.ofString "/claim/cut.py") (211 : @Nat))])) (@List.toArray (@Option @PySem.Value) []))
noncomputable def oc28 (P : PySem.Params) : PySem.Obj := (@PySem.Obj.mk (@PySem.Value.type "function") (@Option.none @Nat) (@PySem.Data.func (@PySem.FuncData.mk (@PySem.Str.ofString "Int2AP") (@PySem.Str.ofString "Int2AP") (fnPar 5) (@PySem.FuncBody.stmts (fnBody 5)) (fnScope 5) (3 : @Nat) [] @PySem.Value.none @PySem.Value.none @PySem.Value.none (@PySem.Value.str (@PySem.Str.ofString "cpy313.imaplib") (201 : @Nat)) (@Option.none @Nat) (@PySem.Value.ref (27 : @Nat)) @PySem.Value.none (0 : @Nat))) (@List.toArray (@Option @PySem.Value) []))
noncomputable def octree (P : PySem.Params) : BT := (.node (PySem.W.boot_o_0 P) (.node (PySem.W.boot_o_1 P) (.node (oc3 P) (.node (PySem.W.boot_o_7 P) (.node (oc15 P) .nil .nil) (.node (oc23 P) .nil .nil)) (.node (oa11 P) (.node (oc19 P) .nil .nil) (.node (oc27 P) .nil .nil))) (.node (PySem.W.boot_o_5 P) (.node (PySem.W.boot_o_9 P) (.node (oc17 P) .nil .nil) (.node (oc25 P) .nil .nil)) (.node (oa13 P) (.node (oc21 P) .nil .nil) .nil))) (.node (PySem.W.boot_o_2 P) (.node (PySem.W.boot_o_4 P) (.node (PySem.W.boot_o_8 P) (.node (oc16 P) .nil .nil) (.node (oc24 P) .nil .nil)) (.node (oc12 P) (.node (oc20 P) .nil .nil) (.node (oc28 P) .nil .nil))) (.node (PySem.W.boot_o_6 P) (.node (PySem.W.boot_o_10 P) (.node (oc18 P) .nil .nil) (.node (oc26 P) .nil .nil)) (.node (oa14 P) (.node (oc22 P) .nil .nil) .nil))))
noncomputable def od3 (P : PySem.Params) : PySem.Obj := (@PySem.Obj.mk (@PySem.Value.type "dict") (@Option.none @Nat) (@PySem.Data.dict (@List.toArray @PySem.DictEntry [(@PySem.DictEntry.mk (@PySem.PyData.keyHash P (@PySem.Str.ofString "__name__")) (@PySem.Value.str (@PySem.Str.ofString "__name__") (165 : @Nat)) (@PySem.Value.str (@PySem.Str.ofString "cpy313.stringprep") (213 : @Nat))), (@PySem.DictEntry.mk (@PySem.PyData.keyHash P (@PySem.Str.ofString "__doc__")) (@PySem.Value.str (@PySem.Str.ofString "__doc__") (166 : @Nat)) @PySem.Value.none), (@PySem.DictEntry.mk (@PySem.PyData.keyHash P (@PySem.Str.ofString "__package__")) (@PySem.Value.str (@PySem.Str.ofString "__package__") (167 : @Nat)) @PySem.Value.none), (@PySem.DictEntry.mk (@PySem.PyData.keyHash P (@PySem.Str.ofString "__loader__")) (@PySem.Value.str (@PySem.Str.ofString "__loader__") (168 : @Nat)) (@PySem.Value.builtin "__main__.__loader__#opaque")), (@PySem.DictEntry.mk (@PySem.PyData.keyHash P (@PySem.Str.ofString "__spec__")) (@PySem.Value.str (@PySem.Str.ofString "__spec__") (169 : @Nat)) @PySem.Value.none), (@PySem.DictEntry.mk (@PySem.PyData.keyHash P (@PySem.Str.ofString "__annotations__")) (@PySem.Value.str (@PySem.Str.ofString "__annotations__") (170 : @Nat)) (@PySem.Value.ref (6 : @Nat))), (@PySem.DictEntry.mk (@PySem.PyData.keyHash P (@PySem.Str.ofString "__builtins__")) (@PySem.Value.str (@PySem.Str.ofString "__builtins__") (171 : @Nat)) (@PySem.Value.ref (4 : @Nat))), (@PySem.DictEntry.mk (@PySem.PyData.keyHash P (@PySem.Str.ofString "__file__")) (@PySem.Value.str (@PySem.Str.ofString "__file__") (173 : @Nat)) (@PySem.Value.str (@PySem.Str.ofString "/claim/cut.py") (172 : @Nat))), (@PySem.DictEntry.mk (@PySem.PyData.keyHash P (@PySem.Str.ofString "__cached__")) (@PySem.Value.str (@PySem.Str.ofString "__cached__") (174 : @Nat)) @PySem.Value.none), (@PySem.DictEntry.mk (@PySem.PyData.keyHash P (@PySem.Str.ofString "_MOVE_COST")) (@PySem.Value.str (@PySem.Str.ofString "_MOVE_COST") (190 : @Nat)) (@PySem.Value.int (2 : @Int) (189 : @Nat))), (@PySem.DictEntry.mk (@PySem.PyData.keyHash P (@PySem.Str.ofString "_CASE_COST")) (@PySem.Value.str (@PySem.Str.ofString "_CASE_COST") (192 : @Nat)) (@PySem.Value.int (1 : @Int) (191 : @Nat))), (@PySem.DictEntry.mk (@PySem.PyData.keyHash P (@PySem.Str.ofString "_substitution_cost")) (@PySem.Value.str (@PySem.Str.ofString "_substitution_cost") (200 : @Nat)) (@PySem.Value.ref (21 : @Nat))), (@PySem.DictEntry.mk (@PySem.PyData.keyHash P (@PySem.Str.ofString "Int2AP")) (@PySem.Value.str (@PySem.Str.ofString "Int2AP") (212 : @Nat)) (@PySem.Value.ref (28 : @Nat))), (@PySem.DictEntry.mk (@PySem.PyData.keyHash P (@PySem.Str.ofString "b3_exceptions")) (@PySem.Value.str (@PySem.Str.ofString "b3_exceptions") (2165 : @Nat)) (@PySem.Value.ref (29 : @Nat)))]) (14 : @Nat)) (@List.toArray (@Option @PySem.Value) []))
noncomputable def odtree (P : PySem.Params) : BT := (.node (PySem.W.boot_o_0 P) (.node (PySem.W.boot_o_1 P) (.node (od3 P) (.node (PySem.W.boot_o_7 P) (.node (oc15 P) (.node (od31 P) (.node (od63 P) .nil .nil) .nil) (.node (od47 P) .nil .nil)) (.node (oc23 P) (.node (od39 P) .nil .nil) (.node (od55 P) .nil .nil))) (.node (oa11 P) (.node (oc19 P) (.node (od35 P) (.node (od67 P) .nil .nil) .nil) (.node (od51 P) .nil .nil)) (.node (oc27 P) (.node (od43 P) .nil .nil) (.node (od59 P) .nil .nil)))) (.node (PySem.W.boot_o_5 P) (.node (PySem.W.boot_o_9 P) (.node (oc17 P) (.node (od33 P) (.node (od65 P) .nil .nil) .nil) (.node (od49 P) .nil .nil)) (.node (oc25 P) (.node (od41 P) .nil .nil) (.node (od57 P) .nil .nil))) (.node (oa13 P) (.node (oc21 P) (.node (od37 P) .nil .nil) (.node (od53 P) .nil .nil)) (.node (od29 P) (.node (od45 P) .nil .nil) (.node (od61 P) .nil .nil))))) (.node (PySem.W.boot_o_2 P) (.node (PySem.W.boot_o_4 P) (.node (PySem.W.boot_o_8 P) (.node (oc16 P) (.node (od32 P) (.node (od64 P) .nil .nil) .nil) (.node (od48 P) .nil .nil)) (.node (oc24 P) (.node (od40 P) .nil .nil) (.node (od56 P) .nil .nil))) (.node (oc12 P) (.node (oc20 P) (.node (od36 P) .nil .nil) (.node (od52 P) .nil .nil)) (.node (oc28 P) (.node (od44 P) .nil .nil) (.node (od60 P) .nil .nil)))) (.node (PySem.W.boot_o_6 P) (.node (PySem.W.boot_o_10 P) (.node (oc18 P) (.node (od34 P) (.node (od66 P) .nil .nil) .nil) (.node (od50 P) .nil .nil)) (.node (oc26 P) (.node (od42 P) .nil .nil) (.node (od58 P) .nil .nil))) (.node (oa14 P) (.node (oc22 P) (.node (od38 P) .nil .nil) (.node (od54 P) .nil .nil)) (.node (od30 P) (.node (od46 P) .nil .nil) (.node (od62 P) .nil .nil))))))
noncomputable def oe3 (P : PySem.Params) : PySem.Obj := (@PySem.Obj.mk (@PySem.Value.type "dict") (@Option.none @Nat) (@PySem.Data.dict (@List.toArray @PySem.DictEntry [(@PySem.DictEntry.mk (@PySem.PyData.keyHash P (@PySem.Str.ofString "__name__")) (@PySem.Value.str (@PySem.Str.ofString "__name__") (165 : @Nat)) (@PySem.Value.str (@PySem.Str.ofString "law_tr0047_01") (2174 : @Nat))), (@PySem.DictEntry.mk (@PySem.PyData.keyHash P (@PySem.Str.ofString "__doc__")) (@PySem.Value.str (@PySem.Str.ofString "__doc__") (166 : @Nat)) @PySem.Value.none), (@PySem.DictEntry.mk (@PySem.PyData.keyHash P (@PySem.Str.ofString "__package__")) (@PySem.Value.str (@PySem.Str.ofString "__package__") (167 : @Nat)) @PySem.Value.none), (@PySem.DictEntry.mk (@PySem.PyData.keyHash P (@PySem.Str.ofString "__loader__")) (@PySem.Value.str (@PySem.Str.ofString "__loader__") (168 : @Nat)) (@PySem.Value.builtin "__main__.__loader__#opaque")), (@PySem.DictEntry.mk (@PySem.PyData.keyHash P (@PySem.Str.ofString "__spec__")) (@PySem.Value.str (@PySem.Str.ofString "__spec__") (169 : @Nat)) @PySem.Value.none), (@PySem.DictEntry.mk (@PySem.PyData.keyHash P (@PySem.Str.ofString "__annotations__")) (@PySem.Value.str (@PySem.Str.ofString "__annotations__") (170 : @Nat)) (@PySem.Value.ref (6 : @Nat))), (@PySem.DictEntry.mk (@PySem.PyData.keyHash P (@PySem.Str.ofString "__builtins__")) (@PySem.Value.str (@PySem.Str.ofString "__builtins__") (171 : @Nat)) (@PySem.Value.ref (4 : @Nat))), (@PySem.DictEntry.mk (@PySem.PyData.keyHash P (@PySem.Str.ofString "__file__")) (@PySem.Value.str (@PySem.Str.ofString "__file__") (173 : @Nat)) (@PySem.Value.str (@PySem.Str.ofString "/claim/cut.py") (172 : @Nat))), (@PySem.DictEntry.mk (@PySem.PyData.keyHash P (@PySem.Str.ofString "__cached__")) (@PySem.Value.str (@PySem.Str.ofString "__cached__") (174 : @Nat)) @PySem.Value.none), (@PySem.DictEntry.mk (@PySem.PyData.keyHash P (@PySem.Str.ofString "_MOVE_COST")) (@PySem.Value.str (@PySem.Str.ofString "_MOVE_COST") (190 : @Nat)) (@PySem.Value.int (2 : @Int) (189 : @Nat))), (@PySem.DictEntry.mk (@PySem.PyData.keyHash P (@PySem.Str.ofString "_CASE_COST")) (@PySem.Value.str (@PySem.Str.ofString "_CASE_COST") (192 : @Nat)) (@PySem.Value.int (1 : @Int) (191 : @Nat))), (@PySem.DictEntry.mk (@PySem.PyData.keyHash P (@PySem.Str.ofString "_substitution_cost")) (@PySem.Value.str (@PySem.Str.ofString "_substitution_cost") (200 : @Nat)) (@PySem.Value.ref (21 : @Nat))), (@PySem.DictEntry.mk (@PySem.PyData.keyHash P (@PySem.Str.ofString "Int2AP")) (@PySem.Value.str (@PySem.Str.ofString "Int2AP") (212 : @Nat)) (@PySem.Value.ref (28 : @Nat))), (@PySem.DictEntry.mk (@PySem.PyData.keyHash P (@PySem.Str.ofString "b3_exceptions")) (@PySem.Value.str (@PySem.Str.ofString "b3_exceptions") (2165 : @Nat)) (@PySem.Value.ref (29 : @Nat))), (@PySem.DictEntry.mk (@PySem.PyData.keyHash P (@PySem.Str.ofString "map_table_b3")) (@PySem.Value.str (@PySem.Str.ofString "map_table_b3") (2173 : @Nat)) (@PySem.Value.ref (74 : @Nat))), (@PySem.DictEntry.mk (@PySem.PyData.keyHash P (@PySem.Str.ofString "_law_common")) (@PySem.Value.str (@PySem.Str.ofString "_law_common") (2183 : @Nat)) (@PySem.Value.ref (81 : @Nat))), (@PySem.DictEntry.mk (@PySem.PyData.keyHash P (@PySem.Str.ofString "_law_lower")) (@PySem.Value.str (@PySem.Str.ofString "_law_lower") (2193 : @Nat)) (@PySem.Value.ref (88 : @Nat))), (@PySem.DictEntry.mk (@PySem.PyData.keyHash P (@PySem.Str.ofString "_law_length")) (@PySem.Value.str (@PySem.Str.ofString "_law_length") (2201 : @Nat)) (@PySem.Value.ref (95 : @Nat))), (@PySem.DictEntry.mk (@PySem.PyData.keyHash P (@PySem.Str.ofString "_law_dress")) (@PySem.Value.str (@PySem.Str.ofString "_law_dress") (2212 : @Nat)) (@PySem.Value.ref (102 : @Nat))), (@PySem.DictEntry.mk (@PySem.PyData.keyHash P (@PySem.Str.ofString "_law_prices")) (@PySem.Value.str (@PySem.Str.ofString "_law_prices") (2218 : @Nat)) (@PySem.Value.ref (107 : @Nat))), (@PySem.DictEntry.mk (@PySem.PyData.keyHash P (@PySem.Str.ofString "_law_dealt")) (@PySem.Value.str (@PySem.Str.ofString "_law_dealt") (2224 : @Nat)) (@PySem.Value.ref (112 : @Nat))), (@PySem.DictEntry.mk (@PySem.PyData.keyHash P (@PySem.Str.ofString "_law_together")) (@PySem.Value.str (@PySem.Str.ofString "_law_together") (2235 : @Nat)) (@PySem.Value.ref (119 : @Nat))), (@PySem.DictEntry.mk (@PySem.PyData.keyHash P (@PySem.Str.ofString "law")) (@PySem.Value.str (@PySem.Str.ofString "law") (2241 : @Nat)) (@PySem.Value.ref (124 : @Nat)))]) (23 : @Nat)) (@List.toArray (@Option @PySem.Value) []))
noncomputable def oe12 (P : PySem.Params) : PySem.Obj := (@PySem.Obj.mk @PySem.Value.none (@Option.none @Nat) (@PySem.Data.fields (@List.toArray @PySem.Value [(@PySem.Value.int (4 : @Int) (0 : @Nat)), (@PySem.Value.int (0 : @Int) (0 : @Nat)), (@PySem.Value.ref (20 : @Nat)), (@PySem.Value.int (11 : @Int) (0 : @Nat)), (@PySem.Value.int (0 : @Int) (0 : @Nat)), (@PySem.Value.ref (27 : @Nat)), (@PySem.Value.int (21 : @Int) (0 : @Nat)), (@PySem.Value.int (0 : @Int) (0 : @Nat)), (@PySem.Value.ref (73 : @Nat)), (@PySem.Value.int (27 : @Int) (0 : @Nat)), (@PySem.Value.int (0 : @Int) (0 : @Nat)), (@PySem.Value.ref (80 : @Nat)), (@PySem.Value.int (31 : @Int) (0 : @Nat)), (@PySem.Value.int (0 : @Int) (0 : @Nat)), (@PySem.Value.ref (87 : @Nat)), (@PySem.Value.int (37 : @Int) (0 : @Nat)), (@PySem.Value.int (0 : @Int) (0 : @Nat)), (@PySem.Value.ref (94 : @Nat)), (@PySem.Value.int (42 : @Int) (0 : @Nat)), (@PySem.Value.int (0 : @Int) (0 : @Nat)), (@PySem.Value.ref (101 : @Nat)), (@PySem.Value.int (51 : @Int) (0 : @Nat)), (@PySem.Value.int (0 : @Int) (0 : @Nat)), (@PySem.Value.ref (106 : @Nat)), (@PySem.Value.int (54 : @Int) (0 : @Nat)), (@PySem.Value.int (0 : @Int) (0 : @Nat)), (@PySem.Value.ref (111 : @Nat)), (@PySem.Value.int (58 : @Int) (0 : @Nat)), (@PySem.Value.int (0 : @Int) (0 : @Nat)), (@PySem.Value.ref (118 : @Nat)), (@PySem.Value.int (63 : @Int) (0 : @Nat)), (@PySem.Value.int (0 : @Int) (0 : @Nat)), (@PySem.Value.ref (123 : @Nat))])) (@List.toArray (@Option @PySem.Value) []))
noncomputable def oe68 (P : PySem.Params) : PySem.Obj := (@PySem.Obj.mk (@PySem.Value.type "tuple") (@Option.none @Nat) (@PySem.Data.seq (@List.toArray @PySem.Value []) (0 : @Nat)) (@List.toArray (@Option @PySem.Value) []))
noncomputable def oe69 (P : PySem.Params) : PySem.Obj := (@PySem.Obj.mk @PySem.Value.none (@Option.none @Nat) (@PySem.Data.fields (@List.toArray @PySem.Value [])) (@List.toArray (@Option @PySem.Value) []))
noncomputable def oe70 (P : PySem.Params) : PySem.Obj := (@PySem.Obj.mk (@PySem.Value.type "tuple") (@Option.none @Nat) (@PySem.Data.seq (@List.toArray @PySem.Value [(@PySem.Value.str (@PySem.Str.ofString "code") (2169 : @Nat)), (@PySem.Value.str (@PySem.Str.ofString "r") (2170 : @Nat))]) (0 : @Nat)) (@List.toArray (@Option @PySem.Value) []))
noncomputable def oe71 (P : PySem.Params) : PySem.Obj := (@PySem.Obj.mk (@PySem.Value.type "tuple") (@Option.none @Nat) (@PySem.Data.seq (@List.toArray @PySem.Value []) (0 : @Nat)) (@List.toArray (@Option @PySem.Value) []))
noncomputable def oe72 (P : PySem.Params) : PySem.Obj := (@PySem.Obj.mk @PySem.Value.none (@Option.none @Nat) (@PySem.Data.func (@PySem.FuncData.mk (@PySem.Str.ofString "map_table_b3") (@PySem.Str.ofString "map_table_b3") (fnPar 8) (@PySem.FuncBody.stmts (fnBody 8)) (fnScope 8) (0 : @Nat) [] @PySem.Value.none @PySem.Value.none @PySem.Value.none @PySem.Value.none (@Option.none @Nat) @PySem.Value.none @PySem.Value.none (0 : @Nat))) (@List.toArray (@Option @PySem.Value) []))
noncomputable def oe73 (P : PySem.Params) : PySem.Obj := (@PySem.Obj.mk (@PySem.Value.type "code") (@Option.none @Nat) (@PySem.Data.fields (@List.toArray @PySem.Value [(@PySem.Value.str (@PySem.Str.ofString "map_table_b3") (2166 : @Nat)), (@PySem.Value.str (@PySem.Str.ofString "map_table_b3") (2167 : @Nat)), (@PySem.Value.str (@PySem.Str.ofString "/claim/cut.py") (2168 : @Nat)), (@PySem.Value.int (21 : @Int) (0 : @Nat)), (@PySem.Value.int (1 : @Int) (0 : @Nat)), (@PySem.Value.int (0 : @Int) (0 : @Nat)), (@PySem.Value.int (0 : @Int) (0 : @Nat)), (@PySem.Value.int (3 : @Int) (0 : @Nat)), (@PySem.Value.ref (68 : @Nat)), (@PySem.Value.bool @Bool.true), (@PySem.Value.int (181 : @Int) (0 : @Nat)), (@PySem.Value.ref (69 : @Nat)), @PySem.Value.none, (@PySem.Value.ref (70 : @Nat)), (@PySem.Value.ref (71 : @Nat)), (@PySem.Value.ref (72 : @Nat)), (@PySem.Value.int (2171 : @Int) (0 : @Nat)), (@PySem.Value.int (21 : @Int) (0 : @Nat)), (@PySem.Value.str (@PySem.Str.ofString "/claim/cut.py") (2172 : @Nat))])) (@List.toArray (@Option @PySem.Value) []))
noncomputable def oe74 (P : PySem.Params) : PySem.Obj := (@PySem.Obj.mk (@PySem.Value.type "function") (@Option.none @Nat) (@PySem.Data.func (@PySem.FuncData.mk (@PySem.Str.ofString "map_table_b3") (@PySem.Str.ofString "map_table_b3") (fnPar 8) (@PySem.FuncBody.stmts (fnBody 8)) (fnScope 8) (3 : @Nat) [] @PySem.Value.none @PySem.Value.none @PySem.Value.none (@PySem.Value.str (@PySem.Str.ofString "cpy313.stringprep") (213 : @Nat)) (@Option.none @Nat) (@PySem.Value.ref (73 : @Nat)) @PySem.Value.none (0 : @Nat))) (@List.toArray (@Option @PySem.Value) []))
noncomputable def oe75 (P : PySem.Params) : PySem.Obj := (@PySem.Obj.mk (@PySem.Value.type "tuple") (@Option.none @Nat) (@PySem.Data.seq (@List.toArray @PySem.Value []) (0 : @Nat)) (@List.toArray (@Option @PySem.Value) []))
noncomputable def oe76 (P : PySem.Params) : PySem.Obj := (@PySem.Obj.mk @PySem.Value.none (@Option.none @Nat) (@PySem.Data.fields (@List.toArray @PySem.Value [])) (@List.toArray (@Option @PySem.Value) []))
noncomputable def oe77 (P : PySem.Params) : PySem.Obj := (@PySem.Obj.mk (@PySem.Value.type "tuple") (@Option.none @Nat) (@PySem.Data.seq (@List.toArray @PySem.Value [(@PySem.Value.str (@PySem.Str.ofString "one") (2179 : @Nat)), (@PySem.Value.str (@PySem.Str.ofString "other") (2180 : @Nat))]) (0 : @Nat)) (@List.toArray (@Option @PySem.Value) []))
noncomputable def oe78 (P : PySem.Params) : PySem.Obj := (@PySem.Obj.mk (@PySem.Value.type "tuple") (@Option.none @Nat) (@PySem.Data.seq (@List.toArray @PySem.Value []) (0 : @Nat)) (@List.toArray (@Option @PySem.Value) []))
noncomputable def oe79 (P : PySem.Params) : PySem.Obj := (@PySem.Obj.mk @PySem.Value.none (@Option.none @Nat) (@PySem.Data.func (@PySem.FuncData.mk (@PySem.Str.ofString "_law_common") (@PySem.Str.ofString "_law_common") (fnPar 10) (@PySem.FuncBody.stmts (fnBody 10)) (fnScope 10) (0 : @Nat) [] @PySem.Value.none @PySem.Value.none @PySem.Value.none @PySem.Value.none (@Option.none @Nat) @PySem.Value.none @PySem.Value.none (0 : @Nat))) (@List.toArray (@Option @PySem.Value) []))
noncomputable def oe80 (P : PySem.Params) : PySem.Obj := (@PySem.Obj.mk (@PySem.Value.type "code") (@Option.none @Nat) (@PySem.Data.fields (@List.toArray @PySem.Value [(@PySem.Value.str (@PySem.Str.ofString "_law_common") (2176 : @Nat)), (@PySem.Value.str (@PySem.Str.ofString "_law_common") (2177 : @Nat)), (@PySem.Value.str (@PySem.Str.ofString "/claim/cut.py") (2178 : @Nat)), (@PySem.Value.int (27 : @Int) (0 : @Nat)), (@PySem.Value.int (2 : @Int) (0 : @Nat)), (@PySem.Value.int (0 : @Int) (0 : @Nat)), (@PySem.Value.int (0 : @Int) (0 : @Nat)), (@PySem.Value.int (3 : @Int) (0 : @Nat)), (@PySem.Value.ref (75 : @Nat)), (@PySem.Value.bool @Bool.true), (@PySem.Value.int (181 : @Int) (0 : @Nat)), (@PySem.Value.ref (76 : @Nat)), @PySem.Value.none, (@PySem.Value.ref (77 : @Nat)), (@PySem.Value.ref (78 : @Nat)), (@PySem.Value.ref (79 : @Nat)), (@PySem.Value.int (2181 : @Int) (0 : @Nat)), (@PySem.Value.int (27 : @Int) (0 : @Nat)), (@PySem.Value.str (@PySem.Str.ofString "/claim/cut.py") (2182 : @Nat))])) (@List.toArray (@Option @PySem.Value) []))
noncomputable def oe81 (P : PySem.Params) : PySem.Obj := (@PySem.Obj.mk (@PySem.Value.type "function") (@Option.none @Nat) (@PySem.Data.func (@PySem.FuncData.mk (@PySem.Str.ofString "_law_common") (@PySem.Str.ofString "_law_common") (fnPar 10) (@PySem.FuncBody.stmts (fnBody 10)) (fnScope 10) (3 : @Nat) [] @PySem.Value.none @PySem.Value.none @PySem.Value.none (@PySem.Value.str (@PySem.Str.ofString "law_tr0047_01") (2174 : @Nat)) (@Option.none @Nat) (@PySem.Value.ref (80 : @Nat)) @PySem.Value.none (0 : @Nat))) (@List.toArray (@Option @PySem.Value) []))
noncomputable def oe82 (P : PySem.Params) : PySem.Obj := (@PySem.Obj.mk (@PySem.Value.type "tuple") (@Option.none @Nat) (@PySem.Data.seq (@List.toArray @PySem.Value []) (0 : @Nat)) (@List.toArray (@Option @PySem.Value) []))
noncomputable def oe83 (P : PySem.Params) : PySem.Obj := (@PySem.Obj.mk @PySem.Value.none (@Option.none @Nat) (@PySem.Data.fields (@List.toArray @PySem.Value [])) (@List.toArray (@Option @PySem.Value) []))
noncomputable def oe84 (P : PySem.Params) : PySem.Obj := (@PySem.Obj.mk (@PySem.Value.type "tuple") (@Option.none @Nat) (@PySem.Data.seq (@List.toArray @PySem.Value [(@PySem.Value.str (@PySem.Str.ofString "total") (2187 : @Nat)), (@PySem.Value.str (@PySem.Str.ofString "whole") (2188 : @Nat)), (@PySem.Value.str (@PySem.Str.ofString "place") (2189 : @Nat)), (@PySem.Value.str (@PySem.Str.ofString "prime") (2190 : @Nat))]) (0 : @Nat)) (@List.toArray (@Option @PySem.Value) []))
noncomputable def oe85 (P : PySem.Params) : PySem.Obj := (@PySem.Obj.mk (@PySem.Value.type "tuple") (@Option.none @Nat) (@PySem.Data.seq (@List.toArray @PySem.Value []) (0 : @Nat)) (@List.toArray (@Option @PySem.Value) []))
noncomputable def oe86 (P : PySem.Params) : PySem.Obj := (@PySem.Obj.mk @PySem.Value.none (@Option.none @Nat) (@PySem.Data.func (@PySem.FuncData.mk (@PySem.Str.ofString "_law_lower") (@PySem.Str.ofString "_law_lower") (fnPar 11) (@PySem.FuncBody.stmts (fnBody 11)) (fnScope 11) (0 : @Nat) [] @PySem.Value.none @PySem.Value.none @PySem.Value.none @PySem.Value.none (@Option.none @Nat) @PySem.Value.none @PySem.Value.none (0 : @Nat))) (@List.toArray (@Option @PySem.Value) []))
noncomputable def oe87 (P : PySem.Params) : PySem.Obj := (@PySem.Obj.mk (@PySem.Value.type "code") (@Option.none @Nat) (@PySem.Data.fields (@List.toArray @PySem.Value [(@PySem.Value.str (@PySem.Str.ofString "_law_lower") (2184 : @Nat)), (@PySem.Value.str (@PySem.Str.ofString "_law_lower") (2185 : @Nat)), (@PySem.Value.str (@PySem.Str.ofString "/claim/cut.py") (2186 : @Nat)), (@PySem.Value.int (31 : @Int) (0 : @Nat)), (@PySem.Value.int (1 : @Int) (0 : @Nat)), (@PySem.Value.int (0 : @Int) (0 : @Nat)), (@PySem.Value.int (0 : @Int) (0 : @Nat)), (@PySem.Value.int (3 : @Int) (0 : @Nat)), (@PySem.Value.ref (82 : @Nat)), (@PySem.Value.bool @Bool.true), (@PySem.Value.int (181 : @Int) (0 : @Nat)), (@PySem.Value.ref (83 : @Nat)), @PySem.Value.none, (@PySem.Value.ref (84 : @Nat)), (@PySem.Value.ref (85 : @Nat)), (@PySem.Value.ref (86 : @Nat)), (@PySem.Value.int (2191 : @Int) (0 : @Nat)), (@PySem.Value.int (31 : @Int) (0 : @Nat)), (@PySem.Value.str (@PySem.Str.ofString "/claim/cut.py") (2192 : @Nat))])) (@List.toArray (@Option @PySem.Value) []))
noncomputable def oe88 (P : PySem.Params) : PySem.Obj := (@PySem.Obj.mk (@PySem.Value.type "function") (@Option.none @Nat) (@PySem.Data.func (@PySem.FuncData.mk (@PySem.Str.ofString "_law_lower") (@PySem.Str.ofString "_law_lower") (fnPar 11) (@PySem.FuncBody.stmts (fnBody 11)) (fnScope 11) (3 : @Nat) [] @PySem.Value.none @PySem.Value.none @PySem.Value.none (@PySem.Value.str (@PySem.Str.ofString "law_tr0047_01") (2174 : @Nat)) (@Option.none @Nat) (@PySem.Value.ref (87 : @Nat)) @PySem.Value.none (0 : @Nat))) (@List.toArray (@Option @PySem.Value) []))
noncomputable def oe89 (P : PySem.Params) : PySem.Obj := (@PySem.Obj.mk (@PySem.Value.type "tuple") (@Option.none @Nat) (@PySem.Data.seq (@List.toArray @PySem.Value []) (0 : @Nat)) (@List.toArray (@Option @PySem.Value) []))
noncomputable def oe90 (P : PySem.Params) : PySem.Obj := (@PySem.Obj.mk @PySem.Value.none (@Option.none @Nat) (@PySem.Data.fields (@List.toArray @PySem.Value [])) (@List.toArray (@Option @PySem.Value) []))
noncomputable def oe91 (P : PySem.Params) : PySem.Obj := (@PySem.Obj.mk (@PySem.Value.type "tuple") (@Option.none @Nat) (@PySem.Data.seq (@List.toArray @PySem.Value [(@PySem.Value.str (@PySem.Str.ofString "lower") (2197 : @Nat)), (@PySem.Value.str (@PySem.Str.ofString "length") (2198 : @Nat))]) (0 : @Nat)) (@List.toArray (@Option @PySem.Value) []))
noncomputable def oe92 (P : PySem.Params) : PySem.Obj := (@PySem.Obj.mk (@PySem.Value.type "tuple") (@Option.none @Nat) (@PySem.Data.seq (@List.toArray @PySem.Value []) (0 : @Nat)) (@List.toArray (@Option @PySem.Value) []))
noncomputable def oe93 (P : PySem.Params) : PySem.Obj := (@PySem.Obj.mk @PySem.Value.none (@Option.none @Nat) (@PySem.Data.func (@PySem.FuncData.mk (@PySem.Str.ofString "_law_length") (@PySem.Str.ofString "_law_length") (fnPar 12) (@PySem.FuncBody.stmts (fnBody 12)) (fnScope 12) (0 : @Nat) [] @PySem.Value.none @PySem.Value.none @PySem.Value.none @PySem.Value.none (@Option.none @Nat) @PySem.Value.none @PySem.Value.none (0 : @Nat))) (@List.toArray (@Option @PySem.Value) []))
noncomputable def oe94 (P : PySem.Params) : PySem.Obj := (@PySem.Obj.mk (@PySem.Value.type "code") (@Option.none @Nat) (@PySem.Data.fields (@List.toArray @PySem.Value [(@PySem.Value.str (@PySem.Str.ofString "_law_length") (2194 : @Nat)), (@PySem.Value.str (@PySem.Str.ofString "_law_length") (2195 : @Nat)), (@PySem.Value.str (@PySem.Str.ofString "/claim/cut.py") (2196 : @Nat)), (@PySem.Value.int (37 : @Int) (0 : @Nat)), (@PySem.Value.int (1 : @Int) (0 : @Nat)), (@PySem.Value.int (0 : @Int) (0 : @Nat)), (@PySem.Value.int (0 : @Int) (0 : @Nat)), (@PySem.Value.int (3 : @Int) (0 : @Nat)), (@PySem.Value.ref (89 : @Nat)), (@PySem.Value.bool @Bool.true), (@PySem.Value.int (181 : @Int) (0 : @Nat)), (@PySem.Value.ref (90 : @Nat)), @PySem.Value.none, (@PySem.Value.ref (91 : @Nat)), (@PySem.Value.ref (92 : @Nat)), (@PySem.Value.ref (93 : @Nat)), (@PySem.Value.int (2199 : @Int) (0 : @Nat)), (@PySem.Value.int (37 : @Int) (0 : @Nat)), (@PySem.Value.str (@PySem.Str.ofString "/claim/cut.py") (2200 : @Nat))])) (@List.toArray (@Option @PySem.Value) []))
noncomputable def oe95 (P : PySem.Params) : PySem.Obj := (@PySem.Obj.mk (@PySem.Value.type "function") (@Option.none @Nat) (@PySem.Data.func (@PySem.FuncData.mk (@PySem.Str.ofString "_law_length") (@PySem.Str.ofString "_law_length") (fnPar 12) (@PySem.FuncBody.stmts (fnBody 12)) (fnScope 12) (3 : @Nat) [] @PySem.Value.none @PySem.Value.none @PySem.Value.none (@PySem.Value.str (@PySem.Str.ofString "law_tr0047_01") (2174 : @Nat)) (@Option.none @Nat) (@PySem.Value.ref (94 : @Nat)) @PySem.Value.none (0 : @Nat))) (@List.toArray (@Option @PySem.Value) []))
noncomputable def oe96 (P : PySem.Params) : PySem.Obj := (@PySem.Obj.mk (@PySem.Value.type "tuple") (@Option.none @Nat) (@PySem.Data.seq (@List.toArray @PySem.Value []) (0 : @Nat)) (@List.toArray (@Option @PySem.Value) []))
noncomputable def oe97 (P : PySem.Params) : PySem.Obj := (@PySem.Obj.mk @PySem.Value.none (@Option.none @Nat) (@PySem.Data.fields (@List.toArray @PySem.Value [])) (@List.toArray (@Option @PySem.Value) []))
noncomputable def oe98 (P : PySem.Params) : PySem.Obj := (@PySem.Obj.mk (@PySem.Value.type "tuple") (@Option.none @Nat) (@PySem.Data.seq (@List.toArray @PySem.Value [(@PySem.Value.str (@PySem.Str.ofString "figures") (2205 : @Nat)), (@PySem.Value.str (@PySem.Str.ofString "alphabets") (2206 : @Nat)), (@PySem.Value.str (@PySem.Str.ofString "signs") (2207 : @Nat)), (@PySem.Value.str (@PySem.Str.ofString "place") (2208 : @Nat)), (@PySem.Value.str (@PySem.Str.ofString "figure") (2209 : @Nat))]) (0 : @Nat)) (@List.toArray (@Option @PySem.Value) []))
noncomputable def oe99 (P : PySem.Params) : PySem.Obj := (@PySem.Obj.mk (@PySem.Value.type "tuple") (@Option.none @Nat) (@PySem.Data.seq (@List.toArray @PySem.Value []) (0 : @Nat)) (@List.toArray (@Option @PySem.Value) []))
noncomputable def oe100 (P : PySem.Params) : PySem.Obj := (@PySem.Obj.mk @PySem.Value.none (@Option.none @Nat) (@PySem.Data.func (@PySem.FuncData.mk (@PySem.Str.ofString "_law_dress") (@PySem.Str.ofString "_law_dress") (fnPar 13) (@PySem.FuncBody.stmts (fnBody 13)) (fnScope 13) (0 : @Nat) [] @PySem.Value.none @PySem.Value.none @PySem.Value.none @PySem.Value.none (@Option.none @Nat) @PySem.Value.none @PySem.Value.none (0 : @Nat))) (@List.toArray (@Option @PySem.Value) []))
noncomputable def oe101 (P : PySem.Params) : PySem.Obj := (@PySem.Obj.mk (@PySem.Value.type "code") (@Option.none @Nat) (@PySem.Data.fields (@List.toArray @PySem.Value [(@PySem.Value.str (@PySem.Str.ofString "_law_dress") (2202 : @Nat)), (@PySem.Value.str (@PySem.Str.ofString "_law_dress") (2203 : @Nat)), (@PySem.Value.str (@PySem.Str.ofString "/claim/cut.py") (2204 : @Nat)), (@PySem.Value.int (42 : @Int) (0 : @Nat)), (@PySem.Value.int (1 : @Int) (0 : @Nat)), (@PySem.Value.int (0 : @Int) (0 : @Nat)), (@PySem.Value.int (0 : @Int) (0 : @Nat)), (@PySem.Value.int (3 : @Int) (0 : @Nat)), (@PySem.Value.ref (96 : @Nat)), (@PySem.Value.bool @Bool.true), (@PySem.Value.int (181 : @Int) (0 : @Nat)), (@PySem.Value.ref (97 : @Nat)), @PySem.Value.none, (@PySem.Value.ref (98 : @Nat)), (@PySem.Value.ref (99 : @Nat)), (@PySem.Value.ref (100 : @Nat)), (@PySem.Value.int (2210 : @Int) (0 : @Nat)), (@PySem.Value.int (42 : @Int) (0 : @Nat)), (@PySem.Value.str (@PySem.Str.ofString "/claim/cut.py") (2211 : @Nat))])) (@List.toArray (@Option @PySem.Value) []))
noncomputable def oe102 (P : PySem.Params) : PySem.Obj := (@PySem.Obj.mk (@PySem.Value.type "function") (@Option.none @Nat) (@PySem.Data.func (@PySem.FuncData.mk (@PySem.Str.ofString "_law_dress") (@PySem.Str.ofString "_law_dress") (fnPar 13) (@PySem.FuncBody.stmts (fnBody 13)) (fnScope 13) (3 : @Nat) [] @PySem.Value.none @PySem.Value.none @PySem.Value.none (@PySem.Value.str (@PySem.Str.ofString "law_tr0047_01") (2174 : @Nat)) (@Option.none @Nat) (@PySem.Value.ref (101 : @Nat)) @PySem.Value.none (0 : @Nat))) (@List.toArray (@Option @PySem.Value) []))
noncomputable def oe103 (P : PySem.Params) : PySem.Obj := (@PySem.Obj.mk (@PySem.Value.type "tuple") (@Option.none @Nat) (@PySem.Data.seq (@List.toArray @PySem.Value []) (0 : @Nat)) (@List.toArray (@Option @PySem.Value) []))
noncomputable def oe104 (P : PySem.Params) : PySem.Obj := (@PySem.Obj.mk @PySem.Value.none (@Option.none @Nat) (@PySem.Data.fields (@List.toArray @PySem.Value [])) (@List.toArray (@Option @PySem.Value) []))
noncomputable def oe105 (P : PySem.Params) : PySem.Obj := (@PySem.Obj.mk @PySem.Value.none (@Option.none @Nat) (@PySem.Data.func (@PySem.FuncData.mk (@PySem.Str.ofString "_law_prices") (@PySem.Str.ofString "_law_prices") (fnPar 14) (@PySem.FuncBody.stmts (fnBody 14)) (fnScope 14) (0 : @Nat) [] @PySem.Value.none @PySem.Value.none @PySem.Value.none @PySem.Value.none (@Option.none @Nat) @PySem.Value.none @PySem.Value.none (0 : @Nat))) (@List.toArray (@Option @PySem.Value) []))
noncomputable def oe106 (P : PySem.Params) : PySem.Obj := (@PySem.Obj.mk (@PySem.Value.type "code") (@Option.none @Nat) (@PySem.Data.fields (@List.toArray @PySem.Value [(@PySem.Value.str (@PySem.Str.ofString "_law_prices") (2213 : @Nat)), (@PySem.Value.str (@PySem.Str.ofString "_law_prices") (2214 : @Nat)), (@PySem.Value.str (@PySem.Str.ofString "/claim/cut.py") (2215 : @Nat)), (@PySem.Value.int (51 : @Int) (0 : @Nat)), (@PySem.Value.int (2 : @Int) (0 : @Nat)), (@PySem.Value.int (0 : @Int) (0 : @Nat)), (@PySem.Value.int (0 : @Int) (0 : @Nat)), (@PySem.Value.int (3 : @Int) (0 : @Nat)), (@PySem.Value.ref (103 : @Nat)), (@PySem.Value.bool @Bool.true), (@PySem.Value.int (181 : @Int) (0 : @Nat)), (@PySem.Value.ref (104 : @Nat)), @PySem.Value.none, @PySem.Value.none, @PySem.Value.none, (@PySem.Value.ref (105 : @Nat)), (@PySem.Value.int (2216 : @Int) (0 : @Nat)), (@PySem.Value.int (51 : @Int) (0 : @Nat)), (@PySem.Value.str (@PySem.Str.ofString "/claim/cut.py") (2217 : @Nat))])) (@List.toArray (@Option @PySem.Value) []))
noncomputable def oe107 (P : PySem.Params) : PySem.Obj := (@PySem.Obj.mk (@PySem.Value.type "function") (@Option.none @Nat) (@PySem.Data.func (@PySem.FuncData.mk (@PySem.Str.ofString "_law_prices") (@PySem.Str.ofString "_law_prices") (fnPar 14) (@PySem.FuncBody.stmts (fnBody 14)) (fnScope 14) (3 : @Nat) [] @PySem.Value.none @PySem.Value.none @PySem.Value.none (@PySem.Value.str (@PySem.Str.ofString "law_tr0047_01") (2174 : @Nat)) (@Option.none @Nat) (@PySem.Value.ref (106 : @Nat)) @PySem.Value.none (0 : @Nat))) (@List.toArray (@Option @PySem.Value) []))
noncomputable def oe108 (P : PySem.Params) : PySem.Obj := (@PySem.Obj.mk (@PySem.Value.type "tuple") (@Option.none @Nat) (@PySem.Data.seq (@List.toArray @PySem.Value []) (0 : @Nat)) (@List.toArray (@Option @PySem.Value) []))
noncomputable def oe109 (P : PySem.Params) : PySem.Obj := (@PySem.Obj.mk @PySem.Value.none (@Option.none @Nat) (@PySem.Data.fields (@List.toArray @PySem.Value [])) (@List.toArray (@Option @PySem.Value) []))
noncomputable def oe110 (P : PySem.Params) : PySem.Obj := (@PySem.Obj.mk @PySem.Value.none (@Option.none @Nat) (@PySem.Data.func (@PySem.FuncData.mk (@PySem.Str.ofString "_law_dealt") (@PySem.Str.ofString "_law_dealt") (fnPar 15) (@PySem.FuncBody.stmts (fnBody 15)) (fnScope 15) (0 : @Nat) [] @PySem.Value.none @PySem.Value.none @PySem.Value.none @PySem.Value.none (@Option.none @Nat) @PySem.Value.none @PySem.Value.none (0 : @Nat))) (@List.toArray (@Option @PySem.Value) []))
noncomputable def oe111 (P : PySem.Params) : PySem.Obj := (@PySem.Obj.mk (@PySem.Value.type "code") (@Option.none @Nat) (@PySem.Data.fields (@List.toArray @PySem.Value [(@PySem.Value.str (@PySem.Str.ofString "_law_dealt") (2219 : @Nat)), (@PySem.Value.str (@PySem.Str.ofString "_law_dealt") (2220 : @Nat)), (@PySem.Value.str (@PySem.Str.ofString "/claim/cut.py") (2221 : @Nat)), (@PySem.Value.int (54 : @Int) (0 : @Nat)), (@PySem.Value.int (1 : @Int) (0 : @Nat)), (@PySem.Value.int (0 : @Int) (0 : @Nat)), (@PySem.Value.int (0 : @Int) (0 : @Nat)), (@PySem.Value.int (3 : @Int) (0 : @Nat)), (@PySem.Value.ref (108 : @Nat)), (@PySem.Value.bool @Bool.true), (@PySem.Value.int (181 : @Int) (0 : @Nat)), (@PySem.Value.ref (109 : @Nat)), @PySem.Value.none, @PySem.Value.none, @PySem.Value.none, (@PySem.Value.ref (110 : @Nat)), (@PySem.Value.int (2222 : @Int) (0 : @Nat)), (@PySem.Value.int (54 : @Int) (0 : @Nat)), (@PySem.Value.str (@PySem.Str.ofString "/claim/cut.py") (2223 : @Nat))])) (@List.toArray (@Option @PySem.Value) []))
noncomputable def oe112 (P : PySem.Params) : PySem.Obj := (@PySem.Obj.mk (@PySem.Value.type "function") (@Option.none @Nat) (@PySem.Data.func (@PySem.FuncData.mk (@PySem.Str.ofString "_law_dealt") (@PySem.Str.ofString "_law_dealt") (fnPar 15) (@PySem.FuncBody.stmts (fnBody 15)) (fnScope 15) (3 : @Nat) [] @PySem.Value.none @PySem.Value.none @PySem.Value.none (@PySem.Value.str (@PySem.Str.ofString "law_tr0047_01") (2174 : @Nat)) (@Option.none @Nat) (@PySem.Value.ref (111 : @Nat)) @PySem.Value.none (0 : @Nat))) (@List.toArray (@Option @PySem.Value) []))
noncomputable def oe113 (P : PySem.Params) : PySem.Obj := (@PySem.Obj.mk (@PySem.Value.type "tuple") (@Option.none @Nat) (@PySem.Data.seq (@List.toArray @PySem.Value []) (0 : @Nat)) (@List.toArray (@Option @PySem.Value) []))
noncomputable def oe114 (P : PySem.Params) : PySem.Obj := (@PySem.Obj.mk @PySem.Value.none (@Option.none @Nat) (@PySem.Data.fields (@List.toArray @PySem.Value [])) (@List.toArray (@Option @PySem.Value) []))
noncomputable def oe115 (P : PySem.Params) : PySem.Obj := (@PySem.Obj.mk (@PySem.Value.type "tuple") (@Option.none @Nat) (@PySem.Data.seq (@List.toArray @PySem.Value [(@PySem.Value.str (@PySem.Str.ofString "figures") (2228 : @Nat)), (@PySem.Value.str (@PySem.Str.ofString "count") (2229 : @Nat)), (@PySem.Value.str (@PySem.Str.ofString "together") (2230 : @Nat)), (@PySem.Value.str (@PySem.Str.ofString "place") (2231 : @Nat)), (@PySem.Value.str (@PySem.Str.ofString "figure") (2232 : @Nat))]) (0 : @Nat)) (@List.toArray (@Option @PySem.Value) []))
noncomputable def oe116 (P : PySem.Params) : PySem.Obj := (@PySem.Obj.mk (@PySem.Value.type "tuple") (@Option.none @Nat) (@PySem.Data.seq (@List.toArray @PySem.Value []) (0 : @Nat)) (@List.toArray (@Option @PySem.Value) []))
noncomputable def oe117 (P : PySem.Params) : PySem.Obj := (@PySem.Obj.mk @PySem.Value.none (@Option.none @Nat) (@PySem.Data.func (@PySem.FuncData.mk (@PySem.Str.ofString "_law_together") (@PySem.Str.ofString "_law_together") (fnPar 16) (@PySem.FuncBody.stmts (fnBody 16)) (fnScope 16) (0 : @Nat) [] @PySem.Value.none @PySem.Value.none @PySem.Value.none @PySem.Value.none (@Option.none @Nat) @PySem.Value.none @PySem.Value.none (0 : @Nat))) (@List.toArray (@Option @PySem.Value) []))
noncomputable def oe118 (P : PySem.Params) : PySem.Obj := (@PySem.Obj.mk (@PySem.Value.type "code") (@Option.none @Nat) (@PySem.Data.fields (@List.toArray @PySem.Value [(@PySem.Value.str (@PySem.Str.ofString "_law_together") (2225 : @Nat)), (@PySem.Value.str (@PySem.Str.ofString "_law_together") (2226 : @Nat)), (@PySem.Value.str (@PySem.Str.ofString "/claim/cut.py") (2227 : @Nat)), (@PySem.Value.int (58 : @Int) (0 : @Nat)), (@PySem.Value.int (2 : @Int) (0 : @Nat)), (@PySem.Value.int (0 : @Int) (0 : @Nat)), (@PySem.Value.int (0 : @Int) (0 : @Nat)), (@PySem.Value.int (3 : @Int) (0 : @Nat)), (@PySem.Value.ref (113 : @Nat)), (@PySem.Value.bool @Bool.true), (@PySem.Value.int (181 : @Int) (0 : @Nat)), (@PySem.Value.ref (114 : @Nat)), @PySem.Value.none, (@PySem.Value.ref (115 : @Nat)), (@PySem.Value.ref (116 : @Nat)), (@PySem.Value.ref (117 : @Nat)), (@PySem.Value.int (2233 : @Int) (0 : @Nat)), (@PySem.Value.int (58 : @Int) (0 : @Nat)), (@PySem.Value.str (@PySem.Str.ofString "/claim/cut.py") (2234 : @Nat))])) (@List.toArray (@Option @PySem.Value) []))
noncomputable def oe119 (P : PySem.Params) : PySem.Obj := (@PySem.Obj.mk (@PySem.Value.type "function") (@Option.none @Nat) (@PySem.Data.func (@PySem.FuncData.mk (@PySem.Str.ofString "_law_together") (@PySem.Str.ofString "_law_together") (fnPar 16) (@PySem.FuncBody.stmts (fnBody 16)) (fnScope 16) (3 : @Nat) [] @PySem.Value.none @PySem.Value.none @PySem.Value.none (@PySem.Value.str (@PySem.Str.ofString "law_tr0047_01") (2174 : @Nat)) (@Option.none @Nat) (@PySem.Value.ref (118 : @Nat)) @PySem.Value.none (0 : @Nat))) (@List.toArray (@Option @PySem.Value) []))
noncomputable def oe120 (P : PySem.Params) : PySem.Obj := (@PySem.Obj.mk (@PySem.Value.type "tuple") (@Option.none @Nat) (@PySem.Data.seq (@List.toArray @PySem.Value []) (0 : @Nat)) (@List.toArray (@Option @PySem.Value) []))
noncomputable def oe121 (P : PySem.Params) : PySem.Obj := (@PySem.Obj.mk @PySem.Value.none (@Option.none @Nat) (@PySem.Data.fields (@List.toArray @PySem.Value [])) (@List.toArray (@Option @PySem.Value) []))
noncomputable def oe122 (P : PySem.Params) : PySem.Obj := (@PySem.Obj.mk @PySem.Value.none (@Option.none @Nat) (@PySem.Data.func (@PySem.FuncData.mk (@PySem.Str.ofString "law") (@PySem.Str.ofString "law") (fnPar 17) (@PySem.FuncBody.stmts (fnBody 17)) (fnScope 17) (0 : @Nat) [] @PySem.Value.none @PySem.Value.none @PySem.Value.none @PySem.Value.none (@Option.none @Nat) @PySem.Value.none @PySem.Value.none (0 : @Nat))) (@List.toArray (@Option @PySem.Value) []))
noncomputable def oe123 (P : PySem.Params) : PySem.Obj := (@PySem.Obj.mk (@PySem.Value.type "code") (@Option.none @Nat) (@PySem.Data.fields (@List.toArray @PySem.Value [(@PySem.Value.str (@PySem.Str.ofString "law") (2236 : @Nat)), (@PySem.Value.str (@PySem.Str.ofString "law") (2237 : @Nat)), (@PySem.Value.str (@PySem.Str.ofString "/claim/cut.py") (2238 : @Nat)), (@PySem.Value.int (63 : @Int) (0 : @Nat)), (@PySem.Value.int (1 : @Int) (0 : @Nat)), (@PySem.Value.int (0 : @Int) (0 : @Nat)), (@PySem.Value.int (0 : @Int) (0 : @Nat)), (@PySem.Value.int (3 : @Int) (0 : @Nat)), (@PySem.Value.ref (120 : @Nat)), (@PySem.Value.bool @Bool.true), (@PySem.Value.int (181 : @Int) (0 : @Nat)), (@PySem.Value.ref (121 : @Nat)), @PySem.Value.none, @PySem.Value.none, @PySem.Value.none, (@PySem.Value.ref (122 : @Nat)), (@PySem.Value.int (2239 : @Int) (0 : @Nat)), (@PySem.Value.int (63 : @Int) (0 : @Nat)), (@PySem.Value.str (@PySem.Str.ofString "/claim/cut.py") (2240 : @Nat))])) (@List.toArray (@Option @PySem.Value) []))
noncomputable def oe124 (P : PySem.Params) : PySem.Obj := (@PySem.Obj.mk (@PySem.Value.type "function") (@Option.none @Nat) (@PySem.Data.func (@PySem.FuncData.mk (@PySem.Str.ofString "law") (@PySem.Str.ofString "law") (fnPar 17) (@PySem.FuncBody.stmts (fnBody 17)) (fnScope 17) (3 : @Nat) [] @PySem.Value.none @PySem.Value.none @PySem.Value.none (@PySem.Value.str (@PySem.Str.ofString "law_tr0047_01") (2174 : @Nat)) (@Option.none @Nat) (@PySem.Value.ref (123 : @Nat)) @PySem.Value.none (0 : @Nat))) (@List.toArray (@Option @PySem.Value) []))
noncomputable def oetree (P : PySem.Params) : BT := (.node (PySem.W.boot_o_0 P) (.node (PySem.W.boot_o_1 P) (.node (oe3 P) (.node (PySem.W.boot_o_7 P) (.node (oc15 P) (.node (od31 P) (.node (od63 P) .nil .nil) (.node (oe95 P) .nil .nil)) (.node (od47 P) (.node (oe79 P) .nil .nil) (.node (oe111 P) .nil .nil))) (.node (oc23 P) (.node (od39 P) (.node (oe71 P) .nil .nil) (.node (oe103 P) .nil .nil)) (.node (od55 P) (.node (oe87 P) .nil .nil) (.node (oe119 P) .nil .nil)))) (.node (oa11 P) (.node (oc19 P) (.node (od35 P) (.node (od67 P) .nil .nil) (.node (oe99 P) .nil .nil)) (.node (od51 P) (.node (oe83 P) .nil .nil) (.node (oe115 P) .nil .nil))) (.node (oc27 P) (.node (od43 P) (.node (oe75 P) .nil .nil) (.node (oe107 P) .nil .nil)) (.node (od59 P) (.node (oe91 P) .nil .nil) (.node (oe123 P) .nil .nil))))) (.node (PySem.W.boot_o_5 P) (.node (PySem.W.boot_o_9 P) (.node (oc17 P) (.node (od33 P) (.node (od65 P) .nil .nil) (.node (oe97 P) .nil .nil)) (.node (od49 P) (.node (oe81 P) .nil .nil) (.node (oe113 P) .nil .nil))) (.node (oc25 P) (.node (od41 P) (.node (oe73 P) .nil .nil) (.node (oe105 P) .nil .nil)) (.node (od57 P) (.node (oe89 P) .nil .nil) (.node (oe121 P) .nil .nil)))) (.node (oa13 P) (.node (oc21 P) (.node (od37 P) (.node (oe69 P) .nil .nil) (.node (oe101 P) .nil .nil)) (.node (od53 P) (.node (oe85 P) .nil .nil) (.node (oe117 P) .nil .nil))) (.node (od29 P) (.node (od45 P) (.node (oe77 P) .nil .nil) (.node (oe109 P) .nil .nil)) (.node (od61 P) (.node (oe93 P) .nil .nil) .nil))))) (.node (PySem.W.boot_o_2 P) (.node (PySem.W.boot_o_4 P) (.node (PySem.W.boot_o_8 P) (.node (oc16 P) (.node (od32 P) (.node (od64 P) .nil .nil) (.node (oe96 P) .nil .nil)) (.node (od48 P) (.node (oe80 P) .nil .nil) (.node (oe112 P) .nil .nil))) (.node (oc24 P) (.node (od40 P) (.node (oe72 P) .nil .nil) (.node (oe104 P) .nil .nil)) (.node (od56 P) (.node (oe88 P) .nil .nil) (.node (oe120 P) .nil .nil)))) (.node (oe12 P) (.node (oc20 P) (.node (od36 P) (.node (oe68 P) .nil .nil) (.node (oe100 P) .nil .nil)) (.node (od52 P) (.node (oe84 P) .nil .nil) (.node (oe116 P) .nil .nil))) (.node (oc28 P) (.node (od44 P) (.node (oe76 P) .nil .nil) (.node (oe108 P) .nil .nil)) (.node (od60 P) (.node (oe92 P) .nil .nil) (.node (oe124 P) .nil .nil))))) (.node (PySem.W.boot_o_6 P) (.node (PySem.W.boot_o_10 P) (.node (oc18 P) (.node (od34 P) (.node (od66 P) .nil .nil) (.node (oe98 P) .nil .nil)) (.node (od50 P) (.node (oe82 P) .nil .nil) (.node (oe114 P) .nil .nil))) (.node (oc26 P) (.node (od42 P) (.node (oe74 P) .nil .nil) (.node (oe106 P) .nil .nil)) (.node (od58 P) (.node (oe90 P) .nil .nil) (.node (oe122 P) .nil .nil)))) (.node (oa14 P) (.node (oc22 P) (.node (od38 P) (.node (oe70 P) .nil .nil) (.node (oe102 P) .nil .nil)) (.node (od54 P) (.node (oe86 P) .nil .nil) (.node (oe118 P) .nil .nil))) (.node (od30 P) (.node (od46 P) (.node (oe78 P) .nil .nil) (.node (oe110 P) .nil .nil)) (.node (od62 P) (.node (oe94 P) .nil .nil) .nil))))))
def life0 : Life := (@PySem.Life.mk [] [] [] (0 : @Nat) [] [] @Bool.false (@List.toArray @Nat []) [] (0 : @Nat) @Bool.false @Bool.false @Bool.false (0 : @Int) [(2000 : @Int), (10 : @Int), (10 : @Int)] @Bool.false (0 : @Nat) @Bool.true [] [] (0 : @Nat) @Bool.false)
def drawn0 : Drawn := (@PySem.Drawn.mk (0 : @Nat) (0 : @Nat) (0 : @Nat) (0 : @Nat))
noncomputable def env0 : PySem.Env := { scope := PW.main.scope, locals := mainNs, globals := mainNs, cells := [], code := .ref 13, frame := some 14 }
noncomputable def cE : Code := .body body0 env0
noncomputable def B0 : List Frame := [topFrame ⟨0, 0, 0, 0⟩]
def ann0 : Option Value := some (.ref 6)
noncomputable def s0 (w : World) (os : OsState) : Shared := ⟨PySem.W.boot_heap w.params, Array.mk [], boot_drawn, boot_toks, os⟩
noncomputable def sA (w : World) (os : OsState) : SharedT := ⟨oatree w.params, 15, life0, #[], drawn0, 187, os⟩
noncomputable def sC (w : World) (os : OsState) : SharedT := ⟨octree w.params, 29, life0, #[], drawn0, 215, os⟩
noncomputable def sD (w : World) (os : OsState) : SharedT := ⟨odtree w.params, 68, life0, #[], drawn0, 2166, os⟩
noncomputable def sE (w : World) (os : OsState) : SharedT := ⟨oetree w.params, 125, life0, #[], drawn0, 2242, os⟩
noncomputable def pre7 : List PySem.Stmt := body0.take 7
noncomputable def suf : List PySem.Stmt := body0.drop 8
end Mine
end
section
open PySem PySem.W PySem.Calls PyProof.Rows
set_option maxRecDepth 100000
set_option maxHeartbeats 8000000
namespace Mine
noncomputable def l1 : World → OsState → Option (Shared × Thread) := fun w os => topGo treeTable PW w 11 ann0 12 (s0 w os) (topStub PW)
noncomputable def r1 : World → OsState → Option (Shared × Thread) := fun w os => some ((sA w os).abs, ⟨denote treeTable cE, cE, ⟨0, 0, 0, 0⟩, B0⟩)
noncomputable def l3 : World → OsState → Option (Flow × SharedT × Code × PySem.Pos) := fun w os => segRunT treeTable PW w 11 ann0 1 108 (sA w os) (piecesOf pre7 env0 cE ⟨0, 0, 0, 0⟩ B0)
noncomputable def r3 : World → OsState → Option (Flow × SharedT × Code × PySem.Pos) := fun w os => some (.next, sC w os, cE, ⟨19, 0, 19, 8⟩)
noncomputable def l2 : World → OsState → Shared := fun w os => behind w ((sC w os).abs.heap) kvs0 (PySem.Str.ofString "b3_exceptions") ((sC w os).abs)
noncomputable def r2 : World → OsState → Shared := fun w os => (sD w os).abs
noncomputable def l4 : World → OsState → Option (Flow × SharedT × Code × PySem.Pos) := fun w os => segRunT treeTable PW w 11 ann0 1 276 (sD w os) (piecesOf suf env0 cE ⟨20, 0, 20, 13⟩ B0)
noncomputable def r4 : World → OsState → Option (Flow × SharedT × Code × PySem.Pos) := fun w os => some (.next, sE w os, cE, ⟨63, 0, 87, 15⟩)
noncomputable def l5 : World → OsState → Option Shared := fun w os => topRun treeTable PW w 11 ann0 2 (sE w os).abs ⟨doneF .next, cE, ⟨63, 0, 87, 15⟩, B0⟩
noncomputable def r5 : World → OsState → Option Shared := fun w os => some (sE w os).abs
noncomputable def l6 : World → OsState → Option (Flow × Shared × Code × PySem.Pos) := fun w os => segRun treeTable PW w 11 ann0 1 1 (sA w os).abs (blockOf body0 env0 cE ⟨0, 0, 0, 0⟩ B0)
noncomputable def r6 : World → OsState → Option (Flow × Shared × Code × PySem.Pos) := fun w os => some (.next, (sA w os).abs, cE, ⟨0, 0, 0, 0⟩)
noncomputable def l7 : World → Bool × Nat × Option Value := fun w => ((PySem.W.boot_heap w.params).isNs mainGlobals && (Array.mk ([] : List GenState)).size == 0, (PySem.W.boot_heap w.params).objs.size, (PySem.W.boot_heap w.params).nsMap mainGlobals "__annotations__")
noncomputable def r7 : World → Bool × Nat × Option Value := fun _ => (true, 11, ann0)
theorem e1' : l1 = r1 := by kernel_rfl
theorem e2' : l2 = r2 := by kernel_rfl
theorem e3' : l3 = r3 := by kernel_rfl
theorem e4' : l4 = r4 := by kernel_rfl
theorem e5' : l5 = r5 := by kernel_rfl
theorem e6' : l6 = r6 := by kernel_rfl
theorem e7' : l7 = r7 := by kernel_rfl
end Mine
end
section
open PySem PySem.W PySem.Calls PyProof.Rows
set_option maxRecDepth 100000
set_option maxHeartbeats 8000000
namespace Mine
local macro_rules | `(tactic| o_head $H) => `(tactic| exact (show Hook → PySem.W.OpenRow.Holds PySem.Challenge.rw_tr0047_01.row from by assumption) $H)
theorem fr (hh : Hook → PySem.W.OpenRow.Holds PySem.Challenge.rw_tr0047_01.row) : PySem.W.OpenRow.Holds PySem.Challenge.rw_tr0047_01.row := by
  k_head
end Mine
end
section
open PySem PySem.W PySem.Calls PyProof.Rows
set_option maxRecDepth 100000
set_option maxHeartbeats 8000000
namespace Mine
noncomputable def qV : PySem.Program := { PW with main := { PW.main with body := [1, 2, 3, 5, 8, 10, 11, 12, 13, 14, 15, 16, 17].filterMap fun i => PW.main.body[i]? } }
abbrev loose0 : List PySem.Str := [PySem.Str.ofString "b3_exceptions"]
noncomputable def mods0 : List PySem.Str := importedModules PW.main.body
noncomputable def xt0 : Shared → Bool := fun s => xlAt qV [] s && recOk (RowW.records PySem.Challenge.rw_tr0047_01.row.toRowW) s
noncomputable def hF (P : PySem.Params) : Heap := absHeap (oetree P) 125 life0
noncomputable def sF (w : World) (os : OsState) : Shared := ⟨hF w.params, #[], drawn0, 2242, os⟩
noncomputable def sG (w : World) (os : OsState) : Shared := { sF w os with gens := #[] }
def as0 : List Addr := [2, 3, 6, 15, 17, 18, 20, 21, 22, 24, 25, 27, 28, 29, 68, 70, 71, 73, 74, 75, 77, 78, 80, 81, 82, 84, 85, 87, 88, 89, 91, 92, 94, 95, 96, 98, 99, 101, 102, 103, 106, 107, 108, 111, 112, 113, 115, 116, 118, 119, 120, 123, 124]
noncomputable def ka : World → OsState → Bool := fun w os => staticsOk mods0 (PySem.W.boot_heap w.params) (hF w.params) && namesBound PW (hF w.params) && gensDone (sF w os) && laidKept (PySem.W.boot_heap w.params) (hF w.params)
noncomputable def kb := fun (w : World) (os : OsState) => seen ((recsOf qV).map (·.name)) (ownsOf qV) [] (sG w os)
noncomputable def kbr := fun (_ : World) (_ : OsState) => expectedOf qV
noncomputable def kc := fun (w : World) (_ : OsState) => (hF w.params).bltView
noncomputable def kcr := fun (_ : World) (_ : OsState) => bltViewBooted
noncomputable def kd := fun (w : World) (os : OsState) => (hF w.params).keysOk (looseW qV loose0) ((recsOf qV).map (·.name)) ((litsOf qV).map (·.1)) ((clssOf qV (looseW qV loose0)).map (·.name)) && (hF w.params).accountedOkI mods0 && (hF w.params).isNs mainGlobals && (hF w.params).isNs builtinsNs && tablesOk qV (hF w.params) && xt0 (sF w os) && (if true then (sF w os).gens.size == 0 else !leftWithCleanup (sF w os).gens)
noncomputable def ke := fun (w : World) (os : OsState) => tabsOk qV (sF w os)
noncomputable def kf := fun (w : World) (os : OsState) => pinSeenD qV (drecsOf qV) (sF w os)
noncomputable def kfr := fun (_ : World) (_ : OsState) => pinGoodD (drecsOf qV)
noncomputable def kg := fun (w : World) (os : OsState) => plainSeenE qV (looseW qV loose0) (sF w os)
noncomputable def kgr := fun (_ : World) (_ : OsState) => plainGoodE qV (looseW qV loose0)
noncomputable def kh := fun (w : World) (os : OsState) => plainSeenD qV loose0 (sF w os)
noncomputable def khr := fun (_ : World) (_ : OsState) => plainGoodD qV loose0
noncomputable def ki := fun (w : World) (os : OsState) => wideSeen qV (sF w os)
noncomputable def kir := fun (_ : World) (_ : OsState) => wideGood qV
noncomputable def kj := fun (w : World) (os : OsState) => clsSeenW qV loose0 (sF w os)
noncomputable def kjr := fun (_ : World) (_ : OsState) => clsGoodW qV loose0
noncomputable def ky := fun (w : World) (os : OsState) => as0.map (sF w os).heap.get?
noncomputable def kyr := fun (w : World) (_ : OsState) => (fr.heap_1 w.params).map fun p => some p.2
def tt0 : World → OsState → Bool := fun _ _ => true
end Mine
end
section
open PySem PySem.W PySem.Calls PyProof.Rows
set_option maxRecDepth 100000
set_option maxHeartbeats 8000000
namespace Mine
theorem ka_ok : ka = tt0 := by kernel_rfl
theorem kb_ok : kb = kbr := by kernel_rfl
theorem kc_ok : kc = kcr := by kernel_rfl
theorem kd_ok : kd = tt0 := by kernel_rfl
theorem ke_ok : ke = tt0 := by kernel_rfl
theorem kf_ok : kf = kfr := by kernel_rfl
theorem kg_ok : kg = kgr := by kernel_rfl
theorem kh_ok : kh = khr := by kernel_rfl
theorem ki_ok : ki = kir := by kernel_rfl
theorem kj_ok : kj = kjr := by kernel_rfl
theorem ky_ok : ky = kyr := by kernel_rfl
end Mine
end
section
open PySem PySem.W PySem.Calls PyProof.Rows
set_option maxRecDepth 100000
set_option maxHeartbeats 8000000
namespace Mine
theorem at7 : body0.drop 7 = (.Assign [.Name (PySem.Str.ofString "b3_exceptions") ⟨20, 0, 20, 13⟩] (.Dict dKeys dVals dPos) ⟨20, 0, 20, 8704⟩) :: suf := by kernel_rfl
theorem body_is : body0 = pre7 ++ ((.Assign [.Name (PySem.Str.ofString "b3_exceptions") ⟨20, 0, 20, 13⟩] (.Dict dKeys dVals dPos) ⟨20, 0, 20, 8704⟩) :: suf) := by
  rw [← at7]; exact (List.take_append_drop 7 body0).symm
theorem keys_ok : dKeys.all isKey = true := by kernel_rfl
theorem vals_ok : dVals.all isVal = true := by kernel_rfl
theorem kvs_len : kvs0.length = 650 := by kernel_rfl
def upw : Int → List Int → Bool
  | _, [] => true
  | b, h :: r => decide (b < h) && upw h r
theorem news_up : ∀ (l : List Int) (b : Int) (hs : List Int), upw b l = true → (∀ h ∈ hs, h ≤ b) → News' hs l
  | [], _, _, _, _ => trivial
  | h :: r, b, hs, hu, hb => by
    simp only [upw, Bool.and_eq_true, decide_eq_true_eq] at hu
    refine ⟨fun hm => ?_, news_up r h _ hu.2 fun x hx => ?_⟩
    · have := hb h hm; omega
    · rcases List.mem_append.mp hx with hx | hx
      · have := hb x hx; omega
      · rw [List.mem_singleton.mp hx]; exact Int.le_refl _
theorem kvs_up : upw (-5) (kvs0.map fun x => hashInt x.1) = true := by kernel_rfl
theorem kvs_new : News' [] (kvs0.map fun x => hashInt x.1) := news_up _ _ _ kvs_up (fun _ h => nomatch h)
theorem main_get (w : World) (os : OsState) : (sC w os).abs.heap.get? mainNs = some (oc3 w.params) := by kernel_rfl
theorem store_is (v : Value) : storeName env0 (PySem.Str.ofString "b3_exceptions") v = nsSet mainNs (PySem.Str.ofString "b3_exceptions") v := by kernel_rfl
theorem main_es (P : PySem.Params) : ∃ es m, (oc3 P).data = .dict es m ∧ aRefKeyMayBeTheName (PySem.Str.ofString "b3_exceptions") es = false := ⟨_, _, rfl, by kernel_rfl⟩
theorem dict_run (w : World) (os : OsState) (N : Nat) (r : Shared) (h : topRun treeTable PW w 11 ann0 N (sD w os).abs (restOf suf env0 cE ⟨20, 0, 20, 13⟩ B0) = some r) :
    topRun treeTable PW w 11 ann0 (12524 + N) (sC w os).abs (restOf ((.Assign [.Name (PySem.Str.ofString "b3_exceptions") ⟨20, 0, 20, 13⟩] (.Dict dKeys dVals dPos) ⟨20, 0, 20, 8704⟩) :: suf) env0 cE ⟨19, 0, 19, 8⟩ B0) = some r := by
  rw [← table_eq_tree] at h ⊢
  obtain ⟨es, m, hd, hr⟩ := main_es w.params
  have S := stmt_ok (p := PW) (w := w) (n₀ := 11) (ann := ann0) (s := (sC w os).abs) (q := ⟨19, 0, 19, 8⟩) (H := (sC w os).abs.heap) (x := PySem.Str.ofString "b3_exceptions") (px := ⟨20, 0, 20, 13⟩) (dp := dPos) (sp := ⟨20, 0, 20, 8704⟩) (ks := dKeys) (vs := dVals) (env := env0) (o := oc3 w.params)
    rfl (by rw [show (sC w os).abs.heap.objs.size = 29 from absHeap_size _ _ _]; decide) (by rw [show (sC w os).abs.heap.objs.size = 29 from absHeap_size _ _ _]; decide) (by rw [show (sC w os).abs.heap.objs.size = 29 from absHeap_size _ _ _]; decide)
    (main_get w os) hd hr keys_ok vals_ok kvs_len kvs_new store_is
  have e : behind w (sC w os).abs.heap (kvsOf dKeys dVals) (PySem.Str.ofString "b3_exceptions") (sC w os).abs = (sD w os).abs := congrFun (congrFun e2' w) os
  rw [e] at S
  unfold restOf
  rw [execs_cons_wrap]
  exact S _ _ _ _ _ _ N r h
theorem run_ok (w : World) (os : OsState) : topRun treeTable PW w 11 ann0 (12 + (1 + (108 + (12524 + (276 + 2))))) (s0 w os) (topStub PW) = some (sE w os).abs := by
  have h5 : topRun treeTable PW w 11 ann0 2 (sE w os).abs (restOf [] env0 cE ⟨63, 0, 87, 15⟩ B0) = some (sE w os).abs := piece_nil (q := ⟨0, 0, 0, 0⟩) (congrFun (congrFun e5' w) os)
  have h4 := piece_app (q := ⟨0, 0, 0, 0⟩) (segRun_of (congrFun (congrFun e4' w) os)) h5
  rw [List.append_nil] at h4
  have hd := dict_run w os _ _ h4
  have h3 := piece_app (q := ⟨0, 0, 0, 0⟩) (segRun_of (congrFun (congrFun e3' w) os)) hd
  rw [← body_is] at h3
  have h2 := piece_block (q := ⟨0, 0, 0, 0⟩) (congrFun (congrFun e6' w) os) h3
  exact go_top (congrFun (congrFun e1' w) os) h2
end Mine
end
section
open PySem PySem.W PySem.Calls PyProof.Rows
set_option maxRecDepth 100000
set_option maxHeartbeats 8000000
namespace Mine
theorem open_ok : ∀ w : World, (fencedOpening treeTable PW w 13100).map (fun s => (s.heap, s.gens, s.drawn, s.toks)) = some (PySem.W.boot_heap w.params, Array.mk [], boot_drawn, boot_toks) :=
  boot_open (by kernel_rfl) (by decide +kernel) (fun s => by kernel_rfl)
theorem looks_ok (w : World) : (fun os => ((staticsOk (importedModules PW.main.body) (PySem.W.boot_heap w.params) (hF w.params) && namesBound PW (hF w.params) && gensDone ⟨hF w.params, #[], drawn0, 2242, os⟩ && laidKept (PySem.W.boot_heap w.params) (hF w.params)),
        openSeen qV loose0 (importedModules PW.main.body) xt0 true ⟨hF w.params, #[], drawn0, 2242, os⟩, as0.map (Shared.heap ⟨hF w.params, #[], drawn0, 2242, os⟩).get?)) = fun _ => (true, openGood qV loose0, (fr.heap_1 w.params).map fun p => some p.2) := by
  funext os
  show (ka w os, (kb w os, kc w os, kd w os, ke w os, kf w os, kg w os, kh w os, ki w os, kj w os), ky w os) = (true, (kbr w os, kcr w os, true, true, kfr w os, kgr w os, khr w os, kir w os, kjr w os), kyr w os)
  rw [ka_ok, kb_ok, kc_ok, kd_ok, ke_ok, kf_ok, kg_ok, kh_ok, ki_ok, kj_ok, ky_ok]
  rfl
theorem left_ok : LeftO PW qV loose0 xt0 (fun s => as0.map s.heap.get?) (fun w => (fr.heap_1 w.params).map fun p => some p.2) 13100 :=
  LeftO.of_pieces (m₀ := 11) (ann := ann0) open_ok (fun w => congrFun e7' w) run_ok (by decide +kernel) looks_ok
end Mine
end
section
open PySem PySem.W PySem.Calls PyProof.Rows
namespace Mine
noncomputable abbrev PR : PySem.Program := PySem.Challenge.rw_tr0047_01.row.prog
noncomputable abbrev KK (w : World) : Frag := fr.heap_1 w.params
abbrev TopM (mean : ExcName → Option Value) (mg mb : PySem.Str → Option Value) (h : Heap) : Prop := Top qV (looseW qV loose0) mean mg mb h
/-- what stands around a call -/
abbrev Claim (w : World) (f : Addr) (news : List (Addr × Obj)) (vs : List Value) (Ret : Heap → Heap → Addr → (PySem.Str → Option Value) → Shared → (Value → Shared → Prop) → Prop) : Prop :=
  ∀ (mean : ExcName → Option Value) (mg mb : PySem.Str → Option Value) (dp un : Nat) (gd : Option (List Code)) (cn : PySem.Str) (cs : Scope) (a : Addr) (ccd : Value) (cl : List (PySem.Str × Addr)) (outer : List Env) (A₀ : Around) (base h₀ : Heap) (L : Addr) (m : PySem.Str → Option Value) (s : Shared) (Q E : Value → Shared → Prop),
    Below A₀ base outer h₀ → Fr h₀ L s.heap m → (KK w).In h₀ → News h₀ L s.heap news → TopM mean mg mb h₀ → cs.kind = .function → dp + 3 < recursionLimit → un + 30 < cLine →
    Ret h₀ s.heap L m s Q →
      wpAny (model PR w) (ktrTop dp un gd cn cs L a ccd cl outer) (call (.ref f) vs) Q E s
abbrev RetI (news : List (Addr × Obj)) (i : Int) (h₀ _h : Heap) (L : Addr) (m : PySem.Str → Option Value) (s : Shared) (Q : Value → Shared → Prop) : Prop :=
  ∀ (t : Tok) (h' : Heap) (tk' : Nat), Fr h₀ L h' m → News h₀ L h' news → Q (.int i t) { s with heap := h', toks := tk' }
abbrev RetS (news : List (Addr × Obj)) (i : PySem.Str) (h₀ _h : Heap) (L : Addr) (m : PySem.Str → Option Value) (s : Shared) (Q : Value → Shared → Prop) : Prop :=
  ∀ (t : Tok) (h' : Heap) (tk' : Nat), Fr h₀ L h' m → News h₀ L h' news → Q (.str i t) { s with heap := h', toks := tk' }
abbrev RetB (news : List (Addr × Obj)) (i : Array UInt8) (h₀ _h : Heap) (L : Addr) (m : PySem.Str → Option Value) (s : Shared) (Q : Value → Shared → Prop) : Prop :=
  ∀ (t : Tok) (h' : Heap) (tk' : Nat), Fr h₀ L h' m → News h₀ L h' news → Q (.bytes i t) { s with heap := h', toks := tk' }
theorem ret_b {h₀ h' : Heap} {L : Addr} {m : PySem.Str → Option Value} {news : List (Addr × Obj)} {s : Shared} {Q : Value → Shared → Prop} {t : Tok} {tk' : Nat} {x y : Array UInt8} (hret : RetB news x h₀ s.heap L m s Q) (e : y = x) (F : Fr h₀ L h' m) (N : News h₀ L h' news) : Q (.bytes y t) { s with heap := h', toks := tk' } := by
  subst e
  exact hret t h' tk' F N
end Mine
end
section
open PySem PySem.W PySem.Calls PyProof.Rows
set_option maxRecDepth 100000
namespace Mine
theorem common_turn {a b g : Int} (h0 : 0 ≤ a) (h1 : 0 ≤ b) (hg : (Int.gcd a b : Int) = g) (hb : b ≠ 0) : 0 ≤ b ∧ 0 ≤ a.fmod b ∧ (Int.gcd b (a.fmod b) : Int) = g := by
  refine ⟨h1, Int.fmod_nonneg_of_pos _ (by omega), ?_⟩
  rw [← hg, Int.fmod_eq_emod_of_nonneg _ h1]
  obtain ⟨x, rfl⟩ := Int.eq_ofNat_of_zero_le h0
  obtain ⟨y, rfl⟩ := Int.eq_ofNat_of_zero_le h1
  rw [← Int.natCast_emod]
  show ((Nat.gcd y (x % y) : Nat) : Int) = ((Nat.gcd x y : Nat) : Int)
  rw [Nat.gcd_comm y, ← Nat.gcd_rec, Nat.gcd_comm]
theorem common_less {a b : Int} (h1 : 0 ≤ b) (hb : b ≠ 0) : (a.fmod b).toNat < b.toNat := by
  have := Int.fmod_lt_of_pos a (show 0 < b by omega)
  have := Int.fmod_nonneg_of_pos a (show 0 < b by omega)
  omega
theorem common_end {a b g : Int} (h0 : 0 ≤ a) (hg : (Int.gcd a b : Int) = g) (hb : b = 0) : a = g := by
  subst hb
  rw [← hg, Int.gcd_zero_right]; omega
set_option maxHeartbeats 8000000 in
theorem common_ok (w : World) (news : List (Addr × Obj)) (x y : Int) (t u : Tok) (hx : 0 ≤ x) (hy : 0 ≤ y) :
    Claim w 81 news [.int x t, .int y u] (RetI news (Int.gcd x y)) := by
  dsimp only [Claim, RetI, KK, PR, TopM]; k_fill
  intros
  rename_i hret
  (k_with "exec While Name cons nil" => k_while (fun _ a b => 0 ≤ a ∧ 0 ≤ b ∧ (Int.gcd a b : Int) = (Int.gcd x y : Int)) (fun _ _ b => b.toNat) "one" "other")
  (k_with "state" => first | exact common_turn (by assumption) (by assumption) (by assumption) (by assumption) | exact ⟨by assumption, by assumption, rfl⟩)
  (k_with "measure" => exact common_less (by assumption) (by assumption))
  refine wpAny_call ?_
  k_dflt cell_enter
  k_steps
  exact cb_retI hret (common_end (by assumption) (by assumption) (by assumption)) (by assumption) (by assumption)
theorem len_turn {x a : Int} {n : Nat} (h1 : (16:Int) ^ n % x = 1) (hx : 2 ≤ x) (h0 : 1 ≤ a) (ha : a ≤ n) (hne : ((16:Int) ^ a.toNat).fmod x ≠ 1) : 1 ≤ a + 1 ∧ a + 1 ≤ n := by
  rw [Int.fmod_eq_emod_of_nonneg _ (by omega)] at hne
  have : a ≠ n := by
    rintro rfl
    exact hne (by simpa using h1)
  omega
theorem len_less {x a : Int} {n : Nat} (h1 : (16:Int) ^ n % x = 1) (hx : 2 ≤ x) (h0 : 1 ≤ a) (ha : a ≤ n) (hne : ((16:Int) ^ a.toNat).fmod x ≠ 1) : n - (a + 1).toNat < n - a.toNat := by
  have := len_turn h1 hx h0 ha hne
  omega
theorem len_end {x a : Int} {n : Nat} (hn : ∀ k : Nat, 1 ≤ k → k < n → (16:Int) ^ k % x ≠ 1) (hx : 2 ≤ x) (h0 : 1 ≤ a) (ha : a ≤ n) (he : ((16:Int) ^ a.toNat).fmod x = 1) : a = n := by
  rw [Int.fmod_eq_emod_of_nonneg _ (by omega)] at he
  by_cases h : a = n
  · exact h
  · exact absurd he (hn a.toNat (by omega) (by omega))
set_option maxHeartbeats 8000000 in
theorem length_ok (w : World) (news : List (Addr × Obj)) (x : Int) (n : Nat) (t : Tok) (hx : 2 ≤ x) (h1 : (16:Int) ^ n % x = 1) (hn : ∀ k : Nat, 1 ≤ k → k < n → (16:Int) ^ k % x ≠ 1) (hn1 : 1 ≤ n) (hn12 : n ≤ 12) :
    Claim w 95 news [.int x t] (RetI news n) := by
  dsimp only [Claim, RetI, KK, PR, TopM]; k_fill
  intros
  rename_i hret
  (k_with "exec While Compare cons nil" => k_while (fun _ a => 1 ≤ a ∧ a ≤ (n : Int)) (fun _ a => n - a.toNat) "length")
  (k_with "state" => first | exact len_turn h1 hx (by assumption) (by assumption) (by assumption) | exact ⟨by omega, by omega⟩)
  (k_with "measure" => exact len_less h1 hx (by assumption) (by assumption) (by assumption))
  refine wpAny_call ?_
  k_dflt cell_enter
  k_steps
  exact cb_retI hret (len_end hn hx (by assumption) (by assumption) (by assumption)) (by assumption) (by assumption)
end Mine
end
section
open PySem PySem.W PySem.Calls PyProof.Rows
set_option maxRecDepth 100000
namespace Mine
section
variable {prog : Program} {w : World} {A : Around} {E : Value → Shared → Prop} {s : Shared} {env : Env} {h₀ : Heap} {xi xc : PySem.Str} {body : List Stmt} {Q : Flow → Shared → Prop}
/-- the state between the turns: like KstS, by the turn's number -/
abbrev EnS {σ : Type} (Led : σ → List (Addr × Obj)) (ps : σ → List (PySem.Str × Value)) (Facts : σ → Prop) (x : PySem.Str) (stored : List PySem.Str) (m₀ : PySem.Str → Option Value) (P : Nat → σ → Prop) (i : Nat) (m : PySem.Str → Option Value) (nx : List (Addr × Obj)) : Prop :=
  KstS Led ps Facts x stored m₀ (fun pre c => P pre.length c) (List.replicate i 0) m nx
theorem en_fr {L : Addr} {h : Heap} {ps : List (PySem.Str × Value)} {stored : List PySem.Str} {m₀ m₁ : PySem.Str → Option Value} {v v0 : Value} (h1 : ∀ p ∈ ps, m₁ p.1 = some p.2) (h2 : ∀ z, z ≠ xc → (∀ p ∈ ps, z ≠ p.1) → stored.contains z = false → m₁ z = m₀ z)
    (F : Fr h₀ L h (fun y => if y = xc then some v else if y = xi then some v0 else m₁ y)) : Fr h₀ L h (fun y => if y = xc then some v else if y = xi then some v0 else kstB (fun z => if stored.contains z then m₁ z else m₀ z) ps y) := by
  have em : (fun y => if y = xc then some v else if y = xi then some v0 else kstB (fun z => if stored.contains z then m₁ z else m₀ z) ps y) = fun y => if y = xc then some v else if y = xi then some v0 else m₁ y := by
    funext y
    by_cases hy : y = xc
    · rw [if_pos hy, if_pos hy]
    · rw [if_neg hy, if_neg hy]
      by_cases hz : y = xi
      · rw [if_pos hz, if_pos hz]
      · rw [if_neg hz, if_neg hz]
        exact kst_off h1 h2 hy
  rw [em]
  exact F
/-- a turn's end, closed so that the walk stops there -/
structure EnPost (h₀ : Heap) (L : Addr) (J : (PySem.Str → Option Value) → List (Addr × Obj) → Prop) (own : List (Addr × Obj)) (adr : List Addr) (s₁ : Shared) (Q : Flow → Shared → Prop) (f : Flow) (s₂ : Shared) : Prop where
  out : InvPostN h₀ L J own adr s₁ Q f s₂
theorem en_next {σ : Type} {Led : σ → List (Addr × Obj)} {ps : σ → List (PySem.Str × Value)} {Facts : σ → Prop} {x : PySem.Str} {stored : List PySem.Str} {m₀ m' : PySem.Str → Option Value} {P : List Int → σ → Prop} {L : Addr} {own news' : List (Addr × Obj)} {adr : List Addr} {s₁ : Shared} {h' : Heap} {tk : Nat} (c' : σ)
    (F : Fr h₀ L h' m') (N : News h₀ L h' news') (hn : ∀ p ∈ Led c', p ∈ news') (ho : ∀ p ∈ own, p ∈ news') (ha : (Led c').map (·.1) = adr) (hf : Facts c') (hk : ∀ p ∈ ps c', m' p.1 = some p.2) (hr : ∀ z, z ≠ x → (∀ p ∈ ps c', z ≠ p.1) → stored.contains z = false → m' z = m₀ z) (hp : P [] c') :
    EnPost h₀ L (KstS Led ps Facts x stored m₀ P []) own adr s₁ Q .next { s₁ with heap := h', toks := tk } :=
  ⟨⟨h', tk, m', news', Led c', rfl, F, N, hn, ho, ha, c', rfl, hf, hk, hr, hp⟩⟩
theorem enum_state {σ : Type} {l : Addr} {vs : List Value} {nn : Nat} {m₀ : PySem.Str → Option Value} (Led : σ → List (Addr × Obj)) (ps : σ → List (PySem.Str × Value)) (Facts : σ → Prop) (stored : List PySem.Str) (P : Nat → σ → Prop) (c₀ : σ)
    (hh : A.handled = none) (hl : ∀ c : σ, (l, listOf vs.toArray nn) ∈ Led c) (F : Fr h₀ env.locals s.heap m₀) (N : News h₀ env.locals s.heap (Led c₀)) (hf : Facts c₀) (hk : ∀ p ∈ ps c₀, m₀ p.1 = some p.2) (hp : P 0 c₀)
    (turn : ∀ (c : σ) (i : Nat) v t (u : PySem.Str → Option Value) h tk own, vs[i]? = some v → i < vs.length → OwnOff own ((Led c₀).map (·.1)) → Facts c → P i c →
      Fr h₀ env.locals h (fun y => if y = xc then some v else if y = xi then some (.int (i : Int) t) else kstB (fun z => if stored.contains z then u z else m₀ z) (ps c) y) → News h₀ env.locals h (Led c ++ own) →
      wpAny (model prog w) A (execs body env) (EnPost h₀ env.locals (KstS Led ps Facts xc stored m₀ (fun (_ : List Int) c => P (i + 1) c) []) own ((Led c₀).map (·.1)) { s with heap := h, toks := tk } Q) E { s with heap := h, toks := tk })
    (done : ∀ (c : σ) (u : PySem.Str → Option Value) h tk, Facts c → P vs.length c → Fr h₀ env.locals h (fun y => if y = xc then u y else kstB (fun z => if stored.contains z then u z else m₀ z) (ps c) y) → News h₀ env.locals h (Led c) → Q .next { s with heap := h, toks := tk }) :
    wpAny (model prog w) A (call (.type "enumerate") [.ref l]) (fun xv s₁ => wpAny (model prog w) A (pyIter xv) (fun it s₂ => PairAt3 prog w A h₀ env xi xc body Q E it s₂) E s₁) E s := by
  have hlm := N _ (hl c₀)
  have hls : s.heap.IsList l vs.toArray := ⟨_, hlm.1, rfl, nn, rfl⟩
  have hlt : l < s.heap.objs.size := Heap.lt_size hlm.1
  have hLs : env.locals < s.heap.objs.size := F.ns.lt
  refine call_enumerate_list hls fun h' he hit hsz hkp => ?_
  refine wpAny_pyIter_enum he ?_
  have W := WalksT.enumerate (prog := prog) (w := w) hh (s.heap.objs.size + 1) s.heap.objs.size l (Nat.succ_ne_self _) (Nat.ne_of_lt (Nat.lt_succ_of_lt hlt)) (Nat.ne_of_lt hlt) vs.toArray
  have fresh : ∀ a, s.heap.objs.size ≤ a → h₀.get? a = none := fun a ha => Heap.get?_none_of_le (Nat.le_trans F.above (Nat.le_trans (Nat.le_of_lt hLs) ha))
  have F' : Fr h₀ env.locals h' m₀ := F.keeps hkp
  have N' : News h₀ env.locals h' (Led c₀) := fun p hp => ⟨hkp _ _ (N p hp).1, (N p hp).2⟩
  refine ⟨_, _, _, vs.toArray.size, _, _, _, (fun i v0 v1 => (∃ t, v0 = .int (i : Int) t) ∧ vs.toArray[i]? = some v1), m₀, Led c₀, (fun i m nx => nx.map (·.1) = (Led c₀).map (·.1) ∧ ∃ c : σ, nx = Led c ∧ Facts c ∧ (∀ p ∈ ps c, m p.1 = some p.2) ∧ (∀ z, z ≠ xc → (∀ p ∈ ps c, z ≠ p.1) → stored.contains z = false → m z = m₀ z) ∧ P i c), rfl, W, ?_, ?_, ?_, ?_,
    ⟨⟨_, by simpa using he⟩, hit, hls.at fun o e => hkp _ _ e⟩, F', N', ⟨rfl, c₀, rfl, hf, hk, fun _ _ _ _ => rfl, hp⟩, ?_, ?_⟩
  · rintro i vals ⟨t, x, hx, rfl⟩
    exact ⟨_, _, rfl, ⟨t, rfl⟩, hx⟩
  · intro hm
    simp only [List.mem_cons, List.not_mem_nil, or_false] at hm
    rcases hm with e | e | e
    · exact Nat.ne_of_lt (Nat.lt_succ_of_lt hLs) e
    · exact Nat.ne_of_lt hLs e
    · exact hlm.2.1 e.symm
  · intro b hb
    simp only [List.mem_cons, List.not_mem_nil, or_false] at hb
    rcases hb with e | e <;> rw [e]
    · exact fresh _ (Nat.le_succ _)
    · exact fresh _ (Nat.le_refl _)
  · intro p hp hb
    have h1 := Heap.lt_size (N p hp).1
    simp only [List.mem_cons, List.not_mem_nil, or_false] at hb
    rcases hb with e | e
    · exact Nat.ne_of_lt (Nat.lt_succ_of_lt h1) e
    · exact Nat.ne_of_lt h1 e
  · rintro i v0 v1 m₁ news₁ s₁ own ⟨hh', tk', rfl⟩ hin ⟨⟨t, rfl⟩, hv⟩ ⟨ha, c, rfl, hf', h1, h2, hp'⟩ _ hown F₁ N₁
    have hv' : vs[i]? = some v1 := by simpa using hv
    have hlc := hl c
    have oo : OwnOff (own.filter fun p => decide (p.1 ≠ l)) ((Led c₀).map (·.1)) := by
      intro p hp b hb e
      obtain ⟨hp1, hp2⟩ := List.mem_filter.mp hp
      obtain ⟨q, hq, rfl⟩ := List.mem_map.mp hb
      have h3 := Heap.lt_size (N q hq).1
      have h4 := hown p hp1
      simp only [List.mem_cons, List.not_mem_nil, or_false] at h4
      rcases h4 with h4 | h4 | h4
      · rw [← e, h4] at h3; exact absurd h3 (Nat.not_lt.mpr (Nat.le_succ _))
      · rw [← e, h4] at h3; exact absurd h3 (Nat.lt_irrefl _)
      · exact (of_decide_eq_true hp2) h4
    have N₂ : News h₀ env.locals hh' (Led c ++ own.filter fun p => decide (p.1 ≠ l)) := fun p hp => N₁ p ((List.mem_append.mp hp).elim (fun h => List.mem_append_right _ h) fun h => List.mem_append_left _ (List.mem_filter.mp h).1)
    refine wpAny_mono (turn c i v1 t m₁ hh' tk' _ hv' (by rcases List.getElem?_eq_some_iff.mp hv' with ⟨h, _⟩; exact h) oo hf' hp' (en_fr h1 h2 F₁) N₂) (fun f s₂ p => ?_) fun _ _ e => e
    have fin : InvEndN h₀ env.locals (KstS Led ps Facts xc stored m₀ (fun (_ : List Int) c => P (i + 1) c) []) (own.filter fun p => decide (p.1 ≠ l)) ((Led c₀).map (·.1)) { s with heap := hh', toks := tk' } s₂ →
        LoopStep2 h₀ env.locals own (Led c) (fun m nx => nx.map (·.1) = (Led c₀).map (·.1) ∧ ∃ c : σ, nx = Led c ∧ Facts c ∧ (∀ p ∈ ps c, m p.1 = some p.2) ∧ (∀ z, z ≠ xc → (∀ p ∈ ps c, z ≠ p.1) → stored.contains z = false → m z = m₀ z) ∧ P (i + 1) c) { s with heap := hh', toks := tk' } .next s₂ := by
      rintro ⟨h3, tk3, m', news', nx, e, F3, N3, hn3, ho3, ha3, c', rfl, hf3, hk3, hr3, hp3⟩
      refine ⟨rfl, h3, tk3, m', Led c', e, F3, fun p hp => ?_, ha3.trans ha.symm, ha3, c', rfl, hf3, hk3, hr3, hp3⟩
      rcases List.mem_append.mp hp with hp | hp
      · by_cases e : p.1 = l
        · have z1 := (N₁ p (List.mem_append_left _ hp)).1
          have z2 := (N₁ _ (List.mem_append_right _ hlc)).1
          rw [e] at z1
          rw [z2] at z1
          have z3 := N3 _ (hn3 _ (hl c'))
          have : p = (l, listOf vs.toArray nn) := Prod.ext e (Option.some.inj z1).symm
          rw [this]
          exact z3
        · exact N3 p (ho3 p (List.mem_filter.mpr ⟨hp, decide_eq_true e⟩))
      · exact N3 p (hn3 p hp)
    cases f with
    | ret v => exact p.out
    | brk => exact p.out
    | next => exact fin p.out
    | cont => exact fin p.out
  · rintro h3 tk3 m' news' F3 N3 _ ⟨_, c, rfl, hf3, hk3, hr3, hp3⟩
    rw [List.size_toArray] at hp3
    exact done c m' h3 tk3 hf3 hp3 (kst_frOut hk3 hr3 F3) N3
theorem enum_fix {σ : Type} {l : Addr} {vs : List Value} {nn : Nat} {m₀ : PySem.Str → Option Value} {led : List (Addr × Obj)} (ps : σ → List (PySem.Str × Value)) (stored : List PySem.Str) (P : Nat → σ → Prop) (c₀ : σ)
    (hh : A.handled = none) (hl : (l, listOf vs.toArray nn) ∈ led) (F : Fr h₀ env.locals s.heap m₀) (N : News h₀ env.locals s.heap led) (hk : ∀ p ∈ ps c₀, m₀ p.1 = some p.2) (hp : P 0 c₀)
    (turn : ∀ (c : σ) (i : Nat) v t (u : PySem.Str → Option Value) h tk own, vs[i]? = some v → i < vs.length → OwnOff own (led.map (·.1)) → P i c →
      Fr h₀ env.locals h (fun y => if y = xc then some v else if y = xi then some (.int (i : Int) t) else kstB (fun z => if stored.contains z then u z else m₀ z) (ps c) y) → News h₀ env.locals h (led ++ own) →
      wpAny (model prog w) A (execs body env) (EnPost h₀ env.locals (KstS (fun _ => led) ps (fun _ => True) xc stored m₀ (fun (_ : List Int) c => P (i + 1) c) []) own (led.map (·.1)) { s with heap := h, toks := tk } Q) E { s with heap := h, toks := tk })
    (done : ∀ (c : σ) (u : PySem.Str → Option Value) h tk, P vs.length c → Fr h₀ env.locals h (fun y => if y = xc then u y else kstB (fun z => if stored.contains z then u z else m₀ z) (ps c) y) → News h₀ env.locals h led → Q .next { s with heap := h, toks := tk }) :
    wpAny (model prog w) A (call (.type "enumerate") [.ref l]) (fun xv s₁ => wpAny (model prog w) A (pyIter xv) (fun it s₂ => PairAt3 prog w A h₀ env xi xc body Q E it s₂) E s₁) E s :=
  enum_state (fun _ => led) ps (fun _ => True) stored P c₀ hh (fun _ => hl) F N trivial hk hp (fun c i v t u h tk own h1 h2 h3 _ => turn c i v t u h tk own h1 h2 h3) (fun c u h tk _ => done c u h tk)
end
end Mine
end
section
open PySem PySem.W PySem.Calls PyProof.Rows
set_option maxRecDepth 100000
namespace Mine
/-- a state's token count as a letter, without a search through the goal -/
theorem gen_tok {prog : Program} {w : World} {A : Around} {α : Type} {t : Sem α} {Q : α → Shared → Prop} {E : Value → Shared → Prop} {a b c d x} (H : ∀ x, wpAny (model prog w) A t Q E ⟨a, b, c, x, d⟩) : wpAny (model prog w) A t Q E ⟨a, b, c, x, d⟩ := H x
section
variable {prog : Program} {w : World} {A : Around} {E : Value → Shared → Prop} {s : Shared} {env : Env} {h₀ : Heap} {xi xc : PySem.Str} {body : List Stmt} {Q : Flow → Shared → Prop}
/-- one int that the turns change -/
abbrev psI (y : PySem.Str) : Int × Nat → List (PySem.Str × Value) := fun a => [(y, .int a.1 a.2)]
theorem enum_int {l : Addr} {vs : List Value} {nn : Nat} {m₀ : PySem.Str → Option Value} {led : List (Addr × Obj)} (y : PySem.Str) (P : Nat → Int → Prop) {v₀ : Int} {t₀ : Nat}
    (hh : A.handled = none) (hl : (l, listOf vs.toArray nn) ∈ led) (F : Fr h₀ env.locals s.heap m₀) (N : News h₀ env.locals s.heap led) (hk : m₀ y = some (.int v₀ t₀)) (hp : P 0 v₀)
    (turn : ∀ (x : Int) (tx : Nat) (i : Nat) v t (u : PySem.Str → Option Value) h tk own, vs[i]? = some v → i < vs.length → OwnOff own (led.map (·.1)) → P i x →
      Fr h₀ env.locals h (fun z => if z = xc then some v else if z = xi then some (.int (i : Int) t) else if z = y then some (.int x tx) else if z = xi then u z else m₀ z) → News h₀ env.locals h (led ++ own) →
      wpAny (model prog w) A (execs body env) (EnPost h₀ env.locals (KstS (fun _ => led) (psI y) (fun _ => True) xc [xi] m₀ (fun (_ : List Int) c => P (i + 1) c.1) []) own (led.map (·.1)) { s with heap := h, toks := tk } Q) E { s with heap := h, toks := tk })
    (done : ∀ (x : Int) (tx : Nat) (u : PySem.Str → Option Value) h tk, P vs.length x → Fr h₀ env.locals h (fun z => if z = xc then u z else if z = y then some (.int x tx) else if z = xi then u z else m₀ z) → News h₀ env.locals h led → Q .next { s with heap := h, toks := tk }) :
    wpAny (model prog w) A (call (.type "enumerate") [.ref l]) (fun xv s₁ => wpAny (model prog w) A (pyIter xv) (fun it s₂ => PairAt3 prog w A h₀ env xi xc body Q E it s₂) E s₁) E s := by
  have e1 : ∀ (u : PySem.Str → Option Value) (x : Int × Nat), kstB (fun z => if [xi].contains z then u z else m₀ z) (psI y x) = fun z => if z = y then some (.int x.1 x.2) else if z = xi then u z else m₀ z := by
    intro u x
    funext z
    simp [kstB]
  refine enum_fix (psI y) [xi] (fun i c => P i c.1) (v₀, t₀) hh hl F N ?_ hp ?_ ?_
  · intro p hp
    rw [List.mem_singleton.mp hp]
    exact hk
  · intro c i v t u h tk own h1 h2 h3 h4 F' N'
    rw [e1] at F'
    exact turn c.1 c.2 i v t u h tk own h1 h2 h3 h4 F' N'
  · intro c u h tk h4 F' N'
    rw [e1] at F'
    exact done c.1 c.2 u h tk h4 F' N'
theorem en_int {y x xi : PySem.Str} {m₀ m' : PySem.Str → Option Value} {P : List Int → Int × Nat → Prop} {L : Addr} {led own news' : List (Addr × Obj)} {s₁ : Shared} {h' : Heap} {tk : Nat} {v : Int} {t : Nat}
    (F : Fr h₀ L h' m') (N : News h₀ L h' news') (hn : ∀ p ∈ led, p ∈ news') (ho : ∀ p ∈ own, p ∈ news') (hk : m' y = some (.int v t)) (hr : ∀ z, z ≠ x → z ≠ y → z ≠ xi → m' z = m₀ z) (hp : P [] (v, t)) :
    EnPost h₀ L (KstS (fun _ => led) (psI y) (fun _ => True) x [xi] m₀ P []) own (led.map (·.1)) s₁ Q .next { s₁ with heap := h', toks := tk } :=
  en_next (v, t) F N hn ho rfl trivial (fun p hp => by rw [List.mem_singleton.mp hp]; exact hk) (fun z h1 h2 h3 => hr z h1 (h2 _ (List.mem_singleton.mpr rfl)) (by simpa using h3)) hp
end
end Mine
end
section
open PySem PySem.W PySem.Calls PyProof.Rows
set_option maxRecDepth 100000
namespace Mine
def apA : Nat → Nat → Array UInt8 → Array UInt8
  | 0, _, acc => acc
  | f + 1, n, acc => if n = 0 then acc else apA f (n / 16) (#[UInt8.ofNat (65 + n % 16)] ++ acc)
abbrev apL : Array UInt8 := #[65, 66, 67, 68, 69, 70, 71, 72, 73, 74, 75, 76, 77, 78, 79, 80]
theorem ap_all : ∀ i : Fin 16, KBy.whole apL (some ((i.val : Nat) : Int)) (some ((i.val : Nat) + 1 : Int)) = false ∧ KBy.picked apL (some ((i.val : Nat) : Int)) (some ((i.val : Nat) + 1 : Int)) = #[UInt8.ofNat (65 + i.val)] := by decide +kernel
theorem ap_pick {i : Int} (h0 : 0 ≤ i) (h1 : i < 16) : KBy.whole apL (some i) (some (i + 1)) = false ∧ KBy.picked apL (some i) (some (i + 1)) = #[UInt8.ofNat (65 + i.toNat)] := by
  have := ap_all ⟨i.toNat, by omega⟩
  simp only [Int.toNat_of_nonneg h0] at this
  exact this
theorem ap_whole (n : Int) : KBy.whole apL (some (n.fmod 16)) (some (n.fmod 16 + 1)) = false := (ap_pick (Int.fmod_nonneg_of_pos n (by decide)) (Int.fmod_lt_of_pos n (by decide))).1
theorem ap_size (n : Int) : (KBy.picked apL (some (n.fmod 16)) (some (n.fmod 16 + 1))).size = 1 := by
  rw [(ap_pick (Int.fmod_nonneg_of_pos n (by decide)) (Int.fmod_lt_of_pos n (by decide))).2]; rfl
def ApSt (x n : Int) (v : Array UInt8) : Prop := v.size ≤ 13 ∧ n.toNat < 16 ^ (13 - v.size) ∧ apA (13 - v.size) n.toNat v = apA 13 x.natAbs #[]
theorem ap_start {x : Int} (hx : x.natAbs < 16 ^ 13) : (0 ≤ if x < 0 then -x else x) ∧ (if x < 0 then -x else x) < 4503599627370496 ∧ ApSt x (if x < 0 then -x else x) #[] := by
  have e : (if x < 0 then -x else x) = (x.natAbs : Int) := by split <;> omega
  rw [e]
  refine ⟨by omega, by omega, by simp, ?_, ?_⟩
  · simpa using hx
  · rw [Int.toNat_natCast]; rfl
theorem ap_turn {x n : Int} {v : Array UInt8} (h0 : 0 ≤ n) (h : n < 4503599627370496) (hs : ApSt x n v) (hn : n ≠ 0) :
    0 ≤ n.fdiv 16 ∧ n.fdiv 16 < 4503599627370496 ∧ ApSt x (n.fdiv 16) (KBy.picked apL (some (n.fmod 16)) (some (n.fmod 16 + 1)) ++ v) := by
  rw [(ap_pick (Int.fmod_nonneg_of_pos n (by decide)) (Int.fmod_lt_of_pos n (by decide))).2]
  obtain ⟨n, rfl⟩ := Int.eq_ofNat_of_zero_le h0
  rw [Int.fdiv_eq_ediv_of_nonneg _ (by decide), Int.fmod_eq_emod_of_nonneg _ (by decide)]
  obtain ⟨h1, h2, h3⟩ := hs
  rw [Int.toNat_natCast] at h2 h3
  have hv : v.size ≤ 12 := by
    rcases Nat.lt_or_ge v.size 13 with h | h
    · omega
    · have : 13 - v.size = 0 := by omega
      rw [this] at h2
      simp at h2; omega
  obtain ⟨f, hf⟩ : ∃ f, 13 - v.size = f + 1 := ⟨12 - v.size, by omega⟩
  have hs : (#[UInt8.ofNat (65 + ((n : Int) % 16).toNat)] ++ v).size = v.size + 1 := by simp; omega
  have hf2 : 13 - (v.size + 1) = f := by omega
  have e1 : ((n : Int) / 16).toNat = n / 16 := by omega
  have e2 : ((n : Int) % 16).toNat = n % 16 := by omega
  refine ⟨by omega, by omega, by rw [hs]; omega, ?_, ?_⟩
  · rw [hs, hf2, e1]
    rw [hf, Nat.pow_succ] at h2
    omega
  · rw [hs, hf2, e1, e2, ← h3, hf, apA, if_neg (by omega)]
theorem ap_end {x n : Int} {v : Array UInt8} (hs : ApSt x n v) (hn : n = 0) : v = apA 13 x.natAbs #[] := by
  subst hn
  obtain ⟨h1, h2, h3⟩ := hs
  rw [← h3]
  cases 13 - v.size <;> simp [apA]
theorem ap_less {n : Int} (h0 : 0 ≤ n) (hn : n ≠ 0) : (n.fdiv 16).toNat < n.toNat := by
  rw [Int.fdiv_eq_ediv_of_nonneg _ (by decide)]; omega
set_option maxHeartbeats 8000000 in
theorem ap_ok (w : World) (news : List (Addr × Obj)) (x : Int) (t : Tok) (hx : x.natAbs < 16 ^ 13) :
    Claim w 28 news [.int x t] (RetB news (apA 13 x.natAbs #[])) := by
  dsimp only [Claim, RetB, KK, PR, TopM]; k_fill
  intros
  rename_i hret
  (k_with "exec While Name cons nil" => k_while (fun _ n v => 0 ≤ n ∧ n < 4503599627370496 ∧ ApSt x n v) (fun _ n _ => n.toNat) "num" "val")
  (k_with "state" => first | exact ap_turn (by assumption) (by assumption) (by assumption) (by assumption) | exact ap_start hx)
  (k_with "measure" => exact ap_less (by assumption) (by assumption))
  (k_with "subscriptTail" => ((with_reducible show wpAny _ _ (subscriptTail _ (Expr.Slice _ _ none _) (Value.bytes _ _) (Value.ref _)) _ _ _); (with_reducible rename Fr _ _ _ _ => F'); (with_reducible rename News _ _ _ _ => N'); (refine KBy.slice_N (s := ⟨_, _, _, _, _⟩) F' N' (by constructor) (by constructor) (ap_whole _) (by rw [ap_size]; decide) ?_); intro _ _ _ _ _))
  (k_with "binaryOp Add bytes bytes" => ((refine KBy.add_bytes (by rw [ap_size]; have := (show ApSt _ _ _ by assumption).1; omega) ?_); intro _ _))
  refine wpAny_call ?_
  k_dflt cell_enter
  k_steps
  exact ret_b hret (ap_end (by assumption) (by assumption)) (by assumption) (by assumption)
end Mine
end
section
open PySem PySem.W PySem.Calls PyProof.Rows
set_option maxRecDepth 100000
namespace Mine
/-- the first i figures together, in pieces of k -/
def togA (ns : List Int) (k : Nat) : Nat → Int
  | 0 => 0
  | i + 1 => togA ns k i + ns.getD i 0 * 16 ^ (k - 1 - i % k)
set_option maxHeartbeats 8000000 in
theorem together_ok (w : World) (news : List (Addr × Obj)) (l : Addr) (vs : List Value) (ns : List Int) (c : Nat) (k : Nat) (u : Tok) (hi : IntsAre vs ns) (hk : 1 ≤ k) (hk2 : k ≤ 12) (hn : ns.length ≤ 12) (hb : ∀ n ∈ ns, 0 ≤ n ∧ n < 16) :
    Claim w 119 ((l, listOf vs.toArray c) :: news) [.ref l, .int k u] (RetI ((l, listOf vs.toArray c) :: news) (togA ns k ns.length)) := by
  dsimp only [Claim, RetI, KK, PR, TopM]; k_fill
  intros
  rename_i hret
  refine wpAny_call ?_
  k_dflt cell_enter
  k_steps
  (rename Fr _ _ _ _ => lF')
  (rename News _ _ _ _ => lN')
  have kMark : KstMark := kstMark
  refine' enum_state (σ := Int × Nat) (nn := c) (vs := vs) (fun _ => (l, listOf vs.toArray c) :: news) (fun a => [("together", .int a.1 a.2)]) (fun _ => True) ["place"] (fun i a => a.1 = togA ns k i) (0, ?tk0) rfl (fun _ => List.mem_cons_self ..) lF' lN' trivial ?hkk ?hp0 ?turn ?done
  case hkk => intro p hp; rw [List.mem_singleton.mp hp]; rfl
  case hp0 => rfl
  case turn =>
    intro a i v t kU h tk own hv hlt hoff hfacts hP F' N'
    clear lF' lN'
    obtain ⟨x, y⟩ := a
    have hlt' : i < ns.length := by rw [← hi.length]; exact hlt
    obtain ⟨t', hx⟩ := hi.get i ns[i] (by simp [hlt'])
    obtain rfl : v = .int ns[i] t' := by rw [hv] at hx; exact Option.some.inj hx
    have hm0 : 0 ≤ Int.fmod (i : Int) k := Int.fmod_nonneg_of_pos _ (by omega)
    have hm1 : Int.fmod (i : Int) k < k := Int.fmod_lt_of_pos _ (by omega)
    have hb' := hb _ (List.getElem_mem hlt')
    have hq : (togA ns k (i + 1)) = togA ns k i + ns[i] * 16 ^ (k - 1 - Int.fmod (i : Int) k).toNat := by
      rw [togA, List.getD_eq_getElem?_getD, List.getElem?_eq_getElem hlt', Option.getD_some]
      congr 3
      rw [Int.fmod_eq_emod_of_nonneg _ (by omega), ← Int.natCast_emod]
      have := Nat.mod_lt i (show 0 < k by omega)
      omega
    k_steps
    (rename Fr _ _ _ _ => lF2)
    (rename News _ _ _ _ => lN2)
    refine' en_next (?xx, ?tt) lF2 lN2 (fun p hp => List.mem_append_left _ hp) (fun p hp => List.mem_append_right _ hp) rfl trivial ?h1 ?h2 ?h3
    case h1 => intro p hp; rw [List.mem_singleton.mp hp]; rfl
    case h2 =>
      intro z h1 h2 h3
      simp only [List.contains_cons, List.contains_nil, Bool.or_false, Bool.or_eq_false_iff, beq_eq_false_iff_ne, ne_eq] at h3
      simp only [List.forall_mem_cons, List.not_mem_nil, false_implies, implies_true, and_true, ne_eq] at h2
      simp [kstB, h1, h2, h3]
    case h3 => dsimp only at hP ⊢; rw [hq, ← hP]
  case done =>
    intro a kU h tk hfacts hP F' N'
    clear lF' lN'
    obtain ⟨x, y⟩ := a
    k_steps
    rw [hi.length] at hP
    exact cb_retI hret hP (by assumption) (by assumption)
end Mine
end
section
open PySem PySem.W PySem.Calls PyProof.Rows
set_option maxRecDepth 100000
namespace Mine
/-- the price of two signs -/
def priceOf (x y : PySem.Str) : Int := if x == y then 0 else if Txt.lower x == Txt.lower y then 1 else 2
theorem cost_a {x y : PySem.Str} (h : (x == y) = true) : (0 : Int) = priceOf x y := by simp [priceOf, h]
theorem cost_b {x y : PySem.Str} (h : (x == y) = false) (h2 : (Txt.lower x == Txt.lower y) = true) : (1 : Int) = priceOf x y := by simp [priceOf, h, h2]
theorem cost_c {x y : PySem.Str} (h : (x == y) = false) (h2 : (Txt.lower x == Txt.lower y) = false) : (2 : Int) = priceOf x y := by simp [priceOf, h, h2]
set_option maxHeartbeats 8000000 in
theorem cost_ok (w : World) (news : List (Addr × Obj)) (x y : PySem.Str) (t u : Tok) (hx : x.length ≤ 100) (hy : y.length ≤ 100) :
    Claim w 21 news [.str x t, .str y u] (RetI news (priceOf x y)) := by
  dsimp only [Claim, RetI, KK, PR, TopM]; k_fill
  intros
  rename_i hret
  (k_with "call builtin:str.lower" => (refine SCL.lower (by omega) ?_; intro _))
  refine wpAny_call ?_
  k_dflt cell_enter
  k_steps
  all_goals
    rename Fr _ _ _ _ => kF
    rename News _ _ _ _ => kN
  · exact cb_retI hret (cost_a (by assumption)) kF kN
  · exact cb_retI hret (cost_b (by assumption) (by assumption)) kF kN
  · exact cb_retI hret (cost_c (by assumption) (by assumption)) kF kN
end Mine
end
section
open PySem PySem.W PySem.Calls PyProof.Rows
set_option maxRecDepth 100000
namespace Mine
noncomputable def bA : List IPair := kvs0.take 17 ++ (cut 37 (kvs0.drop 17)).flatten
noncomputable def bB : List IPair := kvs0.drop 646
theorem ents_find (prog : Program) (w : World) (g : Nat) (k : Int) (x : PySem.Str) : ∀ (t : Nat) (l : List IPair), l.lookup k = some x → ∃ u, ((ents g t l).find? fun e => (intKind prog w).is k e.key).map (·.val) = some (.str x u)
  | _, [], h => by simp at h
  | t, (a, b) :: r, h => by
    rw [List.lookup_cons] at h
    by_cases e : k = a
    · subst e
      rw [beq_self_eq_true] at h
      obtain rfl : b = x := Option.some.inj h
      refine ⟨t + 1, ?_⟩
      have := intKind_is prog w k t
      simp [ents, ent, this]
    · rw [beq_false_of_ne e] at h
      obtain ⟨u, hu⟩ := ents_find prog w g k x (t + g) r h
      refine ⟨u, ?_⟩
      have : (intKind prog w).is k (.int a t) = false := by
        rw [KeyKind.is_eq_decide (intKind_is prog w a t) k]
        exact decide_eq_false e
      simp [ents, ent, this, hu]
theorem ents_keys (prog : Program) (w : World) (g : Nat) : ∀ (t : Nat) (l : List IPair), ∀ e ∈ ents g t l, ∃ k, (intKind prog w).is k e.key = true ∧ e.hash = (intKind prog w).hash k
  | _, [], e, h => by simp [ents] at h
  | t, (a, b) :: r, e, h => by
    rcases List.mem_cons.mp h with rfl | h
    · exact ⟨a, intKind_is prog w a t, rfl⟩
    · exact ents_keys prog w g (t + g) r e h
theorem k29 (P : Params) : List.lookup 29 (fr.heap_1 P) = some (od29 P) := by kernel_rfl
noncomputable def bMap (prog : Program) (w : World) (k : Int) : Option Value := findBy (intKind prog w).is (ents 3 215 bA ++ ents 2 2153 bB).toArray k
theorem b3_map {prog : Program} {w : World} {h : Heap} {P : Params} (ho : h.get? 29 = some (od29 P)) : h.MapOf (intKind prog w) 29 (bMap prog w) := by
  refine ⟨_, (ents 3 215 bA ++ ents 2 2153 bB).toArray, 650, ho, ⟨rfl, rfl, rfl⟩, rfl, ?_, fun _ => rfl⟩
  intro e he
  rw [List.mem_toArray] at he
  rcases List.mem_append.mp he with h | h
  · exact ents_keys prog w _ _ _ e h
  · exact ents_keys prog w _ _ _ e h
theorem or_val {o p : Option DictEntry} {y : Value} (h : o.map (·.val) = some y) : (o.or p).map (·.val) = some y := by
  cases o with
  | none => exact nomatch h
  | some e => exact h
theorem bMap_some {prog : Program} {w : World} {k : Int} {x : PySem.Str} (h : bA.lookup k = some x) : ∃ u, bMap prog w k = some (.str x u) := by
  obtain ⟨u, hu⟩ := ents_find prog w 3 k x 215 bA h
  refine ⟨u, ?_⟩
  rw [bMap, findBy, List.find?_toArray, List.find?_append]
  exact or_val hu
section
variable {prog : Program} {w : World} {A : Around} {E : Value → Shared → Prop} {s : Shared} {h₀ : Heap} {L : Addr} {m : PySem.Str → Option Value}
theorem b3_meth {P : Params} {pl : Sem Bool} {Q : Value × List Value → Shared → Prop} (F : Fr h₀ L s.heap m) (hK : (fr.heap_1 P).In h₀) (h : Q (.builtin "dict.get", [.ref 29]) s) :
    wpAny (model prog w) A (getMethod (.ref 29) "get" pl) Q E s := by
  have ho : s.heap.get? 29 = some (od29 P) := F.keep _ _ (hK _ _ (k29 P))
  have hm := b3_map (prog := prog) (w := w) ho
  exact getMethod_builtin hm.typeIs PySem.F.plainAttrs_dict PySem.F.slot_dict_get PySem.F.type_dict_get hm.noDict h
theorem b3_get {P : Params} {k : Int} {x : PySem.Str} {t : Tok} {Q : Value → Shared → Prop} (hl : bA.lookup k = some x) (F : Fr h₀ L s.heap m) (hK : (fr.heap_1 P).In h₀) (h : ∀ u, Q (.str x u) { s with toks := s.toks + 1 }) :
    wpAny (model prog w) A (call (.builtin "dict.get") [.ref 29, .int k t]) Q E s := by
  have ho : s.heap.get? 29 = some (od29 P) := F.keep _ _ (hK _ _ (k29 P))
  have hm := b3_map (prog := prog) (w := w) ho
  obtain ⟨u, hu⟩ := bMap_some (prog := prog) (w := w) hl
  refine call_meetsIn PySem.F.slot_dict_get hm.typeIs PySem.F.entry_dict_get (PySem.F.args_dict_get_2 _ _) (meets_dict_get (intKind prog w) 29 (intKind_is prog w k t) (by decide)) ⟨_, hm, ?_⟩
  rw [hu]
  exact h u
end
def alphs : List Nat := [0, 1, 2, 4, 7, 8, 9, 10, 11, 12]
theorem b3_all : ∀ (i : Fin 10) (d : Fin 8), bA.lookup (((119808 + 52 * alphs.getD i.val 0 + d.val : Nat) : Int)) = some ⟨#[97 + d.val]⟩ := by decide +kernel
set_option maxHeartbeats 8000000 in
theorem map_ok (w : World) (news : List (Addr × Obj)) (c : Nat) (x : PySem.Str) (t : Tok) (hl : bA.lookup (c : Int) = some x) :
    Claim w 74 news [.str ⟨#[c]⟩ t] (RetS news x) := by
  dsimp only [Claim, RetS, KK, PR, TopM]; k_fill
  intros
  rename_i hret
  (k_with "getMethod ref" => ((with_reducible rename Fr _ _ _ _ => F'); refine b3_meth F' (by assumption) ?_))
  (k_with "call builtin:ord" => refine P.ord_of_char ?_)
  (k_with "call builtin:dict.get" => ((with_reducible rename Fr _ _ _ _ => F'); refine b3_get hl F' (by assumption) ?_; intro _))
  refine wpAny_call ?_
  k_dflt cell_enter
  k_steps
  exact cb_retS hret rfl (by assumption) (by assumption)
end Mine
end
section
open PySem PySem.W PySem.Calls PyProof.Rows
set_option maxRecDepth 100000
namespace Mine
local macro_rules | `(tactic| walk_at "execs cons") => `(tactic| (k_here; refine gen_tok ?_; intro tkk; (with_reducible refine wpAny_execs_cons ?_); (try dsimp only)))
local macro_rules | `(tactic| walk_at "execs nil") => `(tactic| (k_here; refine gen_tok ?_; intro tkk; (with_reducible refine wpAny_execs_nil ?_); (try dsimp only)))
def LowOk (v : Int) : Prop := 2 ≤ v ∧ ∃ k : Nat, 1 ≤ k ∧ k ≤ 6 ∧ (v ∣ 16 ^ k + 1 ∨ v ∣ 16 ^ k - 1)
theorem lows_mem {i : Nat} {v : Value} : ∀ {vs : List Value} {ns : List Int}, IntsAre vs ns → (∀ n ∈ ns, 3 ≤ n) → vs[i]? = some v → ∃ p t, v = .int p t ∧ 3 ≤ p := by
  intro vs ns h hb hv
  have hl : i < vs.length := by rcases List.getElem?_eq_some_iff.mp hv with ⟨h, _⟩; exact h
  have hl' : i < ns.length := by rw [← h.length]; exact hl
  obtain ⟨t, ht⟩ := h.get i ns[i] (List.getElem?_eq_getElem hl')
  rw [hv] at ht
  exact ⟨_, t, Option.some.inj ht, hb _ (List.getElem_mem hl')⟩
theorem low_bound {v : Int} (h : LowOk v) : 2 ≤ v ∧ v ≤ 16777217 := by
  obtain ⟨h2, k, h3, h4, h5⟩ := h
  refine ⟨h2, ?_⟩
  have hk : (16 : Int) ^ k ≤ 16777216 := by
    have : k = 1 ∨ k = 2 ∨ k = 3 ∨ k = 4 ∨ k = 5 ∨ k = 6 := by omega
    rcases this with rfl | rfl | rfl | rfl | rfl | rfl <;> decide
  have hk1 : (16 : Int) ≤ 16 ^ k := by
    have : k = 1 ∨ k = 2 ∨ k = 3 ∨ k = 4 ∨ k = 5 ∨ k = 6 := by omega
    rcases this with rfl | rfl | rfl | rfl | rfl | rfl <;> decide
  rcases h5 with h5 | h5
  · exact Int.le_trans (Int.le_of_dvd (by omega) h5) (by omega)
  · exact Int.le_trans (Int.le_of_dvd (by omega) h5) (by omega)
theorem low_start {x e : Int} (h0 : 0 ≤ e) (h1 : e < 6) (hx : x = 1 ∨ x = -1) : LowOk (16 ^ (1 + e).toNat + x) := by
  obtain ⟨k, rfl⟩ := Int.eq_ofNat_of_zero_le h0
  have e1 : (1 + (k : Int)).toNat = k + 1 := by omega
  rw [e1]
  have hp : (1 : Int) ≤ 16 ^ k := by have := Int.pow_pos (n := 16) (m := k) (by decide); omega
  have hq : (16 : Int) ^ (k + 1) = 16 ^ k * 16 := Int.pow_succ ..
  refine ⟨by rw [hq]; omega, k + 1, by omega, by omega, ?_⟩
  rcases hx with rfl | rfl
  · exact .inl (Int.dvd_refl _)
  · exact .inr (Int.dvd_refl _)
theorem low_turn {x p : Int} (h : LowOk x) (hp : 3 ≤ p) (hm : x.fmod p = 0) (hg : p < x) : LowOk (x.fdiv p) := by
  obtain ⟨h2, k, h3, h4, h5⟩ := h
  rw [Int.fmod_eq_emod_of_nonneg _ (by omega)] at hm
  rw [Int.fdiv_eq_ediv_of_nonneg _ (by omega)]
  have hd : p ∣ x := Int.dvd_of_emod_eq_zero hm
  obtain ⟨c, rfl⟩ := hd
  rw [Int.mul_ediv_cancel_left _ (by omega)]
  have hc : 2 ≤ c := by
    rcases Int.lt_or_le c 2 with h | h
    · have : c ≤ 1 := by omega
      have := Int.mul_le_mul_of_nonneg_left this (show 0 ≤ p by omega)
      omega
    · exact h
  have hcd : c ∣ p * c := Int.dvd_mul_left _ _
  exact ⟨hc, k, h3, h4, h5.imp (Int.dvd_trans hcd) (Int.dvd_trans hcd)⟩
theorem lows_are {t0 t1 t2 t3 t4 t5 t6 t7 t8 t9 t10 : Tok} : IntsAre [.int 3 t0, .int 5 t1, .int 7 t2, .int 11 t3, .int 13 t4, .int 17 t5, .int 31 t6, .int 41 t7, .int 97 t8, .int 241 t9, .int 257 t10] [3, 5, 7, 11, 13, 17, 31, 41, 97, 241, 257] := (.cons _ _ (.cons _ _ (.cons _ _ (.cons _ _ (.cons _ _ (.cons _ _ (.cons _ _ (.cons _ _ (.cons _ _ (.cons _ _ (.cons _ _ .nil)))))))))))
theorem lows_gen {h₀ h : Heap} {L l : Addr} {news : List (Addr × Obj)} {n : Nat} {t0 t1 t2 t3 t4 t5 t6 t7 t8 t9 t10 : Tok} (N : News h₀ L h ((l, listOf #[.int 3 t0, .int 5 t1, .int 7 t2, .int 11 t3, .int 13 t4, .int 17 t5, .int 31 t6, .int 41 t7, .int 97 t8, .int 241 t9, .int 257 t10] n) :: news)) : ∃ vs : List Value, IntsAre vs [3, 5, 7, 11, 13, 17, 31, 41, 97, 241, 257] ∧ News h₀ L h ((l, listOf vs.toArray n) :: news) := ⟨_, lows_are, N⟩
abbrev RetP (P : Int → Prop) (news : List (Addr × Obj)) (h₀ _h : Heap) (L : Addr) (m : PySem.Str → Option Value) (s : Shared) (Q : Value → Shared → Prop) : Prop :=
  ∀ (i : Int) (t : Tok) (h' : Heap) (tk' : Nat), P i → Fr h₀ L h' m → News h₀ L h' news → Q (.int i t) { s with heap := h', toks := tk' }
set_option maxHeartbeats 8000000 in
theorem lower_ok (w : World) (news : List (Addr × Obj)) (x : Int) (t : Tok) (h0 : 0 ≤ x) (h1 : x < 12000000) :
    Claim w 88 news [.int x t] (RetP LowOk news) := by
  dsimp only [Claim, RetP, KK, PR, TopM]; k_fill
  intros
  rename_i hret
  have hm0 : 0 ≤ Int.fmod (x + 2) 6 := Int.fmod_nonneg_of_pos _ (by omega)
  have hm1 : Int.fmod (x + 2) 6 < 6 := Int.fmod_lt_of_pos _ (by omega)
  refine wpAny_call ?_
  k_dflt cell_enter
  k_steps
  all_goals (rename Fr _ _ _ _ => lF')
  all_goals (rename News _ _ _ _ => lN')
  have kMark : KstMark := kstMark
  · have hg := lows_gen lN'
    clear lN'
    obtain ⟨vs, hi, lN'⟩ := hg
    refine' enum_int "whole" (fun _ a => LowOk a) rfl (List.mem_cons_self ..) lF' lN' (if_pos rfl) (low_start hm0 hm1 (by decide)) ?turn ?done
    case done =>
      intro x y kU h tk hP F' N'
      clear lF' lN'
      k_steps
      exact hret _ _ _ _ hP (by assumption) (News.right (a := [_]) (by assumption))
    case turn =>
      intro x y i v t kU h tk own hv hlt hoff hP F' N'
      clear lF' lN'
      have hlt' : i < 11 := by rw [hi.length] at hlt; exact hlt
      have hh := lows_mem hi (by decide) hv
      obtain ⟨p, t', rfl, hp⟩ := hh
      clear hv
      have hp0 : p ≠ 0 := by omega
      have hx := low_bound hP
      obtain ⟨hx0, hx1⟩ := hx
      k_steps
      all_goals (rename Fr _ _ _ _ => lF2)
      all_goals (rename News _ _ _ _ => lN2)
      all_goals first
        | exact en_int lF2 lN2 (fun p hp => List.mem_append_left _ hp) (fun p hp => List.mem_append_right _ hp) rfl (by intro z h1 h2 h3; simp only [if_neg h1, if_neg h2, if_neg h3]) hP
        | (rename x.fmod p = 0 => hmod; rename p < x => hgt; exact en_int lF2 lN2 (fun p hp => List.mem_append_left _ hp) (fun p hp => List.mem_append_right _ hp) rfl (by intro z h1 h2 h3; simp only [if_neg h1, if_neg h2, if_neg h3]) (low_turn hP hp hmod hgt))
  · have hg := lows_gen lN'
    clear lN'
    obtain ⟨vs, hi, lN'⟩ := hg
    refine' enum_int "whole" (fun _ a => LowOk a) rfl (List.mem_cons_self ..) lF' lN' (if_pos rfl) (low_start hm0 hm1 (by decide)) ?turn ?done
    case done =>
      intro x y kU h tk hP F' N'
      clear lF' lN'
      k_steps
      exact hret _ _ _ _ hP (by assumption) (News.right (a := [_]) (by assumption))
    case turn =>
      intro x y i v t kU h tk own hv hlt hoff hP F' N'
      clear lF' lN'
      have hlt' : i < 11 := by rw [hi.length] at hlt; exact hlt
      have hh := lows_mem hi (by decide) hv
      obtain ⟨p, t', rfl, hp⟩ := hh
      clear hv
      have hp0 : p ≠ 0 := by omega
      have hx := low_bound hP
      obtain ⟨hx0, hx1⟩ := hx
      k_steps
      all_goals (rename Fr _ _ _ _ => lF2)
      all_goals (rename News _ _ _ _ => lN2)
      all_goals first
        | exact en_int lF2 lN2 (fun p hp => List.mem_append_left _ hp) (fun p hp => List.mem_append_right _ hp) rfl (by intro z h1 h2 h3; simp only [if_neg h1, if_neg h2, if_neg h3]) hP
        | (rename x.fmod p = 0 => hmod; rename p < x => hgt; exact en_int lF2 lN2 (fun p hp => List.mem_append_left _ hp) (fun p hp => List.mem_append_right _ hp) rfl (by intro z h1 h2 h3; simp only [if_neg h1, if_neg h2, if_neg h3]) (low_turn hP hp hmod hgt))
end Mine
end
section
open PySem PySem.W PySem.Calls PyProof.Rows
set_option maxRecDepth 100000
namespace Mine
local macro_rules | `(tactic| walk_at "execs cons") => `(tactic| (k_here; refine gen_tok ?_; intro tkk; (with_reducible refine wpAny_execs_cons ?_); (try dsimp only)))
local macro_rules | `(tactic| walk_at "execs nil") => `(tactic| (k_here; refine gen_tok ?_; intro tkk; (with_reducible refine wpAny_execs_nil ?_); (try dsimp only)))
/-- the sign of a figure -/
def sgn (f : Int) : PySem.Str := if f < 8 then ⟨#[(65 + f).toNat]⟩ else ⟨#[(112 - f).toNat]⟩
/-- Claim with wider room around the call: the helper calls a helper -/
abbrev Claim2 (w : World) (f : Addr) (news : List (Addr × Obj)) (vs : List Value) (Ret : Heap → Heap → Addr → (PySem.Str → Option Value) → Shared → (Value → Shared → Prop) → Prop) : Prop :=
  ∀ (mean : ExcName → Option Value) (mg mb : PySem.Str → Option Value) (dp un : Nat) (gd : Option (List Code)) (cn : PySem.Str) (cs : Scope) (a : Addr) (ccd : Value) (cl : List (PySem.Str × Addr)) (outer : List Env) (A₀ : Around) (base h₀ : Heap) (L : Addr) (m : PySem.Str → Option Value) (s : Shared) (Q E : Value → Shared → Prop),
    Below A₀ base outer h₀ → Fr h₀ L s.heap m → (KK w).In h₀ → News h₀ L s.heap news → TopM mean mg mb h₀ → cs.kind = .function → dp + 6 < recursionLimit → un + 70 < cLine →
    Ret h₀ s.heap L m s Q →
      wpAny (model PR w) (ktrTop dp un gd cn cs L a ccd cl outer) (call (.ref f) vs) Q E s
abbrev RetL (news : List (Addr × Obj)) (ss : List PySem.Str) (h₀ _h : Heap) (L : Addr) (m : PySem.Str → Option Value) (s : Shared) (Q : Value → Shared → Prop) : Prop :=
  ∀ (l' : Addr) (us : List Value) (c' : Nat) (h' : Heap) (tk' : Nat), StrsAre us ss → (∀ p ∈ news, p.1 < l') → Fr h₀ L h' m → News h₀ L h' ((l', listOf us.toArray c') :: news) → Q (.ref l') { s with heap := h', toks := tk' }
theorem alph_gen {h₀ h : Heap} {L l : Addr} {p : Addr × Obj} {news : List (Addr × Obj)} {n : Nat} {t0 t1 t2 t3 t4 t5 t6 t7 t8 t9 : Tok} (N : News h₀ L h (p :: (l, listOf #[.int 0 t0, .int 1 t1, .int 2 t2, .int 4 t3, .int 7 t4, .int 8 t5, .int 9 t6, .int 10 t7, .int 11 t8, .int 12 t9] n) :: news)) : ∃ (a b : Addr) (vs : List Value), a = p.1 ∧ b = l ∧ IntsAre vs [0, 1, 2, 4, 7, 8, 9, 10, 11, 12] ∧ News h₀ L h (p :: (l, listOf vs.toArray n) :: news) :=
  ⟨_, _, _, rfl, rfl, (.cons _ _ (.cons _ _ (.cons _ _ (.cons _ _ (.cons _ _ (.cons _ _ (.cons _ _ (.cons _ _ (.cons _ _ (.cons _ _ .nil)))))))))), N⟩
theorem allLt_all {d : Addr} : ∀ {l : List (Addr × Obj)}, AllLt d l → ∀ p ∈ l, p.1 < d
  | [], _, _, hp => nomatch hp
  | _ :: _, h, p, hp => by
    rcases List.mem_cons.mp hp with rfl | hp
    · exact h.1
    · exact allLt_all h.2 p hp
theorem news_drop {h₀ h : Heap} {L : Addr} {a b : Addr × Obj} {r : List (Addr × Obj)} (N : News h₀ L h (a :: b :: r)) : News h₀ L h (a :: r) := by
  intro p hp
  refine N p ?_
  rcases List.mem_cons.mp hp with rfl | hp
  · exact List.mem_cons_self ..
  · exact List.mem_cons_of_mem _ (List.mem_cons_of_mem _ hp)
theorem strs_len {us : List Value} {ss : List PySem.Str} (h : StrsAre us ss) : us.length = ss.length := by
  induction h with
  | nil => rfl
  | cons _ _ _ ih => rw [List.length_cons, List.length_cons, ih]
theorem strs_push {us : List Value} {ss : List PySem.Str} (h : StrsAre us ss) (y : PySem.Str) (t : Tok) : StrsAre (us ++ [.str y t]) (ss ++ [y]) := by
  induction h with
  | nil => exact .cons y t .nil
  | cons a b _ ih => exact .cons a b ih
theorem dress_next {xc : PySem.Str} {m₀ m' : PySem.Str → Option Value} {L lS : Addr} {rest own : List (Addr × Obj)} {s₁ : Shared} {h₀ h' : Heap} {tk cp i : Nat} {us : List Value} {ns : List Int} {x : PySem.Str} {t : Tok} {Q : Flow → Shared → Prop}
    (F : Fr h₀ L h' m') (N : News h₀ L h' ((lS, listOf (us.toArray.push (.str x t)) (cp + 1)) :: rest ++ own)) (hP : StrsAre us ((ns.take i).map sgn)) (hlt : i < ns.length) (hx : x = sgn ns[i]) (hr : ∀ z, z ≠ xc → z ≠ "place" → m' z = m₀ z) :
    EnPost h₀ L (KstS (fun u : List Value × Nat => (lS, listOf u.1.toArray u.2) :: rest) (fun _ => []) (fun _ => True) xc ["place"] m₀ (fun (_ : List Int) u => StrsAre u.1 ((ns.take (i + 1)).map sgn)) []) own (lS :: rest.map (·.1)) s₁ Q .next { s₁ with heap := h', toks := tk } := by
  rw [List.push_toArray] at N
  refine en_next (us ++ [.str x t], cp + 1) F N (fun p hp => List.mem_append_left _ hp) (fun p hp => List.mem_append_right _ hp) rfl trivial (fun p hp => nomatch hp) (fun z h1 _ h3 => hr z h1 (by simpa using h3)) ?_
  dsimp only
  rw [List.take_add_one, List.getElem?_eq_getElem hlt, Option.toList_some, List.map_append, List.map_singleton, ← hx]
  exact strs_push hP x t
theorem alphs_all : ∀ (j : Fin 10), [(0 : Int), 1, 2, 4, 7, 8, 9, 10, 11, 12].getD j.val 0 = (alphs.getD j.val 0 : Nat) ∧ alphs.getD j.val 0 ≤ 12 := by decide
theorem b3_use {i : Nat} {f : Int} (h : 8 ≤ f) (h2 : f < 16) : 0 ≤ [(0 : Int), 1, 2, 4, 7, 8, 9, 10, 11, 12].getD ((i : Int).fmod 10).toNat 0 ∧ [(0 : Int), 1, 2, 4, 7, 8, 9, 10, 11, 12].getD ((i : Int).fmod 10).toNat 0 ≤ 12 ∧ bA.lookup (((119808 + 52 * [(0 : Int), 1, 2, 4, 7, 8, 9, 10, 11, 12].getD ((i : Int).fmod 10).toNat 0 + 15 - f).toNat : Nat) : Int) = some ⟨#[(112 - f).toNat]⟩ := by
  have hj : ((i : Int).fmod 10).toNat < 10 := by
    have hm0 : 0 ≤ Int.fmod (i : Int) 10 := Int.fmod_nonneg_of_pos _ (by omega)
    have hm1 : Int.fmod (i : Int) 10 < 10 := Int.fmod_lt_of_pos _ (by omega)
    omega
  generalize ((i : Int).fmod 10).toNat = j at hj
  have e := alphs_all ⟨j, hj⟩
  dsimp only at e
  obtain ⟨e1, e2⟩ := e
  rw [e1]
  have hd : (15 - f).toNat < 8 := by omega
  have hb := b3_all ⟨j, hj⟩ ⟨(15 - f).toNat, hd⟩
  dsimp only at hb
  refine ⟨by omega, by omega, ?_⟩
  have q1 : (119808 + 52 * ((alphs.getD j 0 : Nat) : Int) + 15 - f).toNat = 119808 + 52 * alphs.getD j 0 + (15 - f).toNat := by omega
  have q2 : (112 - f).toNat = 97 + (15 - f).toNat := by omega
  rw [q1, q2]
  exact hb
set_option maxHeartbeats 8000000 in
theorem dress_ok (w : World) (news : List (Addr × Obj)) (l : Addr) (vs : List Value) (ns : List Int) (c : Nat) (hi : IntsAre vs ns) (hb : ∀ n ∈ ns, 0 ≤ n ∧ n < 16) (hn : ns.length ≤ 12) :
    Claim2 w 102 ((l, listOf vs.toArray c) :: news) [.ref l] (RetL ((l, listOf vs.toArray c) :: news) (ns.map sgn)) := by
  dsimp only [Claim2, RetL, KK, PR, TopM]; k_fill
  intros
  rename_i hret
  refine wpAny_call ?_
  k_dflt cell_enter
  k_steps
  (rename Fr _ _ _ _ => lF')
  (rename News _ _ _ _ => lN')
  have kMark : KstMark := kstMark
  have hg := alph_gen lN'
  clear lN'
  obtain ⟨lS, lA, va, e1, e2, ha, lN'⟩ := hg
  dsimp only at e1
  subst e1
  subst e2
  have hap : ∀ p ∈ ((lA, listOf va.toArray 0) :: (l, listOf vs.toArray c) :: news), p.1 ≠ lS := by
    have h1 : lA < lS ∧ l < lS ∧ AllLt lS news := by assumption
    intro p hp
    rcases List.mem_cons.mp hp with rfl | hp
    · exact Nat.ne_of_lt h1.1
    rcases List.mem_cons.mp hp with rfl | hp
    · exact Nat.ne_of_lt h1.2.1
    · exact Nat.ne_of_lt (allLt_all h1.2.2 p hp)
  have hap2 : ∀ p ∈ ((l, listOf vs.toArray c) :: news), p.1 < lS := by
    have h1 : lA < lS ∧ l < lS ∧ AllLt lS news := by assumption
    intro p hp
    rcases List.mem_cons.mp hp with rfl | hp
    · exact h1.2.1
    · exact allLt_all h1.2.2 p hp
  refine' enum_state (σ := List Value × Nat) (nn := c) (vs := vs) (fun u => (lS, listOf u.1.toArray u.2) :: (lA, listOf va.toArray 0) :: (l, listOf vs.toArray c) :: news) (fun _ => []) (fun _ => True) ["place"] (fun i u => StrsAre u.1 ((ns.take i).map sgn)) ([], 0) rfl (fun _ => List.mem_cons_of_mem _ (List.mem_cons_of_mem _ (List.mem_cons_self ..))) lF' lN' trivial (fun _ h => nomatch h) ?hp0 ?turn ?done
  case hp0 => exact .nil
  case turn =>
    intro u i v t kU h tk own hv hlt hoff hfacts hP F' N'
    clear lF' lN'
    obtain ⟨us, cp⟩ := u
    have hlt' : i < ns.length := by rw [← hi.length]; exact hlt
    have hx := hi.get i ns[i] (by simp [hlt'])
    obtain ⟨t', hx⟩ := hx
    rw [hv] at hx
    cases hx
    have hb' := hb _ (List.getElem_mem hlt')
    have hm0 : 0 ≤ Int.fmod (i : Int) 10 := Int.fmod_nonneg_of_pos _ (by omega)
    have hm1 : Int.fmod (i : Int) 10 < 10 := Int.fmod_lt_of_pos _ (by omega)
    have hu := strs_len hP
    dsimp only at hP N' hu
    rw [List.length_map, List.length_take] at hu
    have hu2 : us.toArray.size ≤ 12 := by rw [List.size_toArray]; omega
    have hall : ∀ p ∈ ((lA, listOf va.toArray 0) :: (l, listOf vs.toArray c) :: news) ++ own, p.1 ≠ lS := by
      intro p hp
      rcases List.mem_append.mp hp with hp | hp
      · exact hap p hp
      · exact hoff p hp lS (List.mem_cons_self ..)
    k_steps
    · refine' append_K F' N' (Upd.head hall) ?_ (Nat.le_trans hu2 (by decide))
      intro h' F2 N2
      clear F' N'
      k_steps
      exact dress_next F2 N2 hP hlt' (if_pos (by assumption)).symm (by intro z h1 h2; simp [kstB, h1, h2])
    · have hb3 := b3_use (i := i) (f := ns[i]) (by omega) (by omega)
      obtain ⟨hA0, hA1, hb3⟩ := hb3
      refine' chr_of_range (by omega) (by omega) ?_
      k_steps
      refine' map_ok w _ _ _ _ hb3 _ _ _ _ _ _ _ _ _ _ _ _ _ _ _ _ _ _ _ _ ?k1 F' ?k3 N' ?k5 ?k6 ?k7 ?k8 ?_
      case k1 => assumption
      case k3 => assumption
      case k5 => assumption
      case k6 => first | assumption | rfl
      case k7 => dsimp only [ktrTop, Around.deeper]; omega
      case k8 => dsimp only [ktrTop, Around.deeper]; omega
      · intro t2 h2 tk2 F2 N2
        clear F' N'
        k_steps
        refine' append_K F2 N2 (Upd.head hall) ?_ (Nat.le_trans hu2 (by decide))
        intro h' F3 N3
        clear F2 N2
        k_steps
        exact dress_next F3 N3 hP hlt' (if_neg (by assumption)).symm (by intro z h1 h2; simp [kstB, h1, h2])
  case done =>
    intro u kU h tk hfacts hP F' N'
    clear lF' lN'
    obtain ⟨us, cp⟩ := u
    k_steps
    rw [List.take_of_length_le (by rw [hi.length]; exact Nat.le_refl _)] at hP
    exact hret lS us cp _ _ hP hap2 (by assumption) (news_drop (by assumption))
end Mine
end
section
open PySem PySem.W PySem.Calls PyProof.Rows
set_option maxRecDepth 100000
namespace Mine
local macro_rules | `(tactic| walk_at "execs cons") => `(tactic| (k_here; refine gen_tok ?_; intro tkk; (with_reducible refine wpAny_execs_cons ?_); (try dsimp only)))
local macro_rules | `(tactic| walk_at "execs nil") => `(tactic| (k_here; refine gen_tok ?_; intro tkk; (with_reducible refine wpAny_execs_nil ?_); (try dsimp only)))
abbrev RetN (news : List (Addr × Obj)) (P : List Int → Prop) (h₀ _h : Heap) (L : Addr) (m : PySem.Str → Option Value) (s : Shared) (Q : Value → Shared → Prop) : Prop :=
  ∀ (l' : Addr) (us : List Value) (xs : List Int) (c' : Nat) (h' : Heap) (tk' : Nat), IntsAre us xs → P xs → (∀ p ∈ news, p.1 < l') → Fr h₀ L h' m → News h₀ L h' ((l', listOf us.toArray c') :: news) → Q (.ref l') { s with heap := h', toks := tk' }
def dealtA (ns : List Int) : List Int := [(ns.map fun k => (List.count k ns : Int)).sum, (ns.map fun k => (List.count (15 - k) ns : Int)).sum, (ns.length : Int) ^ Int.toNat 2 - (ns.map fun k => (List.count k ns : Int)).sum - (ns.map fun k => (List.count (15 - k) ns : Int)).sum]
theorem lt_four {a b c l l' : Addr} {o : Obj} {news : List (Addr × Obj)} (h : a < l' ∧ b < l' ∧ c < l' ∧ l < l' ∧ AllLt l' news) : ∀ p ∈ ((l, o) :: news), p.1 < l' := by
  intro p hp
  rcases List.mem_cons.mp hp with rfl | hp
  · exact h.2.2.2.1
  · exact allLt_all h.2.2.2.2 p hp
theorem ints3 {x y z : Int} {t u v : Tok} : IntsAre [.int x t, .int y u, .int z v] [x, y, z] := .cons _ _ (.cons _ _ (.cons _ _ .nil))
set_option maxHeartbeats 8000000 in
theorem dealt_ok (w : World) (news : List (Addr × Obj)) (l : Addr) (vs : List Value) (ns : List Int) (c : Nat) (hi : IntsAre vs ns) (hb : ∀ n ∈ ns, 0 ≤ n ∧ n < 16) (hn : ns.length ≤ 12) :
    Claim2 w 112 ((l, listOf vs.toArray c) :: news) [.ref l] (RetN ((l, listOf vs.toArray c) :: news) (fun xs => xs = dealtA ns)) := by
  dsimp only [Claim2, RetN, KK, PR, TopM]; k_fill
  intros
  rename_i hret
  refine wpAny_call ?_
  k_dflt (refine' code_defC ?k1 ?k2 ?k3 ?k4 ?k5 ?kA ?kF ?kK ?k6 ?k7 ?k8 ?k9 ?kB ?kD ?_ ?c2 ?c3 ?c4; (case kA => exact rfl); (case kF => exact rfl); (case kK => assumption); (case k1 => k_asm); (case k2 => k_asm); (case k3 => k_asm); (case k4 => k_asm); (case k5 => k_asm); (case k6 => k_is); (case k7 => k_is); (case k8 => ktr_room); (case k9 => exact BindsTo.of_eq rfl); (case kB => exact rfl); (case kD => decide +kernel); (case c2 => exact rfl); (case c3 => exact rfl); (case c4 => exact rfl); k_whole; intro g' L' h' tk' cells' FG' F' N' Y' B' X' T' l1; (try k_lt l1); k_cells Y'; (try simp only [List.cons_append, List.nil_append] at N'); (try dsimp only); (try k_lift B'); (try k_fold))
  k_steps
  rename News _ _ _ (_ :: _ :: _ :: _ :: _ :: _) => kN
  exact hret _ _ _ _ _ _ ints3 rfl (lt_four (by assumption)) (by assumption) (news_drop (news_drop (news_drop kN)))
end Mine
end
section
open PySem PySem.W PySem.Calls PyProof.Rows PyProof.Rows.LCg
set_option maxRecDepth 100000
namespace Mine
section
variable {prog : Program} {w : World} {A : Around} {E : Value → Shared → Prop} {s : Shared} {env : Env} {h₀ : Heap} {L : Addr} {m : PySem.Str → Option Value}
/-- the end of an element's reckoning in a comprehension over enumerate -/
structure CeEnd (h₀ : Heap) (L : Addr) (m : PySem.Str → Option Value) (s₁ : Shared) (C : Addr) (oC : Obj) (D : Addr) (oD : Obj) (nw own : List (Addr × Obj)) (rest : Value → List (Addr × Obj) → Prop) (y : Value) (s₂ : Shared) : Prop where
  out : ∃ h' tk nw', s₂ = { s₁ with heap := h', toks := tk } ∧ Fr h₀ L h' m ∧ News h₀ L h' ((C, oC) :: (D, oD) :: nw' ++ own) ∧ (∀ p ∈ nw', p ∈ nw ∨ ∀ q ∈ (C, oC) :: (D, oD) :: own, q.1 < p.1) ∧ rest y nw'
abbrev CeTurn (prog : Program) (w : World) (A : Around) (h₀ : Heap) (L : Addr) (m : PySem.Str → Option Value) (env : Env) (elt : Expr) (x x₂ : PySem.Str) (scope : Scope) (cl : List (PySem.Str × Addr)) (vs : List Value) (J : Nat → List Value → List (Addr × Obj) → Prop) (s : Shared) : Prop :=
  ∀ (i : Nat) v t ys nw C oC D m₂ h tk own (E' : Value → Shared → Prop), vs[i]? = some v → i < vs.length → J i ys nw → NsObj oC m₂ → m₂ x = some (.int (i : Int) t) → m₂ x₂ = some v → Fr h₀ L h m → News h₀ L h ((C, oC) :: (D, lst ys) :: nw ++ own) →
    wpAny (model prog w) A (eval elt (compEnvC scope cl C env)) (CeEnd h₀ L m { s with heap := h, toks := tk } C oC D (lst ys) nw own (fun y nw' => J (i + 1) (ys ++ [y]) nw')) E' { s with heap := h, toks := tk }
theorem block_E {elt iter : Expr} {x x₂ : PySem.Str} {px px₂ tp : Pos} {tk} {scope : Scope} {cl : List (PySem.Str × Addr)} {pos : Pos} {s₂ : Shared} {e it l : Addr} {vs : List Value} {nn : Nat} {news : List (Addr × Obj)} (J : Nat → List Value → List (Addr × Obj) → Prop)
    {RR : Value → Addr → Result → Shared → Prop} (hei : e ≠ it) (hle : l ≠ e) (hli : l ≠ it) (hsz : vs.length ≤ sizeLine)
    (hcell : ∀ y ∈ scope.names, y.2 ≠ .cell) (hkind : scope.kind = .function) (hx : scope.names.lookup x = some .local) (hx₂ : scope.names.lookup x₂ = some .local) (hxx : x ≠ x₂) (hh : A.handled = none)
    (he : IsEnum s₂.heap e it 0 .none) (hit : s₂.heap.IsListIter it l 0) (hl : s₂.heap.IsList l vs.toArray)
    (F : Fr h₀ L s₂.heap m) (N : News h₀ L s₂.heap news) (hLe : L ≠ e) (hLi : L ≠ it) (he₀ : h₀.get? e = none) (hi₀ : h₀.get? it = none) (off : ∀ p ∈ news, p.1 ≠ e ∧ p.1 ≠ it)
    (hJl : ∀ i ys nw, J i ys nw → (l, listOf vs.toArray nn) ∈ nw) (hJ : J 0 [] news)
    (turn : CeTurn prog w A h₀ L m env elt x x₂ scope cl vs J s₂)
    (hRR : ∀ D C h tk m' ys nw, Fr h₀ L h m → News h₀ L h ((D, lst ys) :: nw) → h.Ns C m' → h₀.get? C = none → C ≠ L → C ≠ D → (∀ p ∈ nw, p.1 ≠ C ∧ p.1 ≠ D) → J vs.length ys nw → RR (.ref D) C (.ok .next) { s₂ with heap := h, toks := tk }) :
    wpAny (model prog w) A (newList []) (fun acc s₃ => wpAny (model prog w) A (newFunctionEnv scope env.globals cl [] env.qual none .none (some env)) (fun cenv s₄ =>
      codeAny (model prog w) A (.compStart (.ListComp elt [⟨.Tuple [.Name x px, .Name x₂ px₂] tk tp, iter, [], 0⟩] scope pos) 0 (.ref e) acc { cenv with scope := relabel scope env }) (RR acc cenv.locals) s₄) E s₃) E s₂ := by
  have W := WalksT.enumerate (prog := prog) (w := w) hh e it l hei hle hli vs.toArray
  refine wpAny_newObj_type (wpAny_newFunctionEnv hcell (by intro y hy; simp at hy) (fun h₁ hns₁ hsb₁ => ?_) hkind)
  dsimp only at hns₁ hsb₁ ⊢
  generalize hH2 : s₂.heap.push { cls := .type "list", dict := none, data := .seq ([] : List Value).toArray } = H2 at hns₁ hsb₁ ⊢
  have hC : H2.objs.size = s₂.heap.objs.size + 1 := by rw [← hH2, Heap.size_push]
  have hDC : s₂.heap.objs.size ≠ H2.objs.size := by rw [hC]; exact Nat.ne_of_lt (Nat.lt_succ_self _)
  have below : ∀ b, b < s₂.heap.objs.size → b ≠ H2.objs.size ∧ b ≠ s₂.heap.objs.size := fun b hb => ⟨by rw [hC]; exact Nat.ne_of_lt (Nat.lt_succ_of_lt hb), Nat.ne_of_lt hb⟩
  have helt : e < s₂.heap.objs.size := Heap.lt_size he
  have hilt : it < s₂.heap.objs.size := by obtain ⟨_, q, _⟩ := hit; exact Heap.lt_size q
  have hllt : l < s₂.heap.objs.size := by obtain ⟨_, q, _⟩ := hl; exact Heap.lt_size q
  have old : ∀ b o, s₂.heap.get? b = some o → h₁.get? b = some o := fun b o q => hsb₁.extBut b o (below b (Heap.lt_size q)).1 (Heap.get?_push_of_some _ (hH2 ▸ Heap.get?_push_of_some _ q))
  have hacc : h₁.get? s₂.heap.objs.size = some (lst []) := hsb₁.extBut _ _ hDC (Heap.get?_push_of_some _ (hH2 ▸ Heap.get?_push_size _ rfl))
  have hst₁ := W.frame 0 _ _ ⟨⟨_, he⟩, hit, hl⟩ fun b _ o q => old b o q
  have fresh₀ : ∀ a, s₂.heap.objs.size ≤ a → h₀.get? a = none := fun a ha => Heap.get?_none_of_le (Nat.le_trans F.above (Nat.le_trans (Nat.le_of_lt F.ns.lt) ha))
  have hD₀ : h₀.get? s₂.heap.objs.size = none := fresh₀ _ (Nat.le_refl _)
  have hC₀ : h₀.get? H2.objs.size = none := fresh₀ _ (by rw [hC]; exact Nat.le_succ _)
  have hLlt : L < s₂.heap.objs.size := F.ns.lt
  have hDL : s₂.heap.objs.size ≠ L := Ne.symm (below L hLlt).2
  have hCL : H2.objs.size ≠ L := Ne.symm (below L hLlt).1
  have hwr : ∀ b, b ≠ e → b ≠ it → b ∉ [e, it] := by intro b h1 h2 hm; simp only [List.mem_cons, List.not_mem_nil, or_false] at hm; rcases hm with h | h; exact h1 h; exact h2 h
  have hfp : ∀ b ∈ [e, it, l], b = e ∨ b = it ∨ b = l := by intro b hm; simpa only [List.mem_cons, List.not_mem_nil, or_false] using hm
  have off₀ : ∀ p ∈ news, p.1 ≠ e ∧ p.1 ≠ it ∧ p.1 ≠ H2.objs.size ∧ p.1 ≠ s₂.heap.objs.size := fun p hp => ⟨(off p hp).1, (off p hp).2, (below _ (Heap.lt_size (N p hp).1)).1, (below _ (Heap.lt_size (N p hp).1)).2⟩
  have keepF : ∀ {h h' : Heap}, Fr h₀ L h m → (∀ b o, b ∉ [e, it] → h.get? b = some o → h'.get? b = some o) → Fr h₀ L h' m := fun {h h'} F hk =>
    ⟨F.ns.at' fun o q => hk L o (hwr L hLe hLi) q, fun b o q => hk b o (hwr b (fun z => by rw [z, he₀] at q; cases q) (fun z => by rw [z, hi₀] at q; cases q)) (F.keep b o q), F.above⟩
  have loop : ∀ s₃ : Shared, s₃ = { s₂ with heap := h₁, toks := s₂.toks + ([] : List (PySem.Str × Value)).length } →
      codeAny (model prog w) A (.compLoop (.ListComp elt [⟨.Tuple [.Name x px, .Name x₂ px₂] tk tp, iter, [], 0⟩] scope pos) 0 (.ref e) (.ref s₂.heap.objs.size) (compEnvC scope cl H2.objs.size env))
        (RR (.ref s₂.heap.objs.size) H2.objs.size) s₃ := by
    rintro s₃ rfl
    refine LCp.codeAny_compLoop_pair
      (fun k s' => ∃ h' tk i ys m' nw, s' = { s₂ with heap := h', toks := tk } ∧ i ≤ vs.length ∧ k = vs.length + 1 - i ∧ ys.length = i ∧ ((∃ old, IsEnum h' e it i old) ∧ h'.IsListIter it l i ∧ h'.IsList l vs.toArray) ∧ Fr h₀ L h' m ∧ h'.Ns H2.objs.size m' ∧ News h₀ L h' ((s₂.heap.objs.size, lst ys) :: nw) ∧
        (∀ p ∈ nw, p.1 ≠ e ∧ p.1 ≠ it ∧ p.1 ≠ H2.objs.size ∧ p.1 ≠ s₂.heap.objs.size) ∧ J i ys nw) ?_ (vs.length + 1)
      ⟨h₁, _, 0, [], _, news, rfl, Nat.zero_le _, rfl, rfl, hst₁, F.keeps old, hns₁, fun p hp => ?_, off₀, hJ⟩
    · rintro k s' ⟨h', tk₁, i, ys, m', nw, rfl, hi, rfl, hyl, hst', F', hn', N', off', hJ'⟩
      by_cases hlt : i < vs.length
      · refine W.item i _ _ _ (by rw [List.size_toArray]; exact hlt) hst' fun T vals h₂ tk₂ hPv _ hT hMid hk₂ => ?_
        obtain ⟨t, v, hv, rfl⟩ := hPv
        have hv' : vs[i]? = some v := by simpa using hv
        refine W.go _ tk tp i T _ _ _ hMid fun h₃ hst₃ hk₃ => ?_
        have ht₃ : h₃.IsTuple T #[.int (i : Int) t, v] := hT.at fun o q => hk₃ T o (W.apart i T h₂ hMid) q
        refine wpAny_assign_Tuple hh ht₃ rfl rfl fun h₄ hx₄ => ?_
        replace hx₄ : Heap.ExtBut h₃.objs.size h₃ h₄ := hx₄
        have up₄ : ∀ b o, h₃.get? b = some o → h₄.get? b = some o := fun b o q => hx₄ b o (Nat.ne_of_lt (Heap.lt_size q)) q
        have all₄ : ∀ b o, b ∉ [e, it] → h'.get? b = some o → h₄.get? b = some o := fun b o hb q => up₄ b o (hk₃ b o hb (hk₂ b o hb q))
        have hCw : H2.objs.size ∉ [e, it] := hwr _ (Ne.symm (below e helt).1) (Ne.symm (below it hilt).1)
        have hDw : s₂.heap.objs.size ∉ [e, it] := hwr _ (Ne.symm (below e helt).2) (Ne.symm (below it hilt).2)
        have hn₄ : h₄.Ns H2.objs.size m' := hn'.at' fun o q => all₄ _ o hCw q
        show wpAny _ A (do holding [v] (assign (.Name x px) (compEnvC scope cl H2.objs.size env) (.int (i : Int) t)); do holding [] (assign (.Name x₂ px₂) (compEnvC scope cl H2.objs.size env) v); pure ()) _ _ _
        refine wpAny_bind (wpAny_holding (wpAny_assign_Name (wpAny_storeName_local (lookup_relabel_local hx) hn₄ (fun h₅ hn₅ hs₅ => ?_) (by simp [compEnvC, relabel, hkind]))))
        refine wpAny_bind (wpAny_holding (wpAny_assign_Name (wpAny_storeName_local (lookup_relabel_local hx₂) hn₅ (fun h₆ hn₆ hs₆ => wpAny_pure ?_) (by simp [compEnvC, relabel, hkind]))))
        replace hs₅ : Heap.SameBut H2.objs.size h₄ h₅ := hs₅
        replace hs₆ : Heap.SameBut H2.objs.size h₅ h₆ := hs₆
        have up₆ : ∀ b o, b ≠ H2.objs.size → h₄.get? b = some o → h₆.get? b = some o := fun b o hb q => hs₆.extBut b o hb (hs₅.extBut b o hb q)
        have all₆ : ∀ b o, b ∉ [e, it] → b ≠ H2.objs.size → h'.get? b = some o → h₆.get? b = some o := fun b o hb hc q => up₆ b o hc (all₄ b o hb q)
        have hst₆ := W.frame (i + 1) h₃ h₆ hst₃ fun b hb o q => up₆ b o (by
          rcases hfp b hb with rfl | rfl | rfl
          · exact (below _ helt).1
          · exact (below _ hilt).1
          · exact (below _ hllt).1) (up₄ b o q)
        obtain ⟨⟨old₆, he₆⟩, ⟨oi, hi₆, hi₆'⟩, hl₆⟩ := hst₆
        obtain ⟨oC, heC, hoC⟩ := ns_obj hn₆
        have F₆ : Fr h₀ L h₆ m := ((keepF F' all₄).change hs₅ hCL hC₀).change hs₆ hCL hC₀
        have N₆ : News h₀ L h₆ ((H2.objs.size, oC) :: (s₂.heap.objs.size, lst ys) :: nw ++ [(e, _), (it, oi)]) := fun p hp => by
          rcases List.mem_append.mp hp with hp | hp
          · rcases List.mem_cons.mp hp with rfl | hp
            · exact ⟨heC, hCL, hC₀⟩
            · have z := N' p hp
              refine ⟨all₆ _ _ ?_ ?_ z.1, z.2⟩
              · rcases List.mem_cons.mp hp with rfl | hp
                · exact hDw
                · exact hwr _ (off' p hp).1 (off' p hp).2.1
              · rcases List.mem_cons.mp hp with rfl | hp
                · exact hDC
                · exact (off' p hp).2.2.1
          · rcases List.mem_cons.mp hp with rfl | hp
            · exact ⟨he₆, Ne.symm hLe, he₀⟩
            · rw [List.mem_singleton.mp hp]; exact ⟨hi₆, Ne.symm hLi, hi₀⟩
        refine wpAny_mono (turn i v t ys nw H2.objs.size oC s₂.heap.objs.size _ h₆ _ _ _ hv' hlt hJ' hoC (by simp [hxx]) (by simp) F₆ N₆) (fun y s₄ h₄ => ?_) fun _ _ q => q
        obtain ⟨h₇, tk₇, nw₇, rfl, F₇, N₇, sub₇, J₇⟩ := h₄.out
        have zC := (N₇ (H2.objs.size, oC) List.mem_cons_self).1
        have zD := (N₇ (s₂.heap.objs.size, lst ys) (List.mem_cons_of_mem _ List.mem_cons_self)).1
        have ze := (N₇ (e, _) (List.mem_append_right _ List.mem_cons_self)).1
        have zi := (N₇ (it, oi) (List.mem_append_right _ (List.mem_cons_of_mem _ List.mem_cons_self))).1
        have N₇' : News h₀ L h₇ nw₇ := fun p hp => N₇ p (List.mem_append_left _ (List.mem_cons_of_mem _ (List.mem_cons_of_mem _ hp)))
        have off₇ : ∀ p ∈ nw₇, p.1 ≠ e ∧ p.1 ≠ it ∧ p.1 ≠ H2.objs.size ∧ p.1 ≠ s₂.heap.objs.size := fun p hp => by
          rcases sub₇ p hp with q | q
          · exact off' p q
          · exact ⟨Ne.symm (Nat.ne_of_lt (q _ (List.mem_cons_of_mem _ (List.mem_cons_of_mem _ List.mem_cons_self)))), Ne.symm (Nat.ne_of_lt (q _ (List.mem_cons_of_mem _ (List.mem_cons_of_mem _ (List.mem_cons_of_mem _ List.mem_cons_self))))), Ne.symm (Nat.ne_of_lt (q _ List.mem_cons_self)), Ne.symm (Nat.ne_of_lt (q _ (List.mem_cons_of_mem _ List.mem_cons_self)))⟩
        have zl := (N₇' _ (hJl _ _ _ J₇)).1
        refine append_at (hsz := by show ys.toArray.size ≤ sizeLine; rw [List.size_toArray, hyl]; exact Nat.le_trans hi hsz) zD fun h₈ hs₈ hD₈ => ?_
        have ne8 : ∀ b ∈ [e, it, l], b ≠ s₂.heap.objs.size := fun b hb => by
          rcases hfp b hb with rfl | rfl | rfl
          · exact (below _ helt).2
          · exact (below _ hilt).2
          · exact (below _ hllt).2
        have hst₈ := W.frame (i + 1) h₇ h₈ ⟨⟨_, ze⟩, ⟨oi, zi, hi₆'⟩, ⟨_, zl, rfl, _, rfl⟩⟩ fun b hb o q => hs₈.extBut b o (ne8 b hb) q
        refine ⟨vs.length + 1 - (i + 1), by omega, h₈, tk₇, i + 1, ys ++ [y], _, nw₇, rfl, hlt, rfl, by rw [List.length_append, List.length_singleton, hyl], hst₈, F₇.change hs₈ hDL hD₀,
          (hoC.ns zC).sameBut hs₈ (Ne.symm hDC), fun p hp => ?_, off₇, J₇⟩
        rcases List.mem_cons.mp hp with rfl | hp
        · exact ⟨hD₈.trans (congrArg some (lst_snoc ys y)), hDL, hD₀⟩
        · exact ⟨hs₈.extBut _ _ (off₇ p hp).2.2.2 (N₇' p hp).1, (N₇' p hp).2⟩
      · obtain rfl : i = vs.length := Nat.le_antisymm hi (Nat.not_lt.mp hlt)
        refine W.done _ _ _ (by rw [List.size_toArray]; exact hst') fun h₂ tk₂ hk₂ => ?_
        have hCw : H2.objs.size ∉ [e, it] := hwr _ (Ne.symm (below e helt).1) (Ne.symm (below it hilt).1)
        have hDw : s₂.heap.objs.size ∉ [e, it] := hwr _ (Ne.symm (below e helt).2) (Ne.symm (below it hilt).2)
        exact hRR _ _ h₂ tk₂ _ ys nw (keepF F' hk₂) (fun p hp => ⟨hk₂ _ _ (by
          rcases List.mem_cons.mp hp with rfl | hp
          · exact hDw
          · exact hwr _ (off' p hp).1 (off' p hp).2.1) (N' p hp).1, (N' p hp).2⟩) (hn'.at' fun o q => hk₂ _ o hCw q) hC₀ hCL (Ne.symm hDC) (fun p hp => (off' p hp).2.2) hJ'
    · rcases List.mem_cons.mp hp with rfl | hp
      · exact ⟨hacc, hDL, hD₀⟩
      · exact ⟨old _ _ (N p hp).1, (N p hp).2⟩
  exact codeAny_compStart_list (loop _ rfl) (W.self 0 _ _ _ hst₁ (loop _ rfl))
end
end Mine
end
section
open PySem PySem.W PySem.Calls PyProof.Rows PyProof.Rows.LCg
set_option maxRecDepth 100000
namespace Mine
section
variable {prog : Program} {w : World} {A : Around} {E : Value → Shared → Prop} {s : Shared} {env : Env} {h₀ : Heap} {L : Addr} {m : PySem.Str → Option Value}
theorem off1_of {D : Addr} : ∀ {l : List (Addr × Obj)}, (∀ p ∈ l, p.1 ≠ D) → Off1 D l
  | [], _ => trivial
  | _ :: _, h => ⟨h _ List.mem_cons_self, off1_of fun p hp => h p (List.mem_cons_of_mem _ hp)⟩
/-- what enumerate hands to a comprehension -/
structure EnSrc (prog : Program) (w : World) (A : Around) (h₀ : Heap) (L : Addr) (m : PySem.Str → Option Value) (env : Env) (elt : Expr) (x x₂ : PySem.Str) (scope : Scope) (cl : List (PySem.Str × Addr)) (Fin : Shared → List Value → List (Addr × Obj) → Prop) (xv : Value) (s₁ : Shared) : Prop where
  out : ∃ (e it l : Addr) (vs : List Value) (nn : Nat) (news : List (Addr × Obj)) (J : Nat → List Value → List (Addr × Obj) → Prop), xv = .ref e ∧ e ≠ it ∧ l ≠ e ∧ l ≠ it ∧ vs.length ≤ sizeLine ∧ A.handled = none ∧ IsEnum s₁.heap e it 0 .none ∧ s₁.heap.IsListIter it l 0 ∧ s₁.heap.IsList l vs.toArray ∧
    Fr h₀ L s₁.heap m ∧ News h₀ L s₁.heap news ∧ L ≠ e ∧ L ≠ it ∧ h₀.get? e = none ∧ h₀.get? it = none ∧ (∀ p ∈ news, p.1 ≠ e ∧ p.1 ≠ it) ∧ (∀ i ys nw, J i ys nw → (l, listOf vs.toArray nn) ∈ nw) ∧ J 0 [] news ∧
    CeTurn prog w A h₀ L m env elt x x₂ scope cl vs J s₁ ∧ ∀ ys nw, J vs.length ys nw → Fin s₁ ys nw
theorem ListComp_En {elt iter : Expr} {x x₂ : PySem.Str} {px px₂ tp : Pos} {tk} {scope : Scope} {cl : List (PySem.Str × Addr)} {pos : Pos} {Q : Value → Shared → Prop}
    (hclos : closureFor scope env = pure cl) (hcell : ∀ y ∈ scope.names, y.2 ≠ .cell) (hkind : scope.kind = .function)
    (hnames : ∀ y ∈ scope.names, y.2 = .local → scope.names.lookup y.1 = some .local) (hx : scope.names.lookup x = some .local) (hx₂ : scope.names.lookup x₂ = some .local) (hxx : x ≠ x₂)
    (h : wpAny (model prog w) A (eval iter env) (EnSrc prog w A h₀ L m env elt x x₂ scope cl fun s₂ => FinE h₀ L m s₂ Q) E s)
    (hs : ∀ x, foldedSetIterable iter env x = pure x := by intro _; rfl) :
    wpAny (model prog w) A (eval (.ListComp elt [⟨.Tuple [.Name x px, .Name x₂ px₂] tk tp, iter, [], 0⟩] scope pos) env) Q E s := by
  rw [eval_ListComp]
  refine wpAny_comprehension_free (use := none) rfl hs hclos hkind hnames (wpAny_mono h (fun xv s₁ h₁ => ?_) fun _ _ e => e)
  obtain ⟨e, it, l, vs, nn, news, J, rfl, hei, hle, hli, hsz, hh, he, hit, hl, F, N, hLe, hLi, he₀, hi₀, off, hJl, hJ, turn, fin⟩ := h₁.out
  refine wpAny_pyIter_enum he ?_
  refine block_E J hei hle hli hsz hcell hkind hx hx₂ hxx hh he hit hl F N hLe hLi he₀ hi₀ off hJl hJ turn ?_
  intro D C h tk m' ys nw F' N' hn hC₀ hCL hCD offs hJ'
  refine ⟨m', hn, fun h'' hs'' => fin ys nw hJ' D h'' tk (F'.change hs'' hCL hC₀) (fun p hp => ?_) (off1_of fun p hp => (offs p hp).2)⟩
  refine ⟨hs''.extBut _ _ ?_ (N' p hp).1, (N' p hp).2⟩
  rcases List.mem_cons.mp hp with rfl | hp
  · exact Ne.symm hCD
  · exact (offs p hp).1
theorem Assign_ListComp_En {elt iter : Expr} {x x₂ y : PySem.Str} {px px₂ tp py : Pos} {tk} {scope : Scope} {cl : List (PySem.Str × Addr)} {pos spos : Pos} {Q : Flow → Shared → Prop} (_F₀ : Fr h₀ L s.heap m) (hLe : env.locals = L)
    (hsw : swapsWith (.ListComp elt [⟨.Tuple [.Name x px, .Name x₂ px₂] tk tp, iter, [], 0⟩] scope pos) (some (.Name y py)) spos.line env = pure true)
    (hclos : closureFor scope env = pure cl) (hcell : ∀ z ∈ scope.names, z.2 ≠ .cell) (hkind : scope.kind = .function)
    (hnames : ∀ z ∈ scope.names, z.2 = .local → scope.names.lookup z.1 = some .local) (hx : scope.names.lookup x = some .local) (hx₂ : scope.names.lookup x₂ = some .local) (hxx : x ≠ x₂)
    (hy : env.kindOf y = some .local) (hp : (env.scope.kind == .class || (env.scope.kind == .module && env.locals != env.globals)) = false)
    (h : wpAny (model prog w) A (eval iter env) (EnSrc prog w A h₀ L m env elt x x₂ scope cl fun s₂ => FinA h₀ L m s₂ y Q) E s)
    (hs : ∀ x, foldedSetIterable iter env x = pure x := by intro _; rfl) :
    wpAny (model prog w) A (exec (.Assign [.Name y py] (.ListComp elt [⟨.Tuple [.Name x px, .Name x₂ px₂] tk tp, iter, [], 0⟩] scope pos) spos) env) Q E s := by
  subst hLe
  rw [exec_Assign_Name_used _ _ _ _ hsw]
  refine wpAny_bind (wpAny_standAt (wpAny_bind ?_))
  show wpAny _ A (do let _ ← comprehension (.ListComp elt [⟨.Tuple [.Name x px, .Name x₂ px₂] tk tp, iter, [], 0⟩] scope pos) scope env _ (newList []) false (eval iter env) (some (assign (.Name y py) env))) _ _ s
  refine wpAny_bind (wpAny_mono (wpAny_comprehension_free (use := some (assign (.Name y py) env)) (Q := fun _ s' => Q .next s') rfl hs hclos hkind hnames
    (wpAny_mono h (fun xv s₁ h₁ => ?_) fun _ _ e => e)) (fun _ s' hq => wpAny_pure (wpAny_pure hq)) fun _ _ e => e)
  obtain ⟨e, it, l, vs, nn, news, J, rfl, hei, hle, hli, hsz, hh, he, hit, hl, F, N, hLe, hLi, he₀, hi₀, off, hJl, hJ, turn, fin⟩ := h₁.out
  refine wpAny_pyIter_enum he ?_
  refine block_E J hei hle hli hsz hcell hkind hx hx₂ hxx hh he hit hl F N hLe hLi he₀ hi₀ off hJl hJ turn ?_
  intro D C h tk m' ys nw F' N' hn hC₀ hCL hCD offs hJ'
  show wpAny _ A (assign (.Name y py) env (.ref D)) _ _ _
  refine wpAny_assign_Name (wpAny_storeName_local hy F'.ns (fun h₂ hn₂ hs₂ => ?_) hp)
  have hL₀ : h₀.get? env.locals = none := Heap.get?_none_of_le F'.above
  have F₂ : Fr h₀ env.locals h₂ (fun z => if z = y then some (.ref D) else m z) := ⟨hn₂, fun b o e => hs₂.extBut b o (fun q => by rw [q, hL₀] at e; cases e) (F'.keep b o e), F'.above⟩
  refine ⟨m', hn.sameBut hs₂ hCL, fun h'' hs'' => fin ys nw hJ' D h'' _ (F₂.change hs'' hCL hC₀) (fun p hp => ?_) (off1_of fun p hp => (offs p hp).2)⟩
  have z : h₂.get? p.1 = some p.2 := hs₂.extBut _ _ (N' p hp).2.1 (N' p hp).1
  refine ⟨hs''.extBut _ _ ?_ z, (N' p hp).2⟩
  rcases List.mem_cons.mp hp with rfl | hp
  · exact Ne.symm hCD
  · exact (offs p hp).1
theorem call_enSrc {elt : Expr} {x x₂ : PySem.Str} {scope : Scope} {cl : List (PySem.Str × Addr)} {Fin : Shared → List Value → List (Addr × Obj) → Prop} {l : Addr} {vs : List Value} {nn : Nat} {news : List (Addr × Obj)} (J : Nat → List Value → List (Addr × Obj) → Prop)
    (hh : A.handled = none) (hsz : vs.length ≤ sizeLine) (F : Fr h₀ L s.heap m) (N : News h₀ L s.heap news) (hJl : ∀ i ys nw, J i ys nw → (l, listOf vs.toArray nn) ∈ nw) (hJ : J 0 [] news)
    (turn : CeTurn prog w A h₀ L m env elt x x₂ scope cl vs J s) (fin : ∀ g ys nw, J vs.length ys nw → Fin { s with heap := g } ys nw) :
    wpAny (model prog w) A (call (.type "enumerate") [.ref l]) (EnSrc prog w A h₀ L m env elt x x₂ scope cl Fin) E s := by
  have hlm := N _ (hJl _ _ _ hJ)
  have hls : s.heap.IsList l vs.toArray := ⟨_, hlm.1, rfl, nn, rfl⟩
  have hlt : l < s.heap.objs.size := Heap.lt_size hlm.1
  have hLs : L < s.heap.objs.size := F.ns.lt
  refine call_enumerate_list hls fun h' he hit hsz' hkp => ?_
  have fresh : ∀ a, s.heap.objs.size ≤ a → h₀.get? a = none := fun a ha => Heap.get?_none_of_le (Nat.le_trans F.above (Nat.le_trans (Nat.le_of_lt hLs) ha))
  exact ⟨⟨_, _, l, vs, nn, news, J, rfl, Nat.succ_ne_self _, Nat.ne_of_lt (Nat.lt_succ_of_lt hlt), Nat.ne_of_lt hlt, hsz, hh, he, hit, hls.at fun o e => hkp _ _ e, F.keeps hkp, fun p hp => ⟨hkp _ _ (N p hp).1, (N p hp).2⟩, Nat.ne_of_lt (Nat.lt_succ_of_lt hLs), Nat.ne_of_lt hLs, fresh _ (Nat.le_succ _), fresh _ (Nat.le_refl _),
    fun p hp => ⟨Nat.ne_of_lt (Nat.lt_succ_of_lt (Heap.lt_size (N p hp).1)), Nat.ne_of_lt (Heap.lt_size (N p hp).1)⟩, hJl, hJ, turn, fin _⟩⟩
open LCp in
theorem restP_inv {elt : Expr} {x x₂ : PySem.Str} {scope : Scope} {cl : List (PySem.Str × Addr)} {S : List (Addr × Obj) → Prop} {P : Nat → Value → Prop} {Fin : List Value → List (Addr × Obj) → Prop} (n : Nat) (J : Nat → List Value → List (Addr × Obj) → Prop)
    (turn : ∀ i v ys nw, i < n → P i v → J i ys nw → ∃ (t : Addr) (ot : Obj) (v₁ v₂ : Value) (nt : Nat), v = .ref t ∧ (t, ot) ∈ nw ∧ ot.cls = .type "tuple" ∧ ot.data = .seq #[v₁, v₂] nt ∧
      ∀ I oI C oC D m₂ h tk (E' : Value → Shared → Prop), NsObj oC m₂ → m₂ x = some v₁ → m₂ x₂ = some v₂ → Fr h₀ L h m → News h₀ L h ((I, oI) :: (C, oC) :: (D, lst ys) :: nw) → Off3 I C D nw → ((@Ne Nat I C) ∧ (@Ne Nat I D) ∧ (@Ne Nat C D)) →
      wpAny (model prog w) A (eval elt (compEnvC scope cl C env)) (CompEnd h₀ L m { s with heap := h, toks := tk } I oI C oC D (lst ys) S (fun y nw' => J (i + 1) (ys ++ [y]) nw')) E' { s with heap := h, toks := tk })
    (fin : ∀ ys nw, J n ys nw → Fin ys nw) : ∀ k i ys nw, i + k = n → J i ys nw → CompRestP prog w A h₀ L m env elt x x₂ scope cl s S P Fin k i ys nw := by
  intro k
  induction k with
  | zero =>
    intro i ys nw hk hJ
    obtain rfl : i = n := hk
    exact CompRestP.zero (fin ys nw hJ)
  | succ k ih =>
    intro i ys nw hk hJ
    refine CompRestP.succ fun v hv => ?_
    obtain ⟨t, ot, v₁, v₂, nt, e, hm, hc, hd, R⟩ := turn i v ys nw (by omega) hv hJ
    refine ⟨t, ot, v₁, v₂, nt, e, hm, hc, hd, fun I oI C oC D m₂ h tk E' h1 h2 h3 F N o3 ne => ?_⟩
    refine wpAny_mono (R I oI C oC D m₂ h tk E' h1 h2 h3 F N o3 ne) (fun y s₂ h₂ => ?_) fun _ _ q => q
    obtain ⟨h', tk', news', e', F', N', o', hS, hJ'⟩ := h₂
    exact ⟨h', tk', news', e', F', N', o', hS, ih _ _ _ (by omega) hJ'⟩
end
end Mine
end
section
open PySem PySem.W PySem.Calls PyProof.Rows
set_option maxRecDepth 100000
namespace Mine
local macro_rules | `(tactic| walk_at "execs cons") => `(tactic| (k_here; refine gen_tok ?_; intro tkk; (with_reducible refine wpAny_execs_cons ?_); (try dsimp only)))
local macro_rules | `(tactic| walk_at "execs nil") => `(tactic| (k_here; refine gen_tok ?_; intro tkk; (with_reducible refine wpAny_execs_nil ?_); (try dsimp only)))
/-- the pairs made so far -/
structure PJ (base : List (Addr × Obj)) (ss : List PySem.Str) (k i : Nat) (ys : List Value) (nw : List (Addr × Obj)) : Prop where
  sub : ∀ p ∈ base, p ∈ nw
  len : ys.length = i
  at' : ∀ j, j < i → ∃ T o nt ta tb, ys[j]? = some (.ref T) ∧ (T, o) ∈ nw ∧ o.cls = .type "tuple" ∧ o.data = .seq #[.str (ss.getD j Str.empty) ta, .str (ss.getD ((j + k) % ss.length) Str.empty) tb] nt
theorem pj_next {base nw nw' : List (Addr × Obj)} {ss : List PySem.Str} {k i : Nat} {ys : List Value} (J : PJ base ss k i ys nw) {T : Addr} {o : Obj} {nt : Nat} {ta tb : Tok} (hs : ∀ p ∈ nw, p ∈ nw') (hT : (T, o) ∈ nw') (hc : o.cls = .type "tuple") (hd : o.data = .seq #[.str (ss.getD i Str.empty) ta, .str (ss.getD ((i + k) % ss.length) Str.empty) tb] nt) :
    PJ base ss k (i + 1) (ys ++ [.ref T]) nw' where
  sub := fun p hp => hs p (J.sub p hp)
  len := by rw [List.length_append, J.len]; rfl
  at' := by
    intro j hj
    by_cases h : j < i
    · obtain ⟨T', o', nt', ta', tb', h1, h2, h3, h4⟩ := J.at' j h
      exact ⟨T', o', nt', ta', tb', by rw [List.getElem?_append_left (by rw [J.len]; exact h)]; exact h1, hs _ h2, h3, h4⟩
    · obtain rfl : j = i := by omega
      exact ⟨T, o, nt, ta, tb, by rw [List.getElem?_append_right (by rw [J.len]; exact Nat.le_refl _), J.len, Nat.sub_self]; rfl, hT, hc, hd⟩
theorem news_with2 {h₀ h : Heap} {L : Addr} {a : Addr × Obj} {base nw : List (Addr × Obj)} (sub : ∀ p ∈ base, p ∈ nw) (N : News h₀ L h (a :: nw)) : News h₀ L h (a :: base ++ nw) := by
  intro p hp
  refine N p ?_
  rcases List.mem_append.mp hp with hp | hp
  · rcases List.mem_cons.mp hp with rfl | hp
    · exact List.mem_cons_self ..
    · exact List.mem_cons_of_mem _ (sub p hp)
  · exact List.mem_cons_of_mem _ hp
/-- the text of the price at place j -/
def priceS (ss : List PySem.Str) (k j : Nat) : PySem.Str := Str.ofString (toString (priceOf (ss.getD j Str.empty) (ss.getD ((j + k) % ss.length) Str.empty)))
theorem price_le (x y : PySem.Str) : 0 ≤ priceOf x y ∧ priceOf x y ≤ 2 := by
  unfold priceOf
  split
  · decide
  · split <;> decide
theorem price_txt (x y : PySem.Str) : (Str.ofString (toString (priceOf x y))).length = 1 := by
  unfold priceOf
  split
  · decide
  · split <;> decide
theorem priceS_sum (ss : List PySem.Str) (k : Nat) (js : List Nat) : ((js.map (priceS ss k)).map (·.length)).sum ≤ js.length := by
  induction js with
  | nil => exact Nat.le_refl _
  | cons j r ih =>
    have h1 : (priceS ss k j).length = 1 := price_txt _ _
    rw [List.map_cons, List.map_cons, List.sum_cons, List.length_cons, h1]
    omega
theorem ret_s {h₀ h' : Heap} {L : Addr} {m : PySem.Str → Option Value} {news : List (Addr × Obj)} {s : Shared} {Q : Value → Shared → Prop} {t : Tok} {tk' : Nat} {x y : PySem.Str} (hret : RetS news x h₀ s.heap L m s Q) (e : y = x) (F : Fr h₀ L h' m) (N : News h₀ L h' news) : Q (.str y t) { s with heap := h', toks := tk' } := by
  subst e
  exact hret t h' tk' F N
theorem news_keep {h₀ h : Heap} {L : Addr} {a b c d : Addr × Obj} {r nw : List (Addr × Obj)} (N : News h₀ L h (a :: (b :: c :: d :: r ++ nw))) : News h₀ L h r := fun p hp =>
  N p (List.mem_cons_of_mem _ (List.mem_append_left _ (List.mem_cons_of_mem _ (List.mem_cons_of_mem _ (List.mem_cons_of_mem _ hp)))))
theorem ce_close {h₀ h' : Heap} {L C D T : Addr} {m : PySem.Str → Option Value} {s₁ : Shared} {oC oD o : Obj} {base nw own : List (Addr × Obj)} {rest : Value → List (Addr × Obj) → Prop} {y : Value} {tk : Nat}
    (F : Fr h₀ L h' m) (N : News h₀ L h' ((T, o) :: ((C, oC) :: (D, oD) :: base ++ (nw ++ own)))) (lt : ∀ p ∈ (C, oC) :: (D, oD) :: base ++ (nw ++ own), p.1 < T) (r : rest y ((T, o) :: nw)) :
    CeEnd h₀ L m s₁ C oC D oD nw own rest y { s₁ with heap := h', toks := tk } := by
  have mC : (C, oC) ∈ (C, oC) :: (D, oD) :: base ++ (nw ++ own) := List.mem_cons_self ..
  have mD : (D, oD) ∈ (C, oC) :: (D, oD) :: base ++ (nw ++ own) := List.mem_cons_of_mem _ (List.mem_cons_self ..)
  have mN : ∀ p ∈ nw, p ∈ (C, oC) :: (D, oD) :: base ++ (nw ++ own) := fun p hp => List.mem_append_right _ (List.mem_append_left _ hp)
  have mO : ∀ p ∈ own, p ∈ (C, oC) :: (D, oD) :: base ++ (nw ++ own) := fun p hp => List.mem_append_right _ (List.mem_append_right _ hp)
  refine ⟨⟨h', tk, (T, o) :: nw, rfl, F, fun p hp => ?_, fun p hp => ?_, r⟩⟩
  · rcases List.mem_append.mp hp with hp | hp
    · rcases List.mem_cons.mp hp with rfl | hp
      · exact N _ (List.mem_cons_of_mem _ mC)
      rcases List.mem_cons.mp hp with rfl | hp
      · exact N _ (List.mem_cons_of_mem _ mD)
      rcases List.mem_cons.mp hp with rfl | hp
      · exact N _ (List.mem_cons_self ..)
      · exact N _ (List.mem_cons_of_mem _ (mN p hp))
    · exact N _ (List.mem_cons_of_mem _ (mO p hp))
  · rcases List.mem_cons.mp hp with rfl | hp
    · refine .inr fun q hq => lt q ?_
      rcases List.mem_cons.mp hq with rfl | hq
      · exact mC
      rcases List.mem_cons.mp hq with rfl | hq
      · exact mD
      · exact mO q hq
    · exact .inl hp
section
variable {prog : Program} {w : World} {A : Around} {E : Value → Shared → Prop} {s : Shared}
theorem item_strK {value slice : PySem.Expr} {l : Addr} {vs : List Value} {ss : List PySem.Str} {k : Int} {j : Nat} {u : Tok} {Q : Value → Shared → Prop} (hl : s.heap.IsList l vs.toArray) (hi : StrsAre vs ss)
    (hk : k = (j : Int)) (hj : j < ss.length) (hfit : ss.length < 2 ^ 62) (h : ∀ t, Q (.str (ss.getD j Str.empty) t) s)
    (hs : subscripted slice false (.ref l) (.int k u) = operate [.ref l, .int k u] (getItem (.ref l) (.int k u)) := by with_unfolding_all rfl) :
    wpAny (model prog w) A (subscriptTail value slice (.ref l) (.int k u)) Q E s := by
  subst hk
  obtain ⟨t, hx⟩ := hi.get j (ss.getD j Str.empty) (by simp [List.getD, hj])
  exact tail_any hl.typeIs slot_list_getitem.lookup (wpAny_getItem_list hl (Int.natCast_nonneg _) (by omega) (by simpa using hx) (h t)) hs
end
theorem news_with {h₀ h : Heap} {L : Addr} {a b : Addr × Obj} {base nw own : List (Addr × Obj)} (sub : ∀ p ∈ base, p ∈ nw) (N : News h₀ L h (a :: b :: nw ++ own)) : News h₀ L h (a :: b :: base ++ (nw ++ own)) := by
  intro p hp
  refine N p ?_
  rcases List.mem_cons.mp hp with rfl | hp
  · exact List.mem_cons_self ..
  rcases List.mem_cons.mp hp with rfl | hp
  · exact List.mem_cons_of_mem _ (List.mem_cons_self ..)
  rcases List.mem_append.mp hp with hp | hp
  · exact List.mem_append_left _ (List.mem_cons_of_mem _ (List.mem_cons_of_mem _ (sub p hp)))
  · exact List.mem_cons_of_mem _ (List.mem_cons_of_mem _ hp)
/-- a place where the walk is to stop -/
structure Stop (P : Prop) : Prop where
  out : P
theorem Stop.go {P : Prop} (h : Stop P) : P := h.out
local macro_rules | `(tactic| walk_at "eval ListComp") => `(tactic| (k_here; refine Stop.go ?_))
set_option maxHeartbeats 8000000 in
theorem prices_ok (w : World) (news : List (Addr × Obj)) (l : Addr) (vs : List Value) (ss : List PySem.Str) (c : Nat) (k : Nat) (u : Tok) (hi : StrsAre vs ss) (hn : ss.length ≤ 12) (hk : 1 ≤ k) (hk2 : k ≤ ss.length) (hshort : ∀ j, j < ss.length → (ss.getD j Str.empty).cps.size ≤ 100) :
    Claim2 w 107 ((l, listOf vs.toArray c) :: news) [.ref l, .int k u] (RetS ((l, listOf vs.toArray c) :: news) (Txt.join "" ((List.range ss.length).map (priceS ss k)))) := by
  dsimp only [Claim2, RetS, KK, PR, TopM]; k_fill
  intros
  rename_i hret
  refine wpAny_call ?_
  k_dflt (refine' code_defC ?k1 ?k2 ?k3 ?k4 ?k5 ?kA ?kF ?kK ?k6 ?k7 ?k8 ?k9 ?kB ?kD ?_ ?c2 ?c3 ?c4; (case kA => exact rfl); (case kF => exact rfl); (case kK => assumption); (case k1 => k_asm); (case k2 => k_asm); (case k3 => k_asm); (case k4 => k_asm); (case k5 => k_asm); (case k6 => k_is); (case k7 => k_is); (case k8 => ktr_room); (case k9 => exact BindsTo.of_eq rfl); (case kB => exact rfl); (case kD => decide +kernel); (case c2 => exact rfl); (case c3 => exact rfl); (case c4 => exact rfl); k_whole; intro g' L' h' tk' cells' FG' F' N' Y' B' X' T' l1; (try k_lt l1); k_cells Y'; (try simp only [List.cons_append, List.nil_append] at N'); (try dsimp only); (try k_lift B'); (try k_fold))
  refine gen_tok ?_; intro tkk; (with_reducible refine wpAny_execs_cons ?_); (try dsimp only)
  refine' Assign_ListComp_En F' ?c0 ?c00 ?c1 ?c2 ?c3 ?c4 ?c5 ?c6 ?c7 ?c8 ?c9 ?_ ?c10
  case c0 => rfl
  case c00 => with_unfolding_all rfl
  case c8 => rfl
  case c9 => rfl
  case c10 => intro _; rfl
  case c1 => with_unfolding_all rfl
  case c2 => decide
  case c3 => rfl
  case c4 => decide
  case c5 => rfl
  case c6 => rfl
  case c7 => decide
  k_steps
  have kMark : KstMark := kstMark
  refine' call_enSrc (PJ _ ss k) rfl ?hsz (by assumption) N' (fun _ _ _ hj => hj.sub _ (List.mem_cons_of_mem _ (List.mem_cons_of_mem _ (List.mem_cons_self ..)))) ⟨fun _ hp => hp, rfl, fun _ hj => nomatch hj⟩ ?turn ?fin
  case hsz => exact Nat.le_trans (Nat.le_trans (Nat.le_of_eq (strs_len hi)) hn) (by decide)
  case turn =>
    intro i v t ys nw C oC D m₂ h tk own E' hv hlt hJ hC hx hx₂ F₂ N₂
    replace N₂ := news_with hJ.sub N₂
    clear F' N'
    have hls : ss.length = vs.length := (strs_len hi).symm
    have hpos : 0 < ss.length := by omega
    have hmod : (i + k) % ss.length < ss.length := Nat.mod_lt _ hpos
    have hkk : ((i : Int) + (k : Int)).fmod (ss.length : Int) = (((i + k) % ss.length : Nat) : Int) := by
      rw [Int.fmod_eq_emod_of_nonneg _ (by omega)]; rfl
    have hgv := hi.get i (ss.getD i Str.empty) (by simp [List.getD, hls, hlt])
    obtain ⟨tv, hgv⟩ := hgv
    rw [hv] at hgv
    cases hgv
    k_steps
    refine' item_strK (hi := hi) (hk := hkk) (hj := hmod) ?l1 ?l2 ?_
    case l1 => exact ⟨_, (N₂ _ (List.mem_append_left _ (List.mem_cons_of_mem _ (List.mem_cons_of_mem _ (List.mem_cons_of_mem _ (List.mem_cons_of_mem _ (List.mem_cons_self ..))))))).1, rfl, c, rfl⟩
    case l2 => omega
    intro tI
    k_steps
    rename Fr _ _ _ _ => F3
    rename News _ _ _ _ => N3
    exact ce_close F3 N3 (by assumption) (pj_next hJ (fun p hp => List.mem_cons_of_mem _ hp) (List.mem_cons_self ..) rfl rfl)
  case fin =>
    intro g ys nw hJ
    clear F' N'
    unfold LCg.FinA
    intro D' h' tk' F' N' o1'
    k_steps
    refine ⟨?_⟩
    refine' LCp.ListComp_P (F₀ := ?f0) ?f1 ?f2 ?f3 ?f4 ?f5 ?f6 ?f7 ?_ ?f8
    case f0 => assumption
    case f1 => with_unfolding_all rfl
    case f2 => decide
    case f3 => rfl
    case f4 => decide
    case f5 => kernel_rfl
    case f6 => kernel_rfl
    case f7 => decide
    case f8 => intro _; rfl
    refine' nameX_L ?F ?v ?_ ?a ?b
    case F => assumption
    case a => rfl
    case b => rfl
    case v => rfl
    replace N' := news_with2 hJ.sub N'
    refine' LCp.SrcLP.ledger (its := ys.toArray) (k := ys.length) rfl F' N' (List.mem_cons_self ..) ?hsz2 ?_
    case hsz2 => rw [List.size_toArray, hJ.len, strs_len hi]; exact Nat.le_trans hn (by decide)
    intro g2
    rw [List.size_toArray, hJ.len]
    refine' restP_inv vs.length (fun i zs nw2 => nw2 = _ ∧ StrsAre zs ((List.range i).map (priceS ss k))) ?turn2 ?fin2 vs.length 0 [] _ (Nat.zero_add _) ⟨rfl, .nil⟩
    case turn2 =>
      intro i v zs nw2 hlt hv hz
      obtain ⟨rfl, hz⟩ := hz
      obtain ⟨T, o, nt, ta, tb, h1, h2, h3, h4⟩ := hJ.at' i hlt
      refine' ⟨T, o, _, _, nt, ?_, ?_, h3, h4, ?_⟩
      · rw [List.getElem?_toArray, h1] at hv; exact (Option.some.inj hv).symm
      · exact List.mem_append_right _ h2
      intro I oI C oC D m₂ h tk E' hC hx hx₂ F2 N2 off ne
      clear F' N'
      have hls : vs.length = ss.length := strs_len hi
      have hmod : (i + k) % ss.length < ss.length := Nat.mod_lt _ (by omega)
      k_steps
      refine' cost_ok w _ _ _ _ _ (hshort _ (by rw [← hls]; exact hlt)) (hshort _ hmod) _ _ _ _ _ _ _ _ _ _ _ _ _ _ _ _ _ _ _ _ ?k1 F2 ?k3 N2 ?k5 ?k6 ?k7 ?k8 ?_
      case k1 => assumption
      case k3 => assumption
      case k5 => assumption
      case k6 => first | assumption | rfl
      case k7 => dsimp only [ktrTop, Around.deeper]; omega
      case k8 => dsimp only [ktrTop, Around.deeper]; omega
      intro t2 h2 tk2 F3 N3
      clear F2 N2
      have hp := price_le (ss.getD i Str.empty) (ss.getD ((i + k) % ss.length) Str.empty)
      obtain ⟨hp0, hp1⟩ := hp
      k_steps
      rename Fr _ _ _ _ => F4
      rename News _ _ _ _ => N4
      refine LCg.CompEnd.intro F4 N4 _ (fun p hp => hp) off (.inr ⟨_, List.mem_cons_self .., rfl, _, rfl⟩) ⟨rfl, ?_⟩
      rw [List.range_succ, List.map_append]
      exact strs_push hz _ _
    case fin2 =>
      intro zs nw2 hz
      obtain ⟨rfl, hz⟩ := hz
      clear F' N'
      unfold LCg.FinE
      intro D2 h2 tk2 F2 N2 o1
      k_steps
      refine' join_list (items := zs.toArray) ⟨_, (N2 _ (List.mem_cons_self ..)).1, rfl, _, rfl⟩ hz ?hok ?_
      case hok =>
        have h1 := priceS_sum ss k (List.range vs.length)
        rw [List.length_range] at h1
        have hv : vs.length ≤ 12 := by rw [strs_len hi]; exact hn
        show _ + _ * 0 ≤ _
        omega
      intro tj kj
      k_steps
      exact ret_s hret (by rw [strs_len hi]) (by assumption) (news_keep (by assumption))
end Mine
end
section
open PySem PySem.W PySem.Calls PyProof.Rows PyProof.Rows.LCg
set_option maxRecDepth 100000
namespace Mine
section
variable {prog : Program} {w : World} {A : Around} {E : Value → Shared → Prop} {s : Shared} {env : Env} {h₀ : Heap} {L : Addr} {m : PySem.Str → Option Value}
theorem restU_inv {elt : Expr} {x : PySem.Str} {scope : Scope} {cl : List (PySem.Str × Addr)} {S : List (Addr × Obj) → Prop} {P : Nat → Value → Prop} {Fin : List Value → List (Addr × Obj) → Prop} (n : Nat) (J : Nat → List Value → List (Addr × Obj) → Prop)
    (turn : ∀ i v ys nw I oI C oC D m₂ h tk (E' : Value → Shared → Prop), i < n → P i v → J i ys nw → NsObj oC m₂ → m₂ x = some v → Fr h₀ L h m → News h₀ L h ((I, oI) :: (C, oC) :: (D, lst ys) :: nw) → Off3 I C D nw → ((@Ne Nat I C) ∧ (@Ne Nat I D) ∧ (@Ne Nat C D)) →
      wpAny (model prog w) A (eval elt (compEnvC scope cl C env)) (CompEnd h₀ L m { s with heap := h, toks := tk } I oI C oC D (lst ys) S (fun y nw' => J (i + 1) (ys ++ [y]) nw')) E' { s with heap := h, toks := tk })
    (fin : ∀ ys nw, J n ys nw → Fin ys nw) : ∀ k i ys nw, i + k = n → J i ys nw → CompRest prog w A h₀ L m env elt x scope cl s S P Fin k i ys nw := by
  intro k
  induction k with
  | zero =>
    intro i ys nw hk hJ
    obtain rfl : i = n := hk
    exact CompRest.zero (fin ys nw hJ)
  | succ k ih =>
    intro i ys nw hk hJ
    refine CompRest.succ fun v I oI C oC D m₂ h tk E' hv h1 h2 F N o3 ne => ?_
    refine wpAny_mono (turn i v ys nw I oI C oC D m₂ h tk E' (by omega) hv hJ h1 h2 F N o3 ne) (fun y s₂ h₂ => ?_) fun _ _ q => q
    obtain ⟨h', tk', news', e', F', N', o', hS, hJ'⟩ := h₂
    exact ⟨h', tk', news', e', F', N', o', hS, ih _ _ _ (by omega) hJ'⟩
abbrev GTurn (prog : Program) (w : World) (A : Around) (h₀ : Heap) (L : Addr) (m : PySem.Str → Option Value) (env : Env) (elt : Expr) (x : PySem.Str) (scope : Scope) (cl : List (PySem.Str × Addr)) (n : Nat) (P : Nat → Value → Prop) (J : Nat → List Value → List (Addr × Obj) → Prop) (s : Shared) : Prop :=
  ∀ i v ys nw I oI C oC D m₂ h tk (E' : Value → Shared → Prop), i < n → P i v → J i ys nw → NsObj oC m₂ → m₂ x = some v → Fr h₀ L h m → News h₀ L h ((I, oI) :: (C, oC) :: (D, lst ys) :: nw) → Off3 I C D nw → ((@Ne Nat I C) ∧ (@Ne Nat I D) ∧ (@Ne Nat C D)) →
      wpAny (model prog w) A (eval elt (compEnvC scope cl C env)) (CompEnd h₀ L m { s with heap := h, toks := tk } I oI C oC D (lst ys) (fun _ => True) (fun y nw' => J (i + 1) (ys ++ [y]) nw')) E' { s with heap := h, toks := tk }
/-- an iterable of a comprehension over one name -/
structure GSrc (prog : Program) (w : World) (A : Around) (h₀ : Heap) (L : Addr) (m : PySem.Str → Option Value) (env : Env) (elt : Expr) (x : PySem.Str) (scope : Scope) (cl : List (PySem.Str × Addr)) (E : Value → Shared → Prop) (Fin : Shared → List Value → List (Addr × Obj) → Prop) (xv : Value) (s₁ : Shared) : Prop where
  out : ∃ (n : Nat) (P : Nat → Value → Prop) (news : List (Addr × Obj)) (J : Nat → List Value → List (Addr × Obj) → Prop), n ≤ sizeLine ∧ Fr h₀ L s₁.heap m ∧ News h₀ L s₁.heap news ∧ J 0 [] news ∧ GTurn prog w A h₀ L m env elt x scope cl n P J s₁ ∧ (∀ g ys nw, J n ys nw → Fin { s₁ with heap := g } ys nw) ∧
    ∀ Q' : Value → Shared → Prop, (∀ (St : Nat → Heap → Prop) oI, Walks prog w A s₁.heap.objs.size [s₁.heap.objs.size] [s₁.heap.objs.size] n P St → (∀ i h h' o, St i h → h.get? s₁.heap.objs.size = some o → h'.get? s₁.heap.objs.size = some o → St i h') → (∀ i h, St i h → ∃ o, h.get? s₁.heap.objs.size = some o) → St 0 (s₁.heap.push oI) → Q' (.ref s₁.heap.objs.size) { s₁ with heap := s₁.heap.push oI }) →
      wpAny (model prog w) A (pyIter xv) Q' E s₁
theorem GSrc.block {elt iter : Expr} {x : PySem.Str} {px : Pos} {scope : Scope} {cl : List (PySem.Str × Addr)} {pos : Pos} {Fin : Shared → List Value → List (Addr × Obj) → Prop} {RR : Value → Addr → Result → Shared → Prop} {xv : Value} {s₁ : Shared}
    (hcell : ∀ y ∈ scope.names, y.2 ≠ .cell) (hkind : scope.kind = .function) (hx : scope.names.lookup x = some .local)
    (h : GSrc prog w A h₀ L m env elt x scope cl E Fin xv s₁)
    (hRR : ∀ D C g h tk m' ys news', Fr h₀ L h m → News h₀ L h ((D, lst ys) :: news') → Off1 D news' → h.Ns C m' → h₀.get? C = none → C ≠ L → C ≠ D → (∀ p ∈ news', p.1 ≠ C) → Fin { s₁ with heap := g } ys news' → RR (.ref D) C (.ok .next) { s₁ with heap := h, toks := tk }) :
    wpAny (model prog w) A (pyIter xv) (fun it s₂ => wpAny (model prog w) A (newList []) (fun acc s₃ => wpAny (model prog w) A (newFunctionEnv scope env.globals cl [] env.qual none .none (some env)) (fun cenv s₄ =>
      codeAny (model prog w) A (.compStart (.ListComp elt [⟨.Name x px, iter, [], 0⟩] scope pos) 0 it acc { cenv with scope := relabel scope env }) (RR acc cenv.locals) s₄) E s₃) E s₂) E s₁ := by
  obtain ⟨n, P, news, J, hsz, F, N, hJ, turn, fin, iter⟩ := h.out
  refine iter _ fun St oI W hSt hIo hst => ?_
  refine block_U (Fin := fun ys nw => Fin { s₁ with heap := s₁.heap.push oI } ys nw) W hsz hIo (fun i h h' o nw st e e' _ _ _ => hSt i h h' o st e e') hcell hkind hx hst (fun b hb => ?_)
    (F.push _) (fun p hp => ⟨Heap.get?_push_of_some _ (N p hp).1, (N p hp).2⟩) (Nat.ne_of_lt F.ns.lt) (next_is_new F) (fun p hp => Nat.ne_of_lt (Heap.lt_size (N p hp).1)) (S := fun _ => True) trivial (restU_inv (s := { s₁ with heap := s₁.heap.push oI }) n J turn (fin _) n 0 [] news (Nat.zero_add _) hJ) ?_
  · rw [List.mem_singleton.mp hb]
    show s₁.heap.objs.size < (s₁.heap.push _).objs.size
    rw [Heap.size_push]; exact Nat.lt_succ_self _
  · intro D C h tk m' ys news' F' N' o1 hn hC₀ hD₀ hCL hDL hCD offC fin'
    exact hRR D C _ h tk m' ys news' F' N' o1 hn hC₀ hCL hCD offC fin'
theorem ListComp_G {elt iter : Expr} {x : PySem.Str} {px : Pos} {scope : Scope} {cl : List (PySem.Str × Addr)} {pos : Pos} {Q : Value → Shared → Prop} (_F₀ : Fr h₀ L s.heap m)
    (hclos : closureFor scope env = pure cl) (hcell : ∀ y ∈ scope.names, y.2 ≠ .cell) (hkind : scope.kind = .function)
    (hnames : ∀ y ∈ scope.names, y.2 = .local → scope.names.lookup y.1 = some .local) (hx : scope.names.lookup x = some .local)
    (h : wpAny (model prog w) A (eval iter env) (GSrc prog w A h₀ L m env elt x scope cl E (fun s₂ => FinE h₀ L m s₂ Q)) E s)
    (hs : ∀ x, foldedSetIterable iter env x = pure x := by intro _; rfl) :
    wpAny (model prog w) A (eval (.ListComp elt [⟨.Name x px, iter, [], 0⟩] scope pos) env) Q E s := by
  rw [eval_ListComp]
  refine wpAny_comprehension_free (use := none) rfl hs hclos hkind hnames (wpAny_mono h (fun xv s₁ h₁ => ?_) fun _ _ e => e)
  refine h₁.block hcell hkind hx ?_
  intro D C g h tk m' ys news' F' N' o1 hn hC₀ hCL hCD offC fin
  refine ⟨m', hn, fun h'' hs'' => fin D h'' tk (F'.change hs'' hCL hC₀) (fun p hp => ?_) o1⟩
  refine ⟨hs''.extBut _ _ ?_ (N' p hp).1, (N' p hp).2⟩
  rcases List.mem_cons.mp hp with rfl | hp
  · exact Ne.symm hCD
  · exact offC p hp
theorem Assign_ListComp_G {elt iter : Expr} {x y : PySem.Str} {px py : Pos} {scope : Scope} {cl : List (PySem.Str × Addr)} {pos spos : Pos} {Q : Flow → Shared → Prop} (_F₀ : Fr h₀ L s.heap m) (hLe : env.locals = L)
    (hsw : swapsWith (.ListComp elt [⟨.Name x px, iter, [], 0⟩] scope pos) (some (.Name y py)) spos.line env = pure true)
    (hclos : closureFor scope env = pure cl) (hcell : ∀ z ∈ scope.names, z.2 ≠ .cell) (hkind : scope.kind = .function)
    (hnames : ∀ z ∈ scope.names, z.2 = .local → scope.names.lookup z.1 = some .local) (hx : scope.names.lookup x = some .local)
    (hy : env.kindOf y = some .local) (hp : (env.scope.kind == .class || (env.scope.kind == .module && env.locals != env.globals)) = false)
    (h : wpAny (model prog w) A (eval iter env) (GSrc prog w A h₀ L m env elt x scope cl E (fun s₂ => FinA h₀ L m s₂ y Q)) E s)
    (hs : ∀ x, foldedSetIterable iter env x = pure x := by intro _; rfl) :
    wpAny (model prog w) A (exec (.Assign [.Name y py] (.ListComp elt [⟨.Name x px, iter, [], 0⟩] scope pos) spos) env) Q E s := by
  subst hLe
  rw [exec_Assign_Name_used _ _ _ _ hsw]
  refine wpAny_bind (wpAny_standAt (wpAny_bind ?_))
  show wpAny _ A (do let _ ← comprehension (.ListComp elt [⟨.Name x px, iter, [], 0⟩] scope pos) scope env _ (newList []) false (eval iter env) (some (assign (.Name y py) env))) _ _ s
  refine wpAny_bind (wpAny_mono (wpAny_comprehension_free (use := some (assign (.Name y py) env)) (Q := fun _ s' => Q .next s') rfl hs hclos hkind hnames
    (wpAny_mono h (fun xv s₁ h₁ => ?_) fun _ _ e => e)) (fun _ s' hq => wpAny_pure (wpAny_pure hq)) fun _ _ e => e)
  refine h₁.block hcell hkind hx ?_
  intro D C g h' tk m' ys news' F' N' o1 hn hC₀ hCL hCD offC fin
  show wpAny _ A (assign (.Name y py) env (.ref D)) _ _ _
  refine wpAny_assign_Name (wpAny_storeName_local hy F'.ns (fun h₂ hn₂ hs₂ => ?_) hp)
  have hL₀ : h₀.get? env.locals = none := Heap.get?_none_of_le F'.above
  have F₂ : Fr h₀ env.locals h₂ (fun z => if z = y then some (.ref D) else m z) := ⟨hn₂, fun b o e => hs₂.extBut b o (fun q => by rw [q, hL₀] at e; cases e) (F'.keep b o e), F'.above⟩
  refine ⟨m', hn.sameBut hs₂ hCL, fun h'' hs'' => fin D h'' _ (F₂.change hs'' hCL hC₀) (fun p hp => ?_) o1⟩
  have z : h₂.get? p.1 = some p.2 := hs₂.extBut _ _ (N' p hp).2.1 (N' p hp).1
  refine ⟨hs''.extBut _ _ ?_ z, (N' p hp).2⟩
  rcases List.mem_cons.mp hp with rfl | hp
  · exact Ne.symm hCD
  · exact offC p hp
theorem GSrc.bytes {elt : Expr} {x : PySem.Str} {scope : Scope} {cl : List (PySem.Str × Addr)} {Fin : Shared → List Value → List (Addr × Obj) → Prop} {b : Array UInt8} {t : Tok} {news : List (Addr × Obj)} (J : Nat → List Value → List (Addr × Obj) → Prop) {s₁ : Shared}
    (hh : A.handled = none) (hsz : b.size ≤ sizeLine) (F : Fr h₀ L s₁.heap m) (N : News h₀ L s₁.heap news) (hJ : J 0 [] news)
    (turn : GTurn prog w A h₀ L m env elt x scope cl b.size (fun i v => ∃ c u, b[i]? = some c ∧ v = .int (c.toNat : Int) u) J s₁) (fin : ∀ g ys nw, J b.size ys nw → Fin { s₁ with heap := g } ys nw) :
    GSrc prog w A h₀ L m env elt x scope cl E Fin (.bytes b t) s₁ :=
  ⟨⟨b.size, _, news, J, hsz, F, N, hJ, turn, fin, fun Q' h => KBw.pyIter_bytes (h _ _ (KBw.walks hh s₁.heap.objs.size b t) (fun i h h' o st e e' => by obtain ⟨o', q, r⟩ := st; rw [e] at q; cases q; exact ⟨o, e', r⟩) (fun i h st => by obtain ⟨o, e, _⟩ := st; exact ⟨o, e⟩) ⟨_, Heap.get?_push_size _ rfl, rfl, rfl⟩)⟩⟩
theorem GSrc.str {elt : Expr} {x : PySem.Str} {scope : Scope} {cl : List (PySem.Str × Addr)} {Fin : Shared → List Value → List (Addr × Obj) → Prop} {b : PySem.Str} {t : Tok} {news : List (Addr × Obj)} (J : Nat → List Value → List (Addr × Obj) → Prop) {s₁ : Shared}
    (hh : A.handled = none) (ha : b.cps.all (· < 128) = true) (hsz : b.cps.size ≤ sizeLine) (F : Fr h₀ L s₁.heap m) (N : News h₀ L s₁.heap news) (hJ : J 0 [] news)
    (turn : GTurn prog w A h₀ L m env elt x scope cl b.cps.size (SignAt b) J s₁) (fin : ∀ g ys nw, J b.cps.size ys nw → Fin { s₁ with heap := g } ys nw) :
    GSrc prog w A h₀ L m env elt x scope cl E Fin (.str b t) s₁ :=
  ⟨⟨b.cps.size, _, news, J, hsz, F, N, hJ, turn, fin, fun Q' h => wpAny_pyIter_ascii ha (h _ _ (Walks.strAscii hh s₁.heap.objs.size b t) (fun i h h' o st e e' => by obtain ⟨o', q, r⟩ := st; rw [e] at q; cases q; exact ⟨o, e', r⟩) (fun i h st => by obtain ⟨o, e, _⟩ := st; exact ⟨o, e⟩) ⟨_, Heap.get?_push_size _ rfl, rfl, rfl⟩)⟩⟩
theorem GSrc.range {elt : Expr} {x : PySem.Str} {scope : Scope} {cl : List (PySem.Str × Addr)} {Fin : Shared → List Value → List (Addr × Obj) → Prop} {r : Addr} {a b : Int} {t u v : Tok} {n : Nat} {news : List (Addr × Obj)} (J : Nat → List Value → List (Addr × Obj) → Prop) {s₁ : Shared}
    (hh : A.handled = none) (hr : IsRange s₁.heap r a b 1 t u v) (hsm : Builtin.Range.small a b 1 = true) (hn : Builtin.Range.rangeSize a b 1 = ((n : Nat) : Int)) (hsz : n ≤ sizeLine) (F : Fr h₀ L s₁.heap m) (N : News h₀ L s₁.heap news) (hJ : J 0 [] news)
    (turn : GTurn prog w A h₀ L m env elt x scope cl n (fun i v => ∃ t, v = .int (a + (i : Int)) t) J s₁) (fin : ∀ g ys nw, J n ys nw → Fin { s₁ with heap := g } ys nw) :
    GSrc prog w A h₀ L m env elt x scope cl E Fin (.ref r) s₁ :=
  ⟨⟨n, _, news, J, hsz, F, N, hJ, turn, fin, fun Q' h => wpAny_pyIter_range hr hsm (h _ _ (range_walks hh a n) (fun i h h' o st e e' => by
    have st' : h.get? s₁.heap.objs.size = some _ := st
    show h'.get? s₁.heap.objs.size = some _
    rw [e', ← e]; exact st') (fun i h st => ⟨_, st⟩) (by rw [hn]; show IsRangeIter _ _ _ _ _; simpa using Heap.get?_push_size _ rfl))⟩⟩
end
end Mine
end
section
open PySem
namespace Mine
/-- the numbers the law draws -/
structure Draw (U L n : Nat) : Prop where
  l2 : 2 ≤ L
  u1 : 1 ≤ U
  ul : U < L
  co : Nat.gcd U L = 1
  lb : L ≤ 16777217
  n1 : 1 ≤ n
  n12 : n ≤ 12
  per : 16 ^ n % L = 1
  lst : ∀ k, 1 ≤ k → k < n → 16 ^ k % L ≠ 1
/-- the rest at a place, and the figure there -/
def rstN (U L j : Nat) : Nat := U * 16 ^ j % L
def digN (U L j : Nat) : Nat := 16 * rstN U L j / L
def digs (U L n : Nat) : List Int := (List.range n).map fun j => (digN U L j : Int)
def rsts (U L n : Nat) : List Int := (List.range n).map fun j => (rstN U L j : Int)
theorem digs_len (U L n : Nat) : (digs U L n).length = n := by rw [digs, List.length_map, List.length_range]
theorem rst_lt {U L : Nat} (hL : 0 < L) (j : Nat) : rstN U L j < L := Nat.mod_lt _ hL
theorem dig_lt {U L : Nat} (hL : 0 < L) (j : Nat) : digN U L j < 16 := by
  rw [digN, Nat.div_lt_iff_lt_mul hL]
  have := rst_lt (U := U) hL j
  omega
theorem digs_in {U L n : Nat} (hL : 0 < L) : ∀ k ∈ digs U L n, 0 ≤ k ∧ k < 16 := by
  intro k hk
  obtain ⟨j, _, rfl⟩ := List.mem_map.mp hk
  have := dig_lt (U := U) hL j
  omega
end Mine
end
section
open PySem
namespace Mine
theorem rst_succ (U L j : Nat) : rstN U L (j + 1) = 16 * rstN U L j % L := by
  rw [rstN, rstN, Nat.mul_mod_mod, Nat.pow_succ, ← Nat.mul_assoc, Nat.mul_comm 16]
theorem rst_dig (U L j : Nat) : digN U L j * L + rstN U L (j + 1) = 16 * rstN U L j := by
  rw [rst_succ, digN, Nat.mul_comm]; exact Nat.div_add_mod _ _
theorem rst_add (U L j c : Nat) : rstN U L (j + c) = (U * 16 ^ j) * (16 ^ c % L) % L := by
  rw [rstN, Nat.mul_mod_mod, Nat.pow_add, Nat.mul_assoc]
theorem rst_per {U L n : Nat} (h : 16 ^ n % L = 1) (j : Nat) : rstN U L (j + n) = rstN U L j := by
  rw [rst_add, h, Nat.mul_one, rstN]
theorem dig_per {U L n : Nat} (h : 16 ^ n % L = 1) (j : Nat) : digN U L (j + n) = digN U L j := by
  rw [digN, rst_per h, digN]
theorem dig_mod {U L n : Nat} (h : 16 ^ n % L = 1) (j : Nat) : digN U L (j % n) = digN U L j := by
  have : ∀ k j, digN U L (j + n * k) = digN U L j := by
    intro k
    induction k with
    | zero => intro j; rfl
    | succ k ih => intro j; rw [Nat.mul_succ, ← Nat.add_assoc, dig_per h, ih]
  have e := this (j / n) (j % n)
  rw [Nat.mod_add_div] at e
  exact e.symm
theorem rst_zero {U L : Nat} (h : U < L) : rstN U L 0 = U := by rw [rstN, Nat.pow_zero, Nat.mul_one]; exact Nat.mod_eq_of_lt h
theorem pow_zero_of {n : Nat} (hn : 1 ≤ n) {x : Int} (h : x = 16 ^ n * x) : x = 0 := by
  have h1 : (2 : Int) ≤ 16 ^ n := by
    obtain ⟨m, rfl⟩ : ∃ m, n = m + 1 := ⟨n - 1, by omega⟩
    have : (0 : Int) < 16 ^ m := Int.pow_pos (by decide)
    rw [Int.pow_succ]; omega
  have h2 : (16 ^ n - 1) * x = 0 := by rw [Int.sub_mul]; omega
  rcases Int.mul_eq_zero.mp h2 with h3 | h3
  · omega
  · exact h3
theorem int_dig (U L j : Nat) : (digN U L j : Int) * L + rstN U L (j + 1) = 16 * rstN U L j := by
  rw [← Int.natCast_mul, ← Int.natCast_add, rst_dig]; omega
theorem mod_one_iff {U L n : Nat} (d : Draw U L n) (c : Nat) : rstN U L c = rstN U L 0 ↔ 16 ^ c % L = 1 := by
  have hl := d.l2
  constructor
  · intro h
    have h1 := Nat.sub_mod_eq_zero_of_mod_eq h
    rw [Nat.pow_zero, ← Nat.mul_sub] at h1
    have h2 := (Nat.Coprime.dvd_of_dvd_mul_left (Nat.Coprime.symm d.co) (Nat.dvd_of_mod_eq_zero h1))
    obtain ⟨k, hk⟩ := h2
    have hp : 1 ≤ 16 ^ c := Nat.pow_pos (by decide)
    have e : 16 ^ c = 1 + L * k := by omega
    rw [e, Nat.add_mul_mod_self_left]
    exact Nat.mod_eq_of_lt (by omega)
  · intro h
    have := rst_add U L 0 c
    rw [Nat.zero_add, h, Nat.mul_one] at this
    exact this
theorem shift_iff {U L n : Nat} (d : Draw U L n) (c : Nat) : (∀ p, p < n → digN U L (p + c) = digN U L p) ↔ 16 ^ c % L = 1 := by
  have hl := d.l2
  rw [← mod_one_iff d c]
  constructor
  · intro h
    have key : ∀ p, p ≤ n → (rstN U L (p + c) : Int) - rstN U L p = 16 ^ p * ((rstN U L c : Int) - rstN U L 0) := by
      intro p
      induction p with
      | zero => intro _; rw [Nat.zero_add, Int.pow_zero, Int.one_mul]
      | succ p ih =>
        intro hp
        have i1 := int_dig U L (p + c)
        have i2 := int_dig U L p
        rw [h p (by omega)] at i1
        have i3 := ih (by omega)
        have e : p + 1 + c = p + c + 1 := by omega
        rw [e, Int.pow_succ, Int.mul_comm (16 ^ p), Int.mul_assoc, ← i3]
        omega
    have k := key n (Nat.le_refl _)
    rw [Nat.add_comm n c, rst_per d.per, ← Nat.zero_add n, rst_per d.per, Nat.zero_add] at k
    have := pow_zero_of d.n1 k
    omega
  · intro h p _
    have h1 := (mod_one_iff d c).mp h
    have e : rstN U L (p + c) = rstN U L p := by rw [rst_add, h1, Nat.mul_one, rstN]
    rw [digN, e, digN]
theorem rst_up {U L p : Nat} (h : rstN U L p = 0) : ∀ k, rstN U L (p + k) = 0
  | 0 => h
  | k + 1 => by rw [← Nat.add_assoc, rst_succ, rst_up h k]; simp
theorem rst_pos {U L n : Nat} (d : Draw U L n) (p : Nat) : 0 < rstN U L p := by
  rcases Nat.eq_zero_or_pos (rstN U L p) with h | h
  · have : ∀ k j, rstN U L (j + n * k) = rstN U L j := by
      intro k
      induction k with
      | zero => intro j; rfl
      | succ k ih => intro j; rw [Nat.mul_succ, ← Nat.add_assoc, rst_per d.per, ih]
    have h1 := this p 0
    have h2 : p ≤ n * p := Nat.le_mul_of_pos_left _ (by have := d.n1; omega)
    have h3 := rst_up h (n * p - p)
    have e : p + (n * p - p) = 0 + n * p := by omega
    rw [e, h1, rst_zero d.ul] at h3
    have := d.u1
    omega
  · exact h
theorem minus_iff {L c : Nat} (hl : 2 ≤ L) : L ∣ 16 ^ c + 1 ↔ 16 ^ c % L = L - 1 := by
  constructor
  · rintro ⟨k, hk⟩
    cases k with
    | zero => rw [Nat.mul_zero] at hk; exact absurd hk (Nat.succ_ne_zero _)
    | succ m =>
    rw [Nat.mul_succ] at hk
    have e : 16 ^ c = (L - 1) + L * m := by omega
    rw [e, Nat.add_mul_mod_self_left]
    exact Nat.mod_eq_of_lt (by omega)
  · intro h
    have := Nat.div_add_mod (16 ^ c) L
    rw [h] at this
    exact ⟨16 ^ c / L + 1, by rw [Nat.mul_succ]; omega⟩
theorem sum_L_iff {U L n : Nat} (d : Draw U L n) (c : Nat) : rstN U L c + rstN U L 0 = L ↔ 16 ^ c % L = L - 1 := by
  have hl := d.l2
  rw [← minus_iff hl]
  constructor
  · intro h
    have h1 : (U * 16 ^ c + U * 16 ^ 0) % L = 0 := by
      rw [Nat.add_mod]
      have : U * 16 ^ c % L + U * 16 ^ 0 % L = L := h
      rw [this, Nat.mod_self]
    rw [Nat.pow_zero, ← Nat.mul_add] at h1
    exact Nat.Coprime.dvd_of_dvd_mul_left (Nat.Coprime.symm d.co) (Nat.dvd_of_mod_eq_zero h1)
  · intro h
    have h1 : (rstN U L c + rstN U L 0) % L = 0 := by
      show (U * 16 ^ c % L + U * 16 ^ 0 % L) % L = 0
      rw [← Nat.add_mod, Nat.pow_zero, ← Nat.mul_add]
      exact Nat.mod_eq_zero_of_dvd (Nat.dvd_trans h (Nat.dvd_mul_left ..))
    have a := rst_lt (U := U) (show 0 < L by omega) c
    have b := rst_lt (U := U) (show 0 < L by omega) 0
    have p := rst_pos d c
    obtain ⟨k, hk⟩ := Nat.dvd_of_mod_eq_zero h1
    have hk1 : k = 1 := by
      rcases Nat.lt_or_ge k 1 with h | h
      · have : k = 0 := by omega
        subst this; omega
      · rcases Nat.lt_or_ge k 2 with h2 | h2
        · omega
        · have := Nat.mul_le_mul_left L h2
          omega
    rw [hk, hk1, Nat.mul_one]
theorem anti_iff {U L n : Nat} (d : Draw U L n) (c : Nat) : (∀ p, p < n → digN U L (p + c) + digN U L p = 15) ↔ 16 ^ c % L = L - 1 := by
  have hl := d.l2
  constructor
  · intro h
    rw [← sum_L_iff d c]
    have key : ∀ p, p ≤ n → (rstN U L (p + c) : Int) + rstN U L p - L = 16 ^ p * ((rstN U L c : Int) + rstN U L 0 - L) := by
      intro p
      induction p with
      | zero => intro _; rw [Nat.zero_add, Int.pow_zero, Int.one_mul]
      | succ p ih =>
        intro hp
        have i1 := int_dig U L (p + c)
        have i2 := int_dig U L p
        have i3 := ih (by omega)
        have i4 : ((digN U L (p + c) : Int) + digN U L p) * L = 15 * L := by
          have := h p (by omega)
          rw [← Int.natCast_add, this]; rfl
        rw [Int.add_mul] at i4
        have e : p + 1 + c = p + c + 1 := by omega
        rw [e, Int.pow_succ, Int.mul_comm (16 ^ p), Int.mul_assoc, ← i3]
        omega
    have k := key n (Nat.le_refl _)
    rw [Nat.add_comm n c, rst_per d.per, ← Nat.zero_add n, rst_per d.per, Nat.zero_add] at k
    have := pow_zero_of d.n1 k
    omega
  · intro h p _
    have hs : ∀ p, rstN U L (p + c) + rstN U L p = L := by
      intro p
      have h1 : (rstN U L (p + c) + rstN U L p) % L = 0 := by
        show (U * 16 ^ (p + c) % L + U * 16 ^ p % L) % L = 0
        rw [← Nat.add_mod, Nat.pow_add, ← Nat.mul_add, show 16 ^ p * 16 ^ c + 16 ^ p = 16 ^ p * (16 ^ c + 1) by rw [Nat.mul_succ]]
        exact Nat.mod_eq_zero_of_dvd (Nat.dvd_trans ((minus_iff hl).mpr h) (Nat.dvd_trans (Nat.dvd_mul_left ..) (Nat.dvd_mul_left ..)))
      have a := rst_lt (U := U) (show 0 < L by omega) (p + c)
      have b := rst_lt (U := U) (show 0 < L by omega) p
      have pp := rst_pos d p
      obtain ⟨k, hk⟩ := Nat.dvd_of_mod_eq_zero h1
      have hk1 : k = 1 := by
        rcases Nat.lt_or_ge k 1 with h | h
        · have : k = 0 := by omega
          subst this; omega
        · rcases Nat.lt_or_ge k 2 with h2 | h2
          · omega
          · have := Nat.mul_le_mul_left L h2
            omega
      rw [hk, hk1, Nat.mul_one]
    have s1 := hs p
    have s2 := hs (p + 1)
    have e : p + 1 + c = p + c + 1 := by omega
    rw [e] at s2
    have i1 := rst_dig U L (p + c)
    have i2 := rst_dig U L p
    have h5 : (digN U L (p + c) + digN U L p) * L = 15 * L := by rw [Nat.add_mul]; omega
    exact Nat.eq_of_mul_eq_mul_right (by omega) h5
end Mine
end
section
open PySem
namespace Mine
/-- the sum of g over the first n -/
def sumR (n : Nat) (g : Nat → Int) : Int := ((List.range n).map g).sum
theorem sumR_zero (g : Nat → Int) : sumR 0 g = 0 := rfl
theorem sumR_succ (n : Nat) (g : Nat → Int) : sumR (n + 1) g = sumR n g + g n := by
  rw [sumR, List.range_succ, List.map_append, List.sum_append, List.map_singleton, List.sum_singleton, sumR]
theorem digs_getD {U L n i : Nat} (h : i < n) : (digs U L n).getD i 0 = (digN U L i : Int) := by
  rw [digs, List.getD_eq_getElem?_getD, List.getElem?_map, List.getElem?_range h]; rfl
theorem tog_in {U L n c : Nat} (_hc : 1 ≤ c) (i : Nat) (q : Nat) (hq : q ≤ c) (hb : (L : Int) * togA (digs U L n) c (i * c) = 16 ^ c * sumR i (fun k => rstN U L (k * c)) - sumR i (fun k => rstN U L ((k + 1) * c))) (hn : i * c + q ≤ n) :
    (L : Int) * togA (digs U L n) c (i * c + q) = 16 ^ c * sumR i (fun k => rstN U L (k * c)) - sumR i (fun k => rstN U L ((k + 1) * c)) + 16 ^ c * rstN U L (i * c) - 16 ^ (c - q) * rstN U L (i * c + q) := by
  induction q with
  | zero => rw [Nat.add_zero, Nat.sub_zero, hb]; omega
  | succ q ih =>
    have i1 := ih (by omega) (by omega)
    have e : (i * c + q) % c = q := by rw [Nat.add_comm, Nat.add_mul_mod_self_right]; exact Nat.mod_eq_of_lt (by omega)
    rw [← Nat.add_assoc, togA, digs_getD (by omega), e, Int.mul_add, i1]
    have e2 : c - q = (c - 1 - q) + 1 := by omega
    have e3 : c - (q + 1) = c - 1 - q := by omega
    have i2 := int_dig U L (i * c + q)
    rw [e2, e3, Int.pow_succ, ← Int.mul_assoc, Int.mul_comm (L : Int), Int.mul_assoc (16 ^ (c - 1 - q)) 16, ← i2, Int.mul_add, Int.mul_comm ((digN U L (i * c + q) : Int) * L)]
    omega
theorem tog_blocks {U L n c : Nat} (hc : 1 ≤ c) (i : Nat) (hn : i * c ≤ n) :
    (L : Int) * togA (digs U L n) c (i * c) = 16 ^ c * sumR i (fun k => rstN U L (k * c)) - sumR i (fun k => rstN U L ((k + 1) * c)) := by
  induction i with
  | zero => rw [Nat.zero_mul, togA]; simp [sumR]
  | succ i ih =>
    have e : (i + 1) * c = i * c + c := by rw [Nat.add_mul, Nat.one_mul]
    rw [e] at hn ⊢
    rw [tog_in hc i c (Nat.le_refl _) (ih (by omega)) hn, sumR_succ, sumR_succ, Int.mul_add, e, Nat.sub_self, Int.pow_zero, Int.one_mul]
    omega
theorem sum_shift (g : Nat → Int) (n : Nat) : sumR n (fun k => g (k + 1)) = sumR n g - g 0 + g n := by
  induction n with
  | zero => rw [sumR_zero, sumR_zero]; omega
  | succ n ih => rw [sumR_succ, sumR_succ, ih]; omega
theorem tog_law {U L n c q : Nat} (d : Draw U L n) (hc : 1 ≤ c) (hn : n = q * c) : togA (digs U L n) c n * (L : Int) = (16 ^ c - 1) * sumR q (fun k => rstN U L (k * c)) := by
  have h := tog_blocks (U := U) (L := L) hc q (Nat.le_of_eq hn.symm)
  rw [← hn, sum_shift (fun k => (rstN U L (k * c) : Int)), ← hn, Nat.zero_mul] at h
  have p := rst_per (U := U) d.per 0
  rw [Nat.zero_add] at p
  rw [Int.mul_comm, h, p, Int.sub_mul]; omega
theorem tog_half {U L n c : Nat} (d : Draw U L n) (hc : 1 ≤ c) (hn : n = 2 * c) : togA (digs U L n) c n = 16 ^ c - 1 ↔ 16 ^ c % L = L - 1 := by
  have hl := d.l2
  have h := tog_law d hc hn
  have hs : sumR 2 (fun k => rstN U L (k * c)) = ((rstN U L c + rstN U L 0 : Nat) : Int) := by
    rw [sumR_succ, sumR_succ, sumR_zero, Nat.one_mul, Nat.zero_mul]; omega
  rw [hs] at h
  rw [← sum_L_iff d c]
  have hp : (2 : Int) ≤ 16 ^ c := by
    obtain ⟨m, rfl⟩ : ∃ m, c = m + 1 := ⟨c - 1, by omega⟩
    have : (0 : Int) < 16 ^ m := Int.pow_pos (by decide)
    rw [Int.pow_succ]; omega
  constructor
  · intro e
    rw [e] at h
    have := Int.eq_of_mul_eq_mul_left (show (16 : Int) ^ c - 1 ≠ 0 by omega) h
    omega
  · intro e
    rw [e] at h
    exact Int.eq_of_mul_eq_mul_right (show (L : Int) ≠ 0 by omega) h
theorem rev_ind {P : List Nat → Prop} (h0 : P []) (h1 : ∀ ds d, P ds → P (ds ++ [d])) : ∀ (n : Nat) (ds : List Nat), ds.length = n → P ds
  | 0, ds, h => by rw [List.length_eq_zero_iff.mp h]; exact h0
  | n + 1, ds, h => by
    have hne : ds ≠ [] := by intro e; rw [e] at h; exact absurd h (by simp)
    rw [← List.dropLast_concat_getLast hne]
    exact h1 _ _ (rev_ind h0 h1 n _ (by rw [List.length_dropLast, h]; rfl))
/-- what figures are worth -/
def worth (ds : List Nat) : Nat := ds.foldl (fun a d => 16 * a + d) 0
theorem worth_push (ds : List Nat) (d : Nat) : worth (ds ++ [d]) = 16 * worth ds + d := by rw [worth, List.foldl_append]; rfl
theorem ap_digits (ds : List Nat) : ∀ (f : Nat) (acc : Array UInt8), ds.length ≤ f → (∀ d ∈ ds, d < 16) → ∃ z k, ds = List.replicate z 0 ++ k ∧ (apA f (worth ds) acc).toList = k.map (fun d => UInt8.ofNat (65 + d)) ++ acc.toList ∧ (worth ds = 0 → k = []) := by
  refine rev_ind (P := fun ds => ∀ (f : Nat) (acc : Array UInt8), ds.length ≤ f → (∀ d ∈ ds, d < 16) → ∃ z k, ds = List.replicate z 0 ++ k ∧ (apA f (worth ds) acc).toList = k.map (fun d => UInt8.ofNat (65 + d)) ++ acc.toList ∧ (worth ds = 0 → k = [])) ?_ ?_ _ ds rfl
  · intro f acc _ _; exact ⟨0, [], rfl, by cases f <;> simp [apA, worth], fun _ => rfl⟩
  · intro ds d ih f acc hf hd
    rw [List.length_append, List.length_singleton] at hf
    obtain ⟨f, rfl⟩ : ∃ g, f = g + 1 := ⟨f - 1, by omega⟩
    have hd1 : d < 16 := hd d (by simp)
    have hds : ∀ x ∈ ds, x < 16 := fun x hx => hd x (by simp [hx])
    rw [worth_push, apA]
    by_cases h0 : 16 * worth ds + d = 0
    · rw [if_pos h0]
      obtain ⟨z, k, e1, _, e3⟩ := ih f acc (by omega) hds
      obtain rfl := e3 (by omega)
      obtain rfl : d = 0 := by omega
      refine ⟨z + 1, [], ?_, by simp, fun _ => rfl⟩
      rw [e1, List.append_nil, List.append_nil, List.replicate_succ']
    · rw [if_neg h0]
      have q1 : (16 * worth ds + d) / 16 = worth ds := by omega
      have q2 : (16 * worth ds + d) % 16 = d := by omega
      rw [q1, q2]
      obtain ⟨z, k, e1, e2, _⟩ := ih f (#[UInt8.ofNat (65 + d)] ++ acc) (by omega) hds
      refine ⟨z, k ++ [d], ?_, ?_, fun h => absurd h h0⟩
      · rw [e1, List.append_assoc]
      · rw [e2, Array.toList_append, List.map_append, List.append_assoc]; rfl
theorem worth_digs (U L : Nat) (hU : U < L) (k : Nat) : worth ((List.range k).map (digN U L)) * L + rstN U L k = 16 ^ k * U := by
  induction k with
  | zero => rw [rst_zero hU]; simp [worth]
  | succ k ih =>
    have h := rst_dig U L k
    rw [List.range_succ, List.map_append, List.map_singleton, worth_push, Nat.add_mul, Nat.pow_succ, Nat.mul_comm (16 ^ k), Nat.mul_assoc, Nat.mul_assoc, ← ih]
    omega
theorem word_worth {U L n : Nat} (d : Draw U L n) : (-((U : Int) * (16 ^ (n : Int).toNat - 1)).fdiv (L : Int)).natAbs = worth ((List.range n).map (digN U L)) := by
  have hl := d.l2
  have h := worth_digs U L d.ul n
  have p := rst_per (U := U) d.per 0
  rw [Nat.zero_add, rst_zero d.ul] at p
  rw [p] at h
  generalize worth ((List.range n).map (digN U L)) = W at h
  have e : (U : Int) * (16 ^ (n : Int).toNat - 1) = (W : Int) * L := by
    have h' : ((W * L + U : Nat) : Int) = ((16 ^ n * U : Nat) : Int) := by rw [h]
    rw [Int.natCast_add, Int.natCast_mul, Int.natCast_mul, Int.natCast_pow] at h'
    rw [Int.toNat_natCast, Int.mul_sub, Int.mul_one, Int.mul_comm (U : Int)]
    have : ((16 : Nat) : Int) = 16 := rfl
    rw [this] at h'
    omega
  rw [e, Int.fdiv_eq_ediv_of_nonneg _ (by omega), Int.mul_ediv_cancel _ (by omega)]
  omega
theorem worth_lt (ds : List Nat) : (∀ d ∈ ds, d < 16) → worth ds < 16 ^ ds.length := by
  refine rev_ind (P := fun ds => (∀ d ∈ ds, d < 16) → worth ds < 16 ^ ds.length) ?_ ?_ _ ds rfl
  · intro _; exact Nat.one_pos
  · intro ds d ih h
    have h1 := ih (fun x hx => h x (by simp [hx]))
    have h2 := h d (by simp)
    rw [worth_push, List.length_append, List.length_singleton, Nat.pow_succ]
    omega
theorem word_facts {U L n : Nat} (h : Draw U L n) : ∃ wd : Array UInt8, (-((U : Int) * (16 ^ (n : Int).toNat - 1)).fdiv (L : Int)).natAbs < 16 ^ 13 ∧ apA 13 (-((U : Int) * (16 ^ (n : Int).toNat - 1)).fdiv (L : Int)).natAbs #[] = wd ∧ wd.size ≤ n ∧ (∀ b ∈ wd, 65 ≤ b.toNat ∧ b.toNat < 81) ∧
    (List.replicate ((n : Int) - (wd.size : Int)).toNat [(0 : Int)]).flatten ++ (wd.toList.take wd.size).map (fun b => (b.toNat : Int) - 65) = digs U L n := by
  have hl := h.l2
  have hn := h.n12
  rw [word_worth h]
  have hd : ∀ d ∈ (List.range n).map (digN U L), d < 16 := by
    intro x hx
    obtain ⟨j, _, rfl⟩ := List.mem_map.mp hx
    exact dig_lt (by omega) j
  have hlt := worth_lt _ hd
  rw [List.length_map, List.length_range] at hlt
  obtain ⟨z, k, e1, e2, _⟩ := ap_digits _ 13 #[] (by rw [List.length_map, List.length_range]; omega) hd
  generalize apA 13 (worth ((List.range n).map (digN U L))) #[] = wd at e2 ⊢
  have hk : ∀ d ∈ k, d < 16 := fun d hd' => hd d (by rw [e1]; simp [hd'])
  have hlen : n = z + k.length := by
    have := congrArg List.length e1
    rw [List.length_map, List.length_range, List.length_append, List.length_replicate] at this
    exact this
  rw [List.append_nil] at e2
  have hsz : wd.size = k.length := by rw [← Array.length_toList, e2, List.length_map]
  refine ⟨wd, Nat.lt_of_lt_of_le hlt (Nat.pow_le_pow_right (by decide) (by omega)), rfl, by omega, ?_, ?_⟩
  · intro b hb
    rw [← Array.mem_toList_iff, e2] at hb
    obtain ⟨x, hx, rfl⟩ := List.mem_map.mp hb
    have := hk x hx
    rw [UInt8.toNat_ofNat']
    omega
  · have e3 : ((n : Int) - (wd.size : Int)).toNat = z := by omega
    have e4 : wd.toList.take wd.size = wd.toList := List.take_of_length_le (by rw [Array.length_toList]; exact Nat.le_refl _)
    have e5 : digs U L n = ((List.range n).map (digN U L)).map (fun d : Nat => (d : Int)) := by rw [digs, List.map_map]; rfl
    rw [e3, e4, e2, e5, e1, List.map_append, List.map_map, List.map_replicate]
    congr 1
    · induction z with
      | zero => rfl
      | succ z ih => rw [List.replicate_succ, List.flatten_cons, List.replicate_succ]; simp
    · refine List.map_congr_left fun x hx => ?_
      have := hk x hx
      simp only [Function.comp_apply]
      rw [UInt8.toNat_ofNat']
      omega
def vl (l : List UInt8) : Int := l.foldl (fun a b => 16 * a + ((b.toNat : Int) - 65)) 0
theorem vl_from (l : List UInt8) (a : Int) : l.foldl (fun a b => 16 * a + ((b.toNat : Int) - 65)) a = a * 16 ^ l.length + vl l := by
  induction l generalizing a with
  | nil => simp [vl]
  | cons b r ih =>
    rw [vl, List.foldl_cons, List.foldl_cons, ih, ih (16 * 0 + _), List.length_cons, Int.pow_succ, Int.mul_comm (16 ^ r.length) 16, ← Int.mul_assoc, Int.mul_zero, Int.zero_add, Int.add_mul, Int.mul_comm a 16]
    omega
theorem ap_val : ∀ (f N : Nat) (acc : Array UInt8), N < 16 ^ f → vl (apA f N acc).toList = N * 16 ^ acc.size + vl acc.toList
  | 0, N, acc, h => by
    have : N = 0 := by rw [Nat.pow_zero] at h; omega
    subst this
    rw [apA]; simp
  | f + 1, N, acc, h => by
    rw [apA]
    by_cases h0 : N = 0
    · rw [if_pos h0, h0]; simp
    · rw [if_neg h0, ap_val f (N / 16) _ (by rw [Nat.pow_succ] at h; omega)]
      have e : vl (#[UInt8.ofNat (65 + N % 16)] ++ acc).toList = ((N % 16 : Nat) : Int) * 16 ^ acc.size + vl acc.toList := by
        rw [Array.toList_append, List.singleton_append, vl, List.foldl_cons, vl_from, Array.length_toList, UInt8.toNat_ofNat']
        congr 2
        omega
      have e2 : (#[UInt8.ofNat (65 + N % 16)] ++ acc).size = acc.size + 1 := by rw [Array.size_append]; exact Nat.add_comm _ _
      have e3 : (N : Int) = 16 * ((N / 16 : Nat) : Int) + ((N % 16 : Nat) : Int) := by omega
      rw [e, e2, Int.pow_succ, Int.mul_comm (16 ^ acc.size) 16, ← Int.mul_assoc, ← Int.add_assoc, ← Int.add_mul, Int.mul_comm _ 16, ← e3]
theorem vl_full (c : Nat) : vl (List.replicate c 80) = 16 ^ c - 1 := by
  induction c with
  | zero => rfl
  | succ c ih =>
    rw [List.replicate_succ, vl, List.foldl_cons, vl_from, ih, List.length_replicate, Int.pow_succ]
    have : ((80 : UInt8).toNat : Int) = 80 := rfl
    rw [this]; omega
theorem ap_full : ∀ c : Fin 7, apA 13 (16 ^ c.val - 1) #[] = Array.replicate c.val 80 := by decide +kernel
theorem ap_P {N : Nat} (h : N < 16 ^ 13) (c : Nat) (hc : c ≤ 6) : apA 13 N #[] = Array.replicate c 80 ↔ (N : Int) = 16 ^ c - 1 := by
  constructor
  · intro e
    have h1 := ap_val 13 N #[] h
    rw [e, Array.toList_replicate, vl_full] at h1
    simp [vl] at h1
    omega
  · intro e
    have e2 : N = 16 ^ c - 1 := by
      have h1 : (1 : Nat) ≤ 16 ^ c := Nat.pow_pos (by decide)
      have h2 : ((16 ^ c - 1 : Nat) : Int) = 16 ^ c - 1 := by
        rw [Int.natCast_sub h1, Int.natCast_pow]; rfl
      omega
    rw [e2]
    exact ap_full ⟨c, by omega⟩
end Mine
end
section
open PySem PySem.W PySem.Calls PyProof.Rows
namespace Mine
/-- the prices of a shift -/
def toldS (U L n c : Nat) : PySem.Str := Txt.join "" ((List.range ((digs U L n).map sgn).length).map (priceS ((digs U L n).map sgn) c))
/-- how often a price stands among all -/
def cntS (U L n j : Nat) : Int := (Txt.count (Txt.join "" ((List.range n).map fun j => toldS U L n (j + 1))) ⟨#[48 + j]⟩)
/-- the price of two figures -/
def prN (a b : Nat) : Nat := if a = b then 0 else if a + b = 15 then 1 else 2
theorem lower_all : ∀ a : Fin 16, Txt.lower (sgn (a.val : Int)) = ⟨#[if a.val < 8 then 97 + a.val else 112 - a.val]⟩ := by decide +kernel
theorem sgn_all : ∀ a : Fin 16, sgn (a.val : Int) = ⟨#[if a.val < 8 then 65 + a.val else 112 - a.val]⟩ := by decide +kernel
theorem str_one (x y : Nat) : ((⟨#[x]⟩ : PySem.Str) == ⟨#[y]⟩) = (x == y) := by
  by_cases h : x = y
  · subst h; simp
  · have h2 : (⟨#[x]⟩ : PySem.Str) ≠ ⟨#[y]⟩ := by
      intro e
      apply h
      have := congrArg (fun s : PySem.Str => s.cps.toList) e
      simpa using this
    rw [beq_eq_false_iff_ne.mpr h2, beq_eq_false_iff_ne.mpr h]
theorem price_sgn {a b : Nat} (ha : a < 16) (hb : b < 16) : priceOf (sgn (a : Int)) (sgn (b : Int)) = (prN a b : Int) := by
  have s1 := sgn_all ⟨a, ha⟩
  have s2 := sgn_all ⟨b, hb⟩
  have l1 := lower_all ⟨a, ha⟩
  have l2 := lower_all ⟨b, hb⟩
  dsimp only at s1 s2 l1 l2
  unfold priceOf
  rw [l1, l2, s1, s2, str_one, str_one]
  unfold prN
  by_cases e : a = b
  · subst e; simp
  · have h1 : ((if a < 8 then 65 + a else 112 - a) == (if b < 8 then 65 + b else 112 - b)) = false := by
      rw [beq_eq_false_iff_ne]; split <;> split <;> omega
    rw [h1, if_neg (by decide), if_neg e]
    by_cases e2 : a + b = 15
    · have h2 : ((if a < 8 then 97 + a else 112 - a) == (if b < 8 then 97 + b else 112 - b)) = true := by
        rw [beq_iff_eq]; split <;> split <;> omega
      rw [h2, if_pos rfl, if_pos e2]; rfl
    · have h2 : ((if a < 8 then 97 + a else 112 - a) == (if b < 8 then 97 + b else 112 - b)) = false := by
        rw [beq_eq_false_iff_ne]; split <;> split <;> omega
      rw [h2, if_neg (by decide), if_neg e2]; rfl
theorem pr_txt {a b : Nat} : (Str.ofString (toString (prN a b : Int))).cps.toList = [48 + prN a b] := by
  unfold prN
  split
  · decide
  · split <;> decide
theorem sgns_getD {U L n j : Nat} (h : j < n) : ((digs U L n).map sgn).getD j Str.empty = sgn (digN U L j : Int) := by
  rw [digs, List.map_map, List.getD_eq_getElem?_getD, List.getElem?_map, List.getElem?_range h]; rfl
theorem sgns_len (U L n : Nat) : ((digs U L n).map sgn).length = n := by rw [List.length_map, digs_len]
theorem price_at {U L n : Nat} (d : Draw U L n) {c p : Nat} (hp : p < n) : (priceS ((digs U L n).map sgn) c p).cps.toList = [48 + prN (digN U L p) (digN U L (p + c))] := by
  have hl : 0 < L := by have := d.l2; omega
  unfold priceS
  rw [sgns_len, sgns_getD hp, sgns_getD (Nat.mod_lt _ (by omega)), dig_mod d.per, price_sgn (dig_lt hl _) (dig_lt hl _)]
  exact pr_txt
theorem join_cps (l : List PySem.Str) : (Txt.join "" l).cps.toList = (l.map fun t => t.cps.toList).flatten := by
  show (Builtin.Str.glued "" l).cps.toList = _
  rw [StrLaws.glued_eq_join]
  induction l with
  | nil => rfl
  | cons x r ih =>
    cases r with
    | nil => rw [join_one]; simp
    | cons y r =>
      have e : ("" : PySem.Str).cps.toList = [] := by kernel_rfl
      rw [join_cons_cons, cps_toList_append, cps_toList_append, ih, e, List.append_nil]; rfl
theorem flat_ones {α β : Type} (g : α → List β) (f : α → β) : ∀ l : List α, (∀ x ∈ l, g x = [f x]) → (l.map g).flatten = l.map f
  | [], _ => rfl
  | x :: r, h => by
    rw [List.map_cons, List.flatten_cons, h x (List.mem_cons_self ..), flat_ones g f r fun y hy => h y (List.mem_cons_of_mem _ hy)]; rfl
theorem told_cps {U L n : Nat} (d : Draw U L n) (c : Nat) : (toldS U L n c).cps.toList = (List.range n).map fun p => 48 + prN (digN U L p) (digN U L (p + c)) := by
  unfold toldS
  rw [join_cps, sgns_len, List.map_map]
  exact flat_ones _ _ _ fun p hp => price_at d (List.mem_range.mp hp)
theorem told_len {U L n : Nat} (d : Draw U L n) (c : Nat) : (toldS U L n c).length = n := by
  show (toldS U L n c).cps.size = n
  rw [← Array.length_toList, told_cps d, List.length_map, List.length_range]
theorem told_fit {U L n : Nat} (d : Draw U L n) : ((((List.range n).map fun j => toldS U L n (j + 1))).map (·.length)).sum + ((List.range n).map fun j => toldS U L n (j + 1)).length * Str.length "" ≤ 16777216 := by
  have h : ∀ m : Nat, ((((List.range m).map fun j => toldS U L n (j + 1))).map (·.length)).sum ≤ 12 * m := by
    intro m
    induction m with
    | zero => exact Nat.le_refl _
    | succ m ih =>
      have h1 := told_len d (m + 1)
      have h2 := d.n12
      rw [List.range_succ, List.map_append, List.map_append, List.sum_append, List.map_singleton, List.map_singleton, List.sum_singleton, h1]
      omega
  have h1 := h n
  have h2 := d.n12
  show _ + _ * 0 ≤ _
  omega
theorem mul_txt (k n : Nat) : (Txt.mul ⟨#[k]⟩ (n : Int)).cps.toList = List.replicate n k := by rw [mul_one_list, Int.toNat_natCast]
theorem str_eq_iff (x y : PySem.Str) : (x == y) = true ↔ x.cps.toList = y.cps.toList := by
  rw [beq_iff_eq]
  constructor
  · intro h; rw [h]
  · intro h
    cases x; cases y
    simpa using h
theorem told_mul {U L n : Nat} (d : Draw U L n) (c k : Nat) : (toldS U L n c == Txt.mul ⟨#[48 + k]⟩ (n : Int)) = true ↔ ∀ p, p < n → prN (digN U L p) (digN U L (p + c)) = k := by
  rw [str_eq_iff, told_cps d, mul_txt]
  constructor
  · intro h p hp
    have := congrArg (fun l => l[p]?) h
    simp [hp] at this
    omega
  · intro h
    refine List.ext_getElem (by simp) fun i h1 h2 => ?_
    have := h i (by simpa using h1)
    simp [this]
theorem pow_mod (L c : Nat) : ((16 : Int) ^ (c : Int).toNat).fmod (L : Int) = ((16 ^ c % L : Nat) : Int) := by
  rw [Int.toNat_natCast, Int.fmod_eq_emod_of_nonneg _ (by omega), Int.natCast_emod, Int.natCast_pow]; rfl
theorem told_zero {U L n : Nat} (d : Draw U L n) (c : Nat) : (toldS U L n c == Txt.mul ⟨#[48]⟩ (n : Int)) = (((16 : Int) ^ (c : Int).toNat).fmod (L : Int) == 1) := by
  rw [pow_mod, Bool.eq_iff_iff, told_mul d c 0, beq_iff_eq]
  have h := shift_iff d c
  constructor
  · intro h1
    have := h.mp fun p hp => by
      have := h1 p hp
      unfold prN at this
      split at this
      · omega
      · split at this <;> omega
    omega
  · intro h1 p hp
    have := h.mpr (by omega) p hp
    rw [this, prN, if_pos rfl]
theorem told_one {U L n : Nat} (d : Draw U L n) (c : Nat) : (toldS U L n c == Txt.mul ⟨#[49]⟩ (n : Int)) = (((16 : Int) ^ (c : Int).toNat).fmod (L : Int) == (L : Int) - 1) := by
  rw [pow_mod, Bool.eq_iff_iff, told_mul d c 1, beq_iff_eq]
  have hl := d.l2
  have h := anti_iff d c
  constructor
  · intro h1
    have := h.mp fun p hp => by
      have := h1 p hp
      unfold prN at this
      split at this
      · omega
      · split at this <;> omega
    omega
  · intro h1 p hp
    have := h.mpr (by omega) p hp
    rw [prN, if_neg (by omega), if_pos (by omega)]
theorem shift_law {U L n c : Nat} (d : Draw U L n) (hc : 1 ≤ c) (hcn : c ≤ n) : ((((List.range n).map fun j => toldS U L n (j + 1)).getD ((c : Int) - 1).toNat Str.empty == Txt.mul "0" (n : Int)) == (((16 : Int) ^ (c : Int).toNat).fmod (L : Int) == 1) && (((List.range n).map fun j => toldS U L n (j + 1)).getD ((c : Int) - 1).toNat Str.empty == Txt.mul "1" (n : Int)) == (((16 : Int) ^ (c : Int).toNat).fmod (L : Int) == (L : Int) - 1)) = true := by
  have e : ((List.range n).map fun j => toldS U L n (j + 1)).getD ((c : Int) - 1).toNat Str.empty = toldS U L n c := by
    have h1 : ((c : Int) - 1).toNat = c - 1 := by omega
    have h2 : c - 1 < n := by omega
    have h3 : c - 1 + 1 = c := by omega
    rw [h1, List.getD_eq_getElem?_getD, List.getElem?_map, List.getElem?_range h2]
    simp [h3]
  have e0 : ("0" : PySem.Str) = ⟨#[48]⟩ := by kernel_rfl
  have e1 : ("1" : PySem.Str) = ⟨#[49]⟩ := by kernel_rfl
  rw [e, e0, e1, told_zero d c, told_one d c]
  simp
theorem sumR_congr {n : Nat} {f g : Nat → Int} (h : ∀ i, i < n → f i = g i) : sumR n f = sumR n g := by
  unfold sumR
  rw [List.map_congr_left fun i hi => h i (List.mem_range.mp hi)]
theorem sumR_add (n : Nat) (f g : Nat → Int) : sumR n (fun i => f i + g i) = sumR n f + sumR n g := by
  induction n with
  | zero => rfl
  | succ n ih => rw [sumR_succ, sumR_succ, sumR_succ, ih]; omega
theorem sumR_const (n : Nat) (k : Int) : sumR n (fun _ => k) = n * k := by
  induction n with
  | zero => rw [sumR_zero]; simp
  | succ n ih => rw [sumR_succ, ih, Int.natCast_add, Int.add_mul]; simp
theorem sumR_swap (m : Nat) (F : Nat → Nat → Int) (n : Nat) : sumR n (fun c => sumR m fun p => F c p) = sumR m (fun p => sumR n fun c => F c p) := by
  induction n with
  | zero =>
    rw [sumR_zero]
    have : sumR m (fun p => sumR 0 fun c => F c p) = sumR m (fun _ => 0) := rfl
    rw [this, sumR_const]; simp
  | succ n ih =>
    rw [sumR_succ, ih, ← sumR_add]
    exact sumR_congr fun p _ => (sumR_succ n _).symm
theorem sumR_rot {n : Nat} {g : Nat → Int} (h : ∀ x, g (x + n) = g x) (m : Nat) : sumR n (fun c => g (c + m)) = sumR n g := by
  induction m with
  | zero => rfl
  | succ m ih =>
    have e := sum_shift (fun k => g (k + m)) n
    rw [ih] at e
    have e2 : g (n + m) = g m := by rw [Nat.add_comm, h]
    have e3 : sumR n (fun k => g (k + 1 + m)) = sumR n (fun c => g (c + (m + 1))) := sumR_congr fun k _ => by rw [Nat.add_assoc, Nat.add_comm 1 m]
    rw [e3, Nat.zero_add, e2] at e
    omega
theorem cnt_map (k : Nat) (f : Nat → Nat) (n : Nat) : cnt k ((List.range n).map f) = sumR n (fun p => if f p = k then 1 else 0) := by
  induction n with
  | zero => rfl
  | succ n ih => rw [List.range_succ, List.map_append, cnt_append, ih, sumR_succ, List.map_singleton, cnt_cons, cnt_nil]; omega
theorem cnt_flat (k : Nat) (g : Nat → List Nat) (n : Nat) : cnt k ((List.range n).map g).flatten = sumR n (fun c => cnt k (g c)) := by
  induction n with
  | zero => rfl
  | succ n ih => rw [List.range_succ, List.map_append, List.flatten_append, cnt_append, ih, sumR_succ, List.map_singleton]; simp
theorem cnt_all {U L n : Nat} (d : Draw U L n) (j : Nat) : cntS U L n j = sumR n (fun p => sumR n fun q => if prN (digN U L p) (digN U L q) = j then 1 else 0) := by
  unfold cntS
  rw [count_cnt, join_cps, List.map_map, cnt_flat]
  have e : sumR n (fun c => cnt (48 + j) (((fun t : PySem.Str => t.cps.toList) ∘ fun j => toldS U L n (j + 1)) c)) = sumR n (fun c => sumR n fun p => if prN (digN U L p) (digN U L (c + (p + 1))) = j then 1 else 0) := by
    refine sumR_congr fun c _ => ?_
    simp only [Function.comp_apply]
    rw [told_cps d, cnt_map]
    refine sumR_congr fun p _ => ?_
    have e : p + (c + 1) = c + (p + 1) := by omega
    rw [e]
    by_cases h : prN (digN U L p) (digN U L (c + (p + 1))) = j
    · rw [if_pos h, if_pos (by omega)]
    · rw [if_neg h, if_neg (by omega)]
  rw [e, sumR_swap]
  refine sumR_congr fun p _ => ?_
  exact sumR_rot (g := fun q => if prN (digN U L p) (digN U L q) = j then 1 else 0) (fun x => by rw [dig_per d.per]) (p + 1)
theorem count_digs (U L n : Nat) (k : Int) : (List.count k (digs U L n) : Int) = sumR n (fun q => if (digN U L q : Int) = k then 1 else 0) := by
  unfold digs
  induction n with
  | zero => rfl
  | succ n ih =>
    rw [List.range_succ, List.map_append, List.count_append, Int.natCast_add, ih, sumR_succ, List.map_singleton, List.count_singleton]
    by_cases h : (digN U L n : Int) = k
    · rw [if_pos h, if_pos (by rw [h]; exact beq_self_eq_true _)]; rfl
    · rw [if_neg h, if_neg (by simpa using h)]; rfl
theorem counts_law {U L n : Nat} (d : Draw U L n) : (List.range 3).map (cntS U L n) = dealtA (digs U L n) := by
  have hl : 0 < L := by have := d.l2; omega
  have ea : ((digs U L n).map fun k => (List.count k (digs U L n) : Int)).sum = cntS U L n 0 := by
    rw [cnt_all d]
    have e : ((digs U L n).map fun k => (List.count k (digs U L n) : Int)) = (List.range n).map fun p => (List.count (digN U L p : Int) (digs U L n) : Int) := by
      rw [show (digs U L n).map (fun k => (List.count k (digs U L n) : Int)) = ((List.range n).map fun j => (digN U L j : Int)).map (fun k => (List.count k (digs U L n) : Int)) from rfl, List.map_map]; rfl
    rw [e]
    show sumR n _ = _
    refine sumR_congr fun p _ => ?_
    rw [count_digs]
    refine sumR_congr fun q _ => ?_
    unfold prN
    by_cases h : digN U L p = digN U L q
    · rw [if_pos (by omega), if_pos h, if_pos rfl]
    · rw [if_neg (by omega), if_neg h]
      split <;> rfl
  have eb : ((digs U L n).map fun k => (List.count (15 - k) (digs U L n) : Int)).sum = cntS U L n 1 := by
    rw [cnt_all d]
    have e : ((digs U L n).map fun k => (List.count (15 - k) (digs U L n) : Int)) = (List.range n).map fun p => (List.count (15 - (digN U L p : Int)) (digs U L n) : Int) := by
      rw [show (digs U L n).map (fun k => (List.count (15 - k) (digs U L n) : Int)) = ((List.range n).map fun j => (digN U L j : Int)).map (fun k => (List.count (15 - k) (digs U L n) : Int)) from rfl, List.map_map]; rfl
    rw [e]
    show sumR n _ = _
    refine sumR_congr fun p _ => ?_
    rw [count_digs]
    refine sumR_congr fun q _ => ?_
    unfold prN
    by_cases h : digN U L p = digN U L q
    · rw [if_pos h, if_neg (by omega), if_neg (by decide)]
    · rw [if_neg h]
      by_cases h2 : digN U L p + digN U L q = 15
      · rw [if_pos h2, if_pos (by omega), if_pos rfl]
      · rw [if_neg h2, if_neg (by omega), if_neg (by decide)]
  have ec : cntS U L n 0 + cntS U L n 1 + cntS U L n 2 = (n : Int) * n := by
    rw [cnt_all d, cnt_all d, cnt_all d, ← sumR_add, ← sumR_add, ← sumR_const n (n : Int)]
    refine sumR_congr fun p _ => ?_
    rw [← sumR_add, ← sumR_add]
    have e1 : (n : Int) = sumR n (fun _ => 1) := by rw [sumR_const]; omega
    refine Eq.trans ?_ e1.symm
    refine sumR_congr fun q _ => ?_
    unfold prN
    split
    · rfl
    · split <;> rfl
  unfold dealtA
  rw [ea, eb, digs_len]
  have e2 : (n : Int) ^ Int.toNat 2 = (n : Int) * n := by
    show (n : Int) ^ 2 = _
    rw [Int.pow_succ, Int.pow_succ, Int.pow_zero, Int.one_mul]
  rw [e2, ← ec]
  have e3 : cntS U L n 0 + cntS U L n 1 + cntS U L n 2 - cntS U L n 0 - cntS U L n 1 = cntS U L n 2 := by omega
  rw [e3]; rfl
end Mine
end
section
open PySem PySem.W PySem.Calls PyProof.Rows
namespace Mine
theorem least_of (p : Nat → Prop) : ∀ n, 1 ≤ n → p n → ∃ m, 1 ≤ m ∧ m ≤ n ∧ p m ∧ ∀ k, 1 ≤ k → k < m → ¬ p k := by
  intro n
  induction n using Nat.strongRecOn with
  | ind n ih =>
    intro h1 hp
    by_cases h : ∃ k, 1 ≤ k ∧ k < n ∧ p k
    · obtain ⟨k, hk1, hk2, hk3⟩ := h
      obtain ⟨m, a, b, c, d⟩ := ih k hk2 hk1 hk3
      exact ⟨m, a, by omega, c, d⟩
    · exact ⟨n, h1, Nat.le_refl _, hp, fun k a b c => h ⟨k, a, b, c⟩⟩
theorem mod_one_of_dvd {L k : Nat} (hL : 2 ≤ L) (h : (L : Int) ∣ 16 ^ k + 1 ∨ (L : Int) ∣ 16 ^ k - 1) : 16 ^ (2 * k) % L = 1 := by
  have e : ((16 ^ (2 * k) : Nat) : Int) - 1 = (16 ^ k + 1) * (16 ^ k - 1) := by
    rw [Int.natCast_pow, Nat.two_mul, Int.pow_add]
    generalize ((16 : Nat) : Int) ^ k = x
    rw [Int.add_mul, Int.mul_sub]
    omega
  have hd : (L : Int) ∣ ((16 ^ (2 * k) : Nat) : Int) - 1 := by
    rw [e]
    rcases h with h | h
    · exact Int.dvd_trans h (Int.dvd_mul_right _ _)
    · exact Int.dvd_trans h (Int.dvd_mul_left _ _)
  have h1 : 1 ≤ 16 ^ (2 * k) := Nat.pow_pos (by decide)
  generalize 16 ^ (2 * k) = X at *
  obtain ⟨c, hc⟩ := hd
  have hc0 : 0 ≤ c := by
    rcases Int.lt_or_le c 0 with h | h
    · have h3 : c ≤ -1 := by omega
      have h4 := Int.mul_le_mul_of_nonneg_left h3 (show 0 ≤ (L : Int) by omega)
      omega
    · exact h
  obtain ⟨c, rfl⟩ := Int.eq_ofNat_of_zero_le hc0
  have hx : X = 1 + L * c := by
    have : (X : Int) = 1 + ((L * c : Nat) : Int) := by rw [Int.natCast_mul]; omega
    omega
  rw [hx, Nat.add_mul_mod_self_left]
  exact Nat.mod_eq_of_lt (by omega)
theorem reduce {b d : Int} (h1 : 1 ≤ b) (h2 : b < d) (hlow : LowOk d) : ((Int.gcd b d : Int) ≠ 0 ∧ 0 ≤ (Int.gcd b d : Int) ∧ (Int.gcd b d : Int) ≤ 16777217) ∧ ∃ U L n : Nat, b.fdiv (Int.gcd b d : Int) = (U : Int) ∧ d.fdiv (Int.gcd b d : Int) = (L : Int) ∧ Draw U L n := by
  have hb := low_bound hlow
  obtain ⟨B, rfl⟩ := Int.eq_ofNat_of_zero_le (show 0 ≤ b by omega)
  obtain ⟨D, rfl⟩ := Int.eq_ofNat_of_zero_le (show 0 ≤ d by omega)
  have hg : Int.gcd (B : Int) (D : Int) = Nat.gcd B D := rfl
  rw [hg]
  have hG : 0 < Nat.gcd B D := Nat.gcd_pos_of_pos_left _ (by omega)
  have hGb := Nat.gcd_le_left D (show 0 < B by omega)
  refine ⟨⟨by omega, by omega, by omega⟩, B / Nat.gcd B D, D / Nat.gcd B D, ?_⟩
  have hB := Nat.div_mul_cancel (Nat.gcd_dvd_left B D)
  have hD := Nat.div_mul_cancel (Nat.gcd_dvd_right B D)
  have hco := Nat.coprime_div_gcd_div_gcd hG
  have e1 : (B : Int).fdiv (Nat.gcd B D : Int) = ((B / Nat.gcd B D : Nat) : Int) := by rw [Int.fdiv_eq_ediv_of_nonneg _ (by omega), Int.natCast_ediv]
  have e2 : (D : Int).fdiv (Nat.gcd B D : Int) = ((D / Nat.gcd B D : Nat) : Int) := by rw [Int.fdiv_eq_ediv_of_nonneg _ (by omega), Int.natCast_ediv]
  rw [e1, e2]
  generalize Nat.gcd B D = G at *
  generalize hU : B / G = U at *
  generalize hL : D / G = L at *
  have hu1 : 1 ≤ U := by
    rcases Nat.eq_zero_or_pos U with h | h
    · subst h; omega
    · exact h
  have hul : U < L := by
    rcases Nat.lt_or_ge U L with h | h
    · exact h
    · have := Nat.mul_le_mul_right G h; omega
  have hl2 : 2 ≤ L := by omega
  have hlb : L ≤ 16777217 := by
    have : L * 1 ≤ L * G := Nat.mul_le_mul_left _ hG
    omega
  obtain ⟨_, k, hk1, hk2, hk3⟩ := hlow
  have hLd : (L : Int) ∣ (D : Int) := ⟨(G : Int), by rw [← Int.natCast_mul, hD]⟩
  have hp := mod_one_of_dvd (k := k) hl2 (hk3.imp (Int.dvd_trans hLd) (Int.dvd_trans hLd))
  obtain ⟨n, n1, n2, n3, n4⟩ := least_of (fun n => 16 ^ n % L = 1) (2 * k) (by omega) hp
  exact ⟨n, rfl, rfl, hl2, hu1, hul, hco, hlb, n1, by omega, n3, n4⟩
theorem draw_per {U L n : Nat} (d : Draw U L n) : (16 : Int) ^ n % (L : Int) = 1 := by
  have := d.per
  have e : (16 : Int) ^ n % (L : Int) = ((16 ^ n % L : Nat) : Int) := by rw [Int.natCast_emod, Int.natCast_pow]; rfl
  rw [e, this]; rfl
theorem draw_lst {U L n : Nat} (d : Draw U L n) : ∀ k : Nat, 1 ≤ k → k < n → (16 : Int) ^ k % (L : Int) ≠ 1 := by
  intro k h1 h2 h
  have e : (16 : Int) ^ k % (L : Int) = ((16 ^ k % L : Nat) : Int) := by rw [Int.natCast_emod, Int.natCast_pow]; rfl
  rw [e] at h
  exact d.lst k h1 h2 (by omega)
end Mine
end
section

open PySem PySem.W PySem.Calls PyProof.Rows
set_option maxRecDepth 100000
namespace Mine
local macro_rules | `(tactic| walk_at "execs cons") => `(tactic| (k_here; refine gen_tok ?_; intro tkk; (with_reducible refine wpAny_execs_cons ?_); (try dsimp only)))
local macro_rules | `(tactic| walk_at "execs nil") => `(tactic| (k_here; refine gen_tok ?_; intro tkk; (with_reducible refine wpAny_execs_nil ?_); (try dsimp only)))
local macro_rules | `(tactic| walk_at "binaryOp FloorDiv int int") => `(tactic| (k_here; refine floordiv_int (by assumption) ?_ (Or.inl (PyProof.noPylong_small (by omega)))))
local macro_rules | `(tactic| walk_at "call ref") => `(tactic| (k_here; refine Stop.go ?_))
local macro_rules | `(tactic| walk_at "eval ListComp") => `(tactic| (k_here; (with_reducible show wpAny _ _ (eval (Expr.ListComp _ [⟨Expr.Name (PySem.Str.ofString "octet") _, _, _, _⟩] _ _) _) _ _ _); refine Stop.go ?_))
local macro_rules | `(tactic| walk_at "eval ListComp") => `(tactic| (k_here; (with_reducible show wpAny _ _ (eval (Expr.ListComp _ [⟨Expr.Name (PySem.Str.ofString "count") _, _, _, _⟩] _ _) _) _ _ _); refine Stop.go ?_))
local macro_rules | `(tactic| walk_at "eval ListComp") => `(tactic| (k_here; (with_reducible show wpAny _ _ (eval (Expr.ListComp _ [⟨Expr.Name (PySem.Str.ofString "price") _, _, _, _⟩] _ _) _) _ _ _); refine Stop.go ?_))
local macro_rules | `(tactic| walk_at "subscriptTail Name Slice ref ref") => `(tactic| (k_here; (with_reducible show wpAny _ _ (subscriptTail _ (PySem.Expr.Slice none none (some _) _) (Value.ref _) (Value.ref _)) _ _ _); refine Stop.go ?_))
local macro_rules | `(tactic| walk_at "TurnEnd") => `(tactic| (refine TurnEnd.intro (by assumption) (by assumption) (by intro p hp; repeat (first | exact hp | refine List.Mem.tail _ ?_)) (by intro z h1 h2; (simp only [List.contains_cons, List.contains_nil, Bool.or_false, Bool.or_eq_false_iff, beq_eq_false_iff_ne, ne_eq] at h2); (simp [h1, h2]; done))))
local macro_rules | `(tactic| walk_at "pyIter ref") => `(tactic| (k_here; (with_reducible show wpAny _ _ (pyIter (Value.ref _)) (fun it s₂ => LoopAtV _ _ _ _ _ _ _ _ _ it s₂) _ _); refine Stop.go ?_))
local macro_rules | `(tactic| walk_at "pyIter") => `(tactic| (k_here; (with_reducible show wpAny _ _ (pyIter (Value.ref _)) (fun it s₂ => LoopAtV _ _ _ _ _ _ _ _ _ it s₂) _ _); refine Stop.go ?_))
local macro_rules | `(tactic| walk_at "exec Assign cons ListComp") => `(tactic| (k_here; refine Stop.go ?_))
abbrev Claim3 (w : World) (f : Addr) (l : Addr) (vs : List Value) (vals : List Value) (Ret : Heap → Heap → Addr → (PySem.Str → Option Value) → Shared → (Value → Shared → Prop) → Prop) : Prop :=
  ∀ (mean : ExcName → Option Value) (mg mb : PySem.Str → Option Value) (dp un : Nat) (gd : Option (List Code)) (cn : PySem.Str) (cs : Scope) (a : Addr) (ccd : Value) (cl : List (PySem.Str × Addr)) (outer : List Env) (A₀ : Around) (base h₀ : Heap) (L : Addr) (m : PySem.Str → Option Value) (s : Shared) (Q E : Value → Shared → Prop),
    Below A₀ base outer h₀ → Fr h₀ L s.heap m → (KK w).In h₀ → h₀.IsList l vs.toArray → News h₀ L s.heap [] → TopM mean mg mb h₀ → cs.kind = .function → dp + 60 < recursionLimit → un + 700 < cLine →
    Ret h₀ s.heap L m s Q →
      wpAny (model PR w) (ktrTop dp un gd cn cs L a ccd cl outer) (call (.ref f) vals) Q E s
abbrev RetT (_h₀ _h : Heap) (_L : Addr) (_m : PySem.Str → Option Value) (_s : Shared) (Q : Value → Shared → Prop) : Prop :=
  ∀ s', Q (.bool true) s'
theorem total_bound (ns : List Int) : 0 ≤ ((ns.take 12).map fun k => k.fmod (10 ^ Int.toNat 6)).sum ∧ ((ns.take 12).map fun k => k.fmod (10 ^ Int.toNat 6)).sum < 12000000 := by
  have h : ∀ l : List Int, 0 ≤ (l.map fun k => k.fmod (10 ^ Int.toNat 6)).sum ∧ (l.map fun k => k.fmod (10 ^ Int.toNat 6)).sum ≤ 999999 * l.length := by
    intro l
    induction l with
    | nil => exact ⟨Int.le_refl _, Int.le_refl _⟩
    | cons a r ih =>
      have e : (10 : Int) ^ Int.toNat 6 = 1000000 := by decide
      have h1 : 0 ≤ a.fmod 1000000 := Int.fmod_nonneg_of_pos _ (by decide)
      have h2 : a.fmod 1000000 < 1000000 := Int.fmod_lt_of_pos _ (by decide)
      rw [e] at ih ⊢
      rw [List.map_cons, List.sum_cons, List.length_cons]
      omega
  have h1 := h (ns.take 12)
  have h2 : (ns.take 12).length ≤ 12 := by rw [List.length_take]; omega
  omega
theorem begun_bound (T : Int) {d : Int} (h : 2 ≤ d) : 1 ≤ 1 + (1234 + 37 * T).fmod (d - 1) ∧ 1 + (1234 + 37 * T).fmod (d - 1) < d := by
  have h1 : 0 ≤ (1234 + 37 * T).fmod (d - 1) := Int.fmod_nonneg_of_pos _ (by omega)
  have h2 : (1234 + 37 * T).fmod (d - 1) < d - 1 := Int.fmod_lt_of_pos _ (by omega)
  omega
theorem news_tail3 {h₀ h : Heap} {L : Addr} {a b c : Addr × Obj} {r : List (Addr × Obj)} (N : News h₀ L h (a :: b :: c :: r)) : News h₀ L h r := fun p hp => N p (List.mem_cons_of_mem _ (List.mem_cons_of_mem _ (List.mem_cons_of_mem _ hp)))
theorem ints_push {us : List Value} {ss : List Int} (h : IntsAre us ss) (y : Int) (t : Tok) : IntsAre (us ++ [.int y t]) (ss ++ [y]) := by
  induction h with
  | nil => exact .cons y t .nil
  | cons a b _ ih => exact .cons a b ih
theorem ints_step {wd : Array UInt8} {i : Nat} {oct : UInt8} {ys : List Value} {t : Tok} (h : IntsAre ys ((wd.toList.take i).map fun b => (b.toNat : Int) - 65)) (ho : wd[i]? = some oct) : IntsAre (ys ++ [.int ((oct.toNat : Int) - 65) t]) ((wd.toList.take (i + 1)).map fun b => (b.toNat : Int) - 65) := by
  have h1 : wd.toList[i]? = some oct := by rw [Array.getElem?_toList]; exact ho
  rw [List.take_add_one, h1, Option.toList_some, List.map_append, List.map_singleton]
  exact ints_push h _ _
theorem rests_step {U L i : Nat} {ys : List Value} {t : Tok} (h : IntsAre ys ((List.range i).map fun j => (rstN U L j : Int))) : IntsAre (ys ++ [.int (((U : Int) * 16 ^ ((0 : Int) + (i : Int)).toNat).fmod (L : Int)) t]) ((List.range (i + 1)).map fun j => (rstN U L j : Int)) := by
  rw [List.range_succ, List.map_append, List.map_singleton]
  have e : ((U : Int) * 16 ^ ((0 : Int) + (i : Int)).toNat).fmod (L : Int) = (rstN U L i : Int) := by
    rw [Int.fmod_eq_emod_of_nonneg _ (by omega), rstN, Int.natCast_emod, Int.natCast_mul, Int.natCast_pow]
    have : ((0 : Int) + (i : Int)).toNat = i := by omega
    rw [this]; rfl
  rw [e]
  exact ints_push h _ _
theorem prices_ok' (w : World) (news : List (Addr × Obj)) (l : Addr) (vs : List Value) (ss : List PySem.Str) (c : Nat) (k : Nat) (kk : Int) (u : Tok) (hkk : kk = (k : Int)) (hi : StrsAre vs ss) (hn : ss.length ≤ 12) (hk : 1 ≤ k) (hk2 : k ≤ ss.length) (hshort : ∀ j, j < ss.length → (ss.getD j Str.empty).cps.size ≤ 100) :
    Claim2 w 107 ((l, listOf vs.toArray c) :: news) [.ref l, .int kk u] (RetS ((l, listOf vs.toArray c) :: news) (Txt.join "" ((List.range ss.length).map (priceS ss k)))) := by
  subst hkk
  exact prices_ok w news l vs ss c k u hi hn hk hk2 hshort
theorem news_upL {h₀ h : Heap} {L : Addr} {a : Addr × Obj} {r : List (Addr × Obj)} (hm : a ∈ r) (N : News h₀ L h r) : News h₀ L h (a :: r) := fun p hp => by
  rcases List.mem_cons.mp hp with rfl | hp
  · exact N _ hm
  · exact N p hp
theorem sgn_one (f : Int) : (sgn f).cps.size = 1 := by unfold sgn; split <;> rfl
theorem sgn_short (fs : List Int) : ∀ j, j < (fs.map sgn).length → ((fs.map sgn).getD j Str.empty).cps.size ≤ 100 := by
  intro j hj
  rw [List.length_map] at hj
  have e : (fs.map sgn).getD j Str.empty = sgn fs[j] := by simp [List.getD, hj]
  rw [e, sgn_one]; decide
theorem cnt_step {U L n i ch : Nat} {ys : List Value} {t : Tok} (h : IntsAre ys ((List.range i).map (cntS U L n))) (hc : ("012" : PySem.Str).cps[i]? = some ch) : IntsAre (ys ++ [.int (Txt.count (Txt.join "" ((List.range n).map fun j => toldS U L n (j + 1))) ⟨#[ch]⟩) t]) ((List.range (i + 1)).map (cntS U L n)) := by
  have h3 : ("012" : PySem.Str).cps = #[48, 49, 50] := by kernel_rfl
  rw [h3] at hc
  have e : ch = 48 + i := by
    match i, hc with
    | 0, hc => exact (Option.some.inj hc).symm
    | 1, hc => exact (Option.some.inj hc).symm
    | 2, hc => exact (Option.some.inj hc).symm
    | i + 3, hc => simp at hc
  subst e
  rw [List.range_succ, List.map_append, List.map_singleton]
  exact ints_push h _ _
theorem cnt_three : ("012" : PySem.Str).cps.size = 3 := by kernel_rfl
theorem ap_ok' (w : World) (news : List (Addr × Obj)) (x : Int) (t : Tok) (wd : Array UInt8) (hx : x.natAbs < 16 ^ 13) (he : apA 13 x.natAbs #[] = wd) : Claim w 28 news [.int x t] (RetB news wd) := he ▸ ap_ok w news x t hx
theorem news_skip3 {h₀ h : Heap} {L : Addr} {a b c d : Addr × Obj} {r : List (Addr × Obj)} (N : News h₀ L h (a :: b :: c :: d :: r)) : News h₀ L h (a :: r) := fun p hp => by
  refine N p ?_
  rcases List.mem_cons.mp hp with rfl | hp
  · exact List.mem_cons_self ..
  · exact List.mem_cons_of_mem _ (List.mem_cons_of_mem _ (List.mem_cons_of_mem _ (List.mem_cons_of_mem _ hp)))
theorem picked_ints {vs : List Value} {ns : List Int} (hi : IntsAre vs ns) : ∀ js : List Nat, (∀ j ∈ js, j < ns.length) → IntsAre (js.filterMap (vs.toArray[·]?)) (js.map fun j => ns.getD j 0)
  | [], _ => .nil
  | j :: js, h => by
    have hj := h j (List.mem_cons_self ..)
    obtain ⟨t, ht⟩ := hi.get j (ns.getD j 0) (by simp [List.getD, hj])
    have e : vs.toArray[j]? = some (.int (ns.getD j 0) t) := by rw [List.getElem?_toArray]; exact ht
    rw [List.filterMap_cons, e, List.map_cons]
    exact .cons _ _ (picked_ints hi js fun j hj => h j (List.mem_cons_of_mem _ hj))
theorem stepped {vs : List Value} {f : Nat → Int} {n c q : Nat} (hi : IntsAre vs ((List.range n).map f)) (hc : 1 ≤ c) (hn : n = q * c) :
    IntsAre (slicePick vs.toArray none none (some (c : Int))).toList ((List.range q).map fun k => f (k * c)) := by
  have hlen : vs.length = n := by rw [hi.length, List.length_map, List.length_range]
  have e1 : sliceRange 0 (n : Int) (c : Int) = (List.range q).map fun k => k * c := by
    unfold sliceRange
    have h1 : (c : Int) > 0 := by omega
    have h2 : (if (0 : Int) < n then ((n : Int) - 0 + c - 1) / c else 0) = (q : Int) := by
      have h3 : ((n : Int) - 0 + c - 1) / c = q := by
        have : ((n : Int) - 0 + c - 1) = (c - 1) + (q : Int) * c := by
          have : (n : Int) = (q : Int) * c := by rw [hn, Int.natCast_mul]
          omega
        rw [this, Int.add_mul_ediv_right _ _ (by omega), Int.ediv_eq_zero_of_lt (by omega) (by omega)]
        omega
      rw [h3]
      split
      · rfl
      · have : n = 0 := by omega
        rw [this] at hn
        rcases Nat.mul_eq_zero.mp hn.symm with h | h
        · rw [h]; rfl
        · omega
    simp only [h1, if_true, h2, Int.toNat_natCast]
    refine List.map_congr_left fun k _ => ?_
    rw [Int.zero_add, ← Int.natCast_mul, Int.toNat_natCast, Nat.mul_comm]
  have e2 : sliceBounds none none (some (c : Int)) vs.toArray.size = (0, (n : Int), (c : Int)) := by
    have h1 : (c : Int) > 0 := by omega
    rw [List.size_toArray, hlen]
    simp only [sliceBounds, Option.getD_some, h1, if_true]
  unfold slicePick
  rw [e2]
  show IntsAre ((sliceRange 0 (n : Int) (c : Int)).filterMap (vs.toArray[·]?)) _
  rw [e1]
  have h := picked_ints hi ((List.range q).map fun k => k * c) (fun j hj => by
    obtain ⟨k, hk, rfl⟩ := List.mem_map.mp hj
    rw [List.length_map, List.length_range, hn]
    exact Nat.mul_lt_mul_of_pos_right (List.mem_range.mp hk) hc)
  rw [List.map_map] at h
  have e3 : (List.range q).map ((fun j => ((List.range n).map f).getD j 0) ∘ fun k => k * c) = (List.range q).map fun k => f (k * c) := by
    refine List.map_congr_left fun k hk => ?_
    have : k * c < n := by rw [hn]; exact Nat.mul_lt_mul_of_pos_right (List.mem_range.mp hk) hc
    simp only [Function.comp_apply]
    rw [List.getD_eq_getElem?_getD, List.getElem?_map, List.getElem?_range this]; rfl
  rw [e3] at h
  exact h
section
variable {prog : Program} {w : World} {A : Around} {E : Value → Shared → Prop} {s : Shared}
theorem step_K {h₀ : Heap} {L l : Addr} {m : PySem.Str → Option Value} {news : List (Addr × Obj)} {value slice : PySem.Expr} {vs : List Value} {f : Nat → Int} {n c q : Nat} {u : Tok} {ops : List Value} {Q : Value → Shared → Prop}
    (F : Fr h₀ L s.heap m) (N : News h₀ L s.heap news) (hl : s.heap.IsList l vs.toArray) (hi : IntsAre vs ((List.range n).map f)) (hc : 1 ≤ c) (hn : n = q * c) (hn2 : n ≤ 12)
    (h : ∀ D ws h', Fr h₀ L h' m → News h₀ L h' ((D, listOf (List.toArray ws) 0) :: news) → (∀ p ∈ news, p.1 < D) → IntsAre ws ((List.range q).map fun k => f (k * c)) → Q (.ref D) { s with heap := h' })
    (hs : subscripted slice false (.ref l) (.ref s.heap.objs.size) = operate ops (getItem (.ref l) (.ref s.heap.objs.size))) (ht : ∀ r, letTemporaryGo value (.ref l) r = pure ()) :
    wpAny (model prog w) A (subscriptTail value slice (.ref l) (.ref s.heap.objs.size)) Q E { s with heap := s.heap.push { cls := .type "slice", data := .fields #[.none, .none, .int (c : Int) u] } } := by
  refine kmk_slice3_lit F N hl .none .none (.int _ _) (by intro e; have := Option.some.inj e; omega) rfl (fun D h' F' N' l1 => h D _ h' F' N' l1 (stepped hi hc hn)) hs ht ?_
  rw [List.size_toArray, hi.length, List.length_map, List.length_range]
  exact Nat.le_trans hn2 (by decide)
theorem item_told {value slice : PySem.Expr} {l : Addr} {vs : List Value} {Up Lo n c : Nat} {u : Tok} {Q : Value → Shared → Prop} (hl : s.heap.IsList l vs.toArray) (hi : StrsAre vs ((List.range n).map fun j => toldS Up Lo n (j + 1)))
    (hc1 : 1 ≤ c) (hcn : c ≤ n) (hn : n ≤ 12) (h : ∀ t, Q (.str (toldS Up Lo n c) t) s)
    (hs : subscripted slice false (.ref l) (.int ((c : Int) - 1) u) = operate [.ref l, .int ((c : Int) - 1) u] (getItem (.ref l) (.int ((c : Int) - 1) u)) := by with_unfolding_all rfl) :
    wpAny (model prog w) A (subscriptTail value slice (.ref l) (.int ((c : Int) - 1) u)) Q E s := by
  have e : ((List.range n).map fun j => toldS Up Lo n (j + 1)).getD (c - 1) Str.empty = toldS Up Lo n c := by
    have h1 : c - 1 < n := by omega
    rw [List.getD_eq_getElem?_getD, List.getElem?_map, List.getElem?_range h1]
    have h2 : c - 1 + 1 = c := by omega
    simp [h2]
  have hlen : ((List.range n).map fun j => toldS Up Lo n (j + 1)).length = n := by rw [List.length_map, List.length_range]
  exact item_strK (j := c - 1) hl hi (by omega) (by rw [hlen]; omega) (by rw [hlen]; exact Nat.lt_of_le_of_lt hn (by decide)) (by rw [e]; exact h) hs
end
theorem is_list_in {h₀ h : Heap} {L l : Addr} {vs : Array Value} {c : Nat} {news : List (Addr × Obj)} (N : News h₀ L h news) (hm : (l, listOf vs c) ∈ news) : h.IsList l vs := ⟨_, (N _ hm).1, rfl, c, rfl⟩
theorem rests_sum {U L n c q : Nat} (d : Draw U L n) (hc : 1 ≤ c) (hq : n = q * c) : 0 ≤ ((List.range q).map fun k => (rstN U L (k * c) : Int)).sum ∧ ((List.range q).map fun k => (rstN U L (k * c) : Int)).sum ≤ 201326604 := by
  have h : ∀ q : Nat, 0 ≤ ((List.range q).map fun k => (rstN U L (k * c) : Int)).sum ∧ ((List.range q).map fun k => (rstN U L (k * c) : Int)).sum ≤ 16777217 * q := by
    intro q
    induction q with
    | zero => exact ⟨Int.le_refl _, Int.le_refl _⟩
    | succ q ih =>
      have h1 := rst_lt (U := U) (show 0 < L by have := d.l2; omega) (q * c)
      have h2 := d.lb
      rw [List.range_succ, List.map_append, List.sum_append, List.map_singleton, List.sum_singleton]
      omega
  have h1 := h q
  have h2 : q ≤ n := by rw [hq]; exact Nat.le_mul_of_pos_right _ hc
  have h3 := d.n12
  omega
theorem tog_same {U L n c q : Nat} (d : Draw U L n) (hc : 1 ≤ c) (hq : n = q * c) : togA (digs U L n) c (digs U L n).length * (L : Int) = (16 ^ (c : Int).toNat - 1) * ((List.range q).map fun k => (rstN U L (k * c) : Int)).sum := by
  rw [digs_len, Int.toNat_natCast]
  exact tog_law d hc hq
theorem tog_bound {U L n c : Nat} (d : Draw U L n) (hc : 1 ≤ c) (hq : n = 2 * c) : 0 ≤ togA (digs U L n) c (digs U L n).length ∧ (togA (digs U L n) c (digs U L n).length).natAbs < 16 ^ 13 := by
  have h := tog_law d hc hq
  have hl := d.l2
  rw [digs_len]
  have hs : sumR 2 (fun k => rstN U L (k * c)) = ((rstN U L c + rstN U L 0 : Nat) : Int) := by
    rw [sumR_succ, sumR_succ, sumR_zero, Nat.one_mul, Nat.zero_mul]; omega
  rw [hs] at h
  have a := rst_lt (U := U) (show 0 < L by omega) c
  have b := rst_lt (U := U) (show 0 < L by omega) 0
  have hp : (1 : Int) ≤ 16 ^ c := Int.add_one_le_of_lt (Int.pow_pos (by decide))
  have hp2 : (16 : Int) ^ c ≤ 16 ^ 6 := by
    have hc6 : c ≤ 6 := by have := d.n12; omega
    exact_mod_cast Nat.pow_le_pow_right (show 0 < 16 by decide) hc6
  generalize togA (digs U L n) c n = T at h ⊢
  generalize (16 : Int) ^ c = P at h hp hp2
  have h0 : 0 ≤ T * (L : Int) := by rw [h]; exact Int.mul_nonneg (by omega) (by omega)
  have h1 : T * (L : Int) ≤ (2 * (P - 1)) * L := by
    rw [h, Int.mul_comm 2, Int.mul_assoc]
    exact Int.mul_le_mul_of_nonneg_left (by omega) (by omega)
  have h2 : T ≤ 2 * (P - 1) := Int.le_of_mul_le_mul_right h1 (by omega)
  have h3 : 0 ≤ T := by
    rcases Int.lt_or_le T 0 with h | h
    · have := Int.mul_lt_mul_of_pos_right h (show 0 < (L : Int) by omega)
      omega
    · exact h
  have e : (16 : Int) ^ 6 = 16777216 := by decide
  rw [e] at hp2
  have e2 : (16 : Nat) ^ 13 = 4503599627370496 := by decide
  rw [e2]
  omega
theorem half_law {U L n c : Nat} (d : Draw U L n) (hc : 1 ≤ c) (hq : n = 2 * c) : (((apA 13 (togA (digs U L n) c (digs U L n).length).natAbs #[]).toList == (List.replicate (c : Int).toNat [(80 : UInt8)]).flatten.toArray.toList) != (((16 : Int) ^ (c : Int).toNat).fmod (L : Int) == (L : Int) - 1)) = false := by
  obtain ⟨h0, h1⟩ := tog_bound d hc hq
  have hP := ap_P h1 c (by have := d.n12; omega)
  have hT := tog_half d hc hq
  rw [digs_len] at h0 h1 hP ⊢
  have e1 : (List.replicate (c : Int).toNat [(80 : UInt8)]).flatten.toArray.toList = List.replicate c 80 := by
    rw [Int.toNat_natCast]
    show (List.replicate c [(80 : UInt8)]).flatten = _
    induction c with
    | zero => rfl
    | succ c _ => rw [List.flatten_replicate_singleton]
  have e2 : ((16 : Int) ^ (c : Int).toNat).fmod (L : Int) = ((16 ^ c % L : Nat) : Int) := by
    rw [Int.toNat_natCast, Int.fmod_eq_emod_of_nonneg _ (by omega), Int.natCast_emod, Int.natCast_pow]; rfl
  rw [e1, e2]
  have hl := d.l2
  have hN : ((togA (digs U L n) c n).natAbs : Int) = togA (digs U L n) c n := by omega
  rw [hN] at hP
  by_cases h : togA (digs U L n) c n = 16 ^ c - 1
  · have a := hP.mpr h
    have b := hT.mp h
    rw [a, b, Array.toList_replicate]
    have e3 : ((L - 1 : Nat) : Int) = (L : Int) - 1 := by omega
    simp [e3]
  · have a := fun x => h (hP.mp x)
    have b := fun x => h (hT.mpr x)
    have a' : ((apA 13 (togA (digs U L n) c n).natAbs #[]).toList == List.replicate c 80) = false := by
      rw [beq_eq_false_iff_ne]
      intro e
      apply a
      rw [← Array.toArray_toList (xs := apA 13 (togA (digs U L n) c n).natAbs #[]), e]
      simp
    have b' : (((16 ^ c % L : Nat) : Int) == (L : Int) - 1) = false := by
      rw [beq_eq_false_iff_ne]
      intro e
      exact b (by omega)
    rw [a', b']; rfl
theorem gate {M : Model} {A : Around} {x : Sem Flow} {G : Flow → Shared → Prop} {E : Value → Shared → Prop} {s : Shared} {hB : Heap} {L : Addr} {m : PySem.Str → Option Value} (_F : Fr hB L s.heap m)
    (hG : ∀ (h' : Heap) (tk : Nat) (m' : PySem.Str → Option Value), Fr hB L h' m' → G (.ret (.bool true)) { s with heap := h', toks := tk })
    (h : ∀ Qo : Flow → Shared → Prop, (∀ (h' : Heap) (tk : Nat) (m' : PySem.Str → Option Value), Fr hB L h' m' → Qo (.ret (.bool true)) { s with heap := h', toks := tk }) → wpAny M A x Qo E s) : wpAny M A x G E s := h G hG
set_option maxHeartbeats 8000000 in
theorem top : PySem.Challenge.rw_tr0047_01.Holds := by
  w_on
  o_law
  refine holds_open (q := qV) (loose := loose0) (Xt := xt0) (XP := XL qV []) (Yf := Hook.obs (kHook fr.heap_1 as0 (fun _ => by kernel_rfl))) (Ya := Hook.val (kHook fr.heap_1 as0 (fun _ => by kernel_rfl))) (YP := Hook.says (kHook fr.heap_1 as0 (fun _ => by kernel_rfl))) (N := 13100) left_ok
    (Hook.of (kHook fr.heap_1 as0 (fun _ => by kernel_rfl))) (Hook.keeps (kHook fr.heap_1 as0 (fun _ => by kernel_rfl))) (fun s e => xl_of s (Bool.and_eq_true_iff.mp e).1) XL.keeps (by rfl) (by rfl) (by rfl) (fun s e => recFacts_of (Bool.and_eq_true_iff.mp e).2) (by rfl) (by first | assumption | decide +kernel) (by decide +kernel) ⟨rfl, rfl, rfl, rfl, rfl, by decide +kernel⟩ ?hw ?hc
  case hw => w_witness2
  case hc =>
    w_strict (
      k_go0
      (all_goals try k_fold)
      rename Fr _ _ _ _ => F0
      refine gate F0 ?hG (fun Qo hret => ?_)
      case hG =>
        intro h' tk' m' F'
        refine goodW_bool (by assumption) (by assumption) (raisesW_false ?_) ?_
        · wrow_none_raised
        · wrow_post
      rename List Int => ns
      rename World => w
      repeat (with_reducible rename _ = true => e9; clear e9)
      k_steps
      refine ⟨?_⟩
      have hT := total_bound ns
      rename Fr _ _ _ _ => F1
      rename News _ _ _ _ => N1
      generalize ((ns.take 12).map fun k => k.fmod (10 ^ Int.toNat 6)).sum = T at hT F1 ⊢
      obtain ⟨hT0, hT1⟩ := hT
      refine' lower_ok w _ _ _ hT0 hT1 _ _ _ _ _ _ _ _ _ _ _ _ _ _ _ _ _ _ _ _ (by assumption) F1 (by assumption) N1 (by assumption) (by first | rfl | assumption) (by (try dsimp only [ktrTop, Around.deeper]); first | omega | decide) (by (try dsimp only [ktrTop, Around.deeper]); first | omega | decide) ?_
      intro drawn td h2 tk2 hlow F2 N2
      clear F1 N1
      have hdb := low_bound hlow
      obtain ⟨hd0, hd1⟩ := hdb
      have hdz : drawn - 1 ≠ 0 := by omega
      k_steps
      refine ⟨?_⟩
      rename Fr _ _ _ _ => F1
      rename News _ _ _ _ => N1
      have hb := begun_bound T hd0
      obtain ⟨hb0, hb1⟩ := hb
      have hR := reduce hb0 hb1 hlow
      obtain ⟨⟨hg0, hg1, hg2⟩, Up, Lo, n, hU, hL, hD⟩ := hR
      refine' common_ok w _ _ _ _ _ (by omega) (by omega) _ _ _ _ _ _ _ _ _ _ _ _ _ _ _ _ _ _ _ _ (by assumption) F1 (by assumption) N1 (by assumption) (by first | rfl | assumption) (by (try dsimp only [ktrTop, Around.deeper]); first | omega | decide) (by (try dsimp only [ktrTop, Around.deeper]); first | omega | decide) ?_
      intro tg h3 tk3 F2 N2
      clear F1 N1
      generalize (Int.gcd (1 + (1234 + 37 * T).fmod (drawn - 1)) drawn : Int) = g at hg0 hg1 hg2 hU hL F2 ⊢
      k_steps
      refine ⟨?_⟩
      rename Fr _ _ _ _ => F1
      rename News _ _ _ (_ :: _ :: _ :: _) => N1
      with_reducible rename _ = Data.cell (some (Value.int ((1 + (1234 + 37 * T).fmod (drawn - 1)).fdiv g) _)) => dU
      with_reducible rename _ = Data.cell (some (Value.int (drawn.fdiv g) _)) => dL
      rw [hU] at dU
      rw [hL] at dL ⊢
      replace N1 := news_tail3 N1
      have hl2 := hD.l2
      have hlb := hD.lb
      have hu1 := hD.u1
      have hul := hD.ul
      have hn1 := hD.n1
      have hn12 := hD.n12
      clear hU hL
      refine' length_ok w _ _ n _ (by omega) (draw_per hD) (draw_lst hD) hn1 hn12 _ _ _ _ _ _ _ _ _ _ _ _ _ _ _ _ _ _ _ _ (by assumption) F1 (by assumption) N1 (by assumption) (by first | rfl | assumption) (by (try dsimp only [ktrTop, Around.deeper]); first | omega | decide) (by (try dsimp only [ktrTop, Around.deeper]); first | omega | decide) ?_
      intro tn h4 tk4 F2 N2
      clear F1 N1
      have hL0 : (Lo : Int) ≠ 0 := by omega
      have hL1 : (Lo : Int) ≤ 16777217 := by omega
      have hU1 : (Up : Int) ≤ 16777217 := by omega
      k_steps
      refine ⟨?_⟩
      rename Fr _ _ _ _ => F1
      rename News _ _ _ _ => N1
      have hwx := word_facts hD
      obtain ⟨wd, hwd0, hwd, hw1, hw2, hfig⟩ := hwx
      refine' ap_ok' w _ _ _ wd hwd0 hwd _ _ _ _ _ _ _ _ _ _ _ _ _ _ _ _ _ _ _ _ (by assumption) F1 (by assumption) N1 (by assumption) (by first | rfl | assumption) (by (try dsimp only [ktrTop, Around.deeper]); first | omega | decide) (by (try dsimp only [ktrTop, Around.deeper]); first | omega | decide) ?_
      intro tw h5 tk5 F2 N2
      clear F1 N1
      k_steps
      refine ⟨?_⟩
      rename Fr _ _ _ _ => F1
      rename News _ _ _ _ => N1
      refine' ListComp_G F1 ?c1 ?c2 ?c3 ?c4 ?c5 ?_ ?c6
      case c1 => with_unfolding_all rfl
      case c2 => decide
      case c3 => rfl
      case c4 => decide
      case c5 => kernel_rfl
      case c6 => intro _; rfl
      k_steps
      refine' GSrc.bytes (fun i ys nw => nw = _ ∧ IntsAre ys ((wd.toList.take i).map fun b => (b.toNat : Int) - 65)) rfl ?hsz F1 N1 ⟨rfl, .nil⟩ ?turn ?fin
      case hsz => exact Nat.le_trans hw1 (Nat.le_trans hn12 (by decide))
      case turn =>
        intro i v ys nw I oI C oC D m₂ h tk E' hlt hv hJ hC hx F2 N2 off ne
        obtain ⟨rfl, hJ⟩ := hJ
        obtain ⟨oct, u, ho, rfl⟩ := hv
        clear F1 N1
        k_steps
        rename Fr _ _ _ _ => F3
        rename News _ _ _ _ => N3
        refine LCg.CompEnd.intro F3 N3 _ (fun p hp => hp) off trivial ⟨rfl, ?_⟩
        exact ints_step hJ ho
      case fin =>
        intro g2 ys nw hJ
        obtain ⟨rfl, hJ⟩ := hJ
        clear F1 N1
        unfold LCg.FinE
        intro D2 h6 tk6 F1 N1 o1
        (try simp only [List.nil_append, List.cons_append] at N1 o1); (try simp only [LCg.Off1, and_true] at o1)
        k_steps
        refine ⟨?_⟩
        try clear F1 N1
        rename Fr _ _ _ _ => F1
        rename News _ _ _ _ => N1
        rename IntsAre _ _ => hfs
        rw [hfig] at hfs
        replace N1 := news_skip3 N1
        have hLpos : 0 < Lo := by omega
        refine' dress_ok w _ _ _ _ _ hfs (digs_in hLpos) (by rw [digs_len]; exact hn12) _ _ _ _ _ _ _ _ _ _ _ _ _ _ _ _ _ _ _ _ (by assumption) F1 (by assumption) N1 (by assumption) (by first | rfl | assumption) (by (try dsimp only [ktrTop, Around.deeper]); first | omega | decide) (by (try dsimp only [ktrTop, Around.deeper]); first | omega | decide) ?_
        intro lS us cS h7 tk7 hus hltS F2 N2
        replace hltS := allLt_of hltS
        simp only [AllLt, and_true] at hltS
        rename IntsAre _ ns => hI0
        clear F1 N1 hI0
        k_steps
        refine ⟨?_⟩
        rename Fr _ _ _ _ => F1
        rename News _ _ _ _ => N1
        refine' Assign_ListComp_G F1 ?c0 ?c00 ?c1 ?c2 ?c3 ?c4 ?c5 ?c8 ?c9 ?_ ?c10
        case c0 => rfl
        case c00 => with_unfolding_all rfl
        case c1 => with_unfolding_all rfl
        case c2 => decide
        case c3 => rfl
        case c4 => decide
        case c5 => kernel_rfl
        case c8 => rfl
        case c9 => rfl
        case c10 => intro _; rfl
        k_steps
        refine' GSrc.range (n := n) (fun i ys nw => nw = _ ∧ IntsAre ys ((List.range i).map fun j => (rstN Up Lo j : Int))) rfl (by assumption) (small_one (by omega) (by omega) (by omega) (by omega)) (by rw [rangeSize_one]; split <;> omega) (Nat.le_trans hn12 (by decide)) (by k_asm) (by k_asm) ⟨rfl, .nil⟩ ?turnR ?finR
        case turnR =>
          intro i v ys nw I oI C oC D m₂ h tk E' hlt hv hJ hC hx F2 N2 off ne
          obtain ⟨rfl, hJ⟩ := hJ
          obtain ⟨ti, rfl⟩ := hv
          try clear F1 N1
          have hi0 : (0 : Int) + (i : Int) ≤ 12 := by omega
          k_steps
          rename Fr _ _ _ _ => F3
          rename News _ _ _ _ => N3
          refine LCg.CompEnd.intro F3 N3 _ (fun p hp => hp) off trivial ⟨rfl, rests_step hJ⟩
        case finR =>
          intro g2 ys nw hJ
          obtain ⟨rfl, hrs⟩ := hJ
          try clear F1 N1
          unfold LCg.FinA
          intro D2 h6 tk6 F1 N1 o1
          (try simp only [List.nil_append, List.cons_append] at N1 o1); (try simp only [LCg.Off1, and_true] at o1)
          k_steps
          refine ⟨?_⟩
          refine wpAny_Assign_Name ?_
          k_steps
          refine ⟨?_⟩
          try rename Fr _ _ _ _ => F1
          try rename News _ _ _ _ => N1
          refine' ListComp_G F1 ?c1 ?c2 ?c3 ?c4 ?c5 ?_ ?c6
          case c1 => with_unfolding_all rfl
          case c2 => decide
          case c3 => rfl
          case c4 => decide
          case c5 => kernel_rfl
          case c6 => intro _; rfl
          k_steps
          refine' GSrc.range (n := n) (fun i ys nw => nw = _ ∧ StrsAre ys ((List.range i).map fun j => toldS Up Lo n (j + 1))) rfl (by assumption) (small_one (by omega) (by omega) (by omega) (by omega)) (by rw [rangeSize_one]; split <;> omega) (Nat.le_trans hn12 (by decide)) (by k_asm) (by k_asm) ⟨rfl, .nil⟩ ?turnR ?finR
          case turnR =>
            intro i v ys nw I oI C oC D m₂ h tk E' hlt hv hJ hC hx F2 N2 off ne
            obtain ⟨rfl, hJ⟩ := hJ
            obtain ⟨ti, rfl⟩ := hv
            try clear F1 N1
            k_steps
            refine ⟨?_⟩
            refine' prices_ok' w _ lS us _ cS (i + 1) _ _ (by omega) hus (by rw [List.length_map, digs_len]; exact hn12) (by omega) (by rw [List.length_map, digs_len]; omega) (sgn_short _) _ _ _ _ _ _ _ _ _ _ _ _ _ _ _ _ _ _ _ _ (by assumption) F2 (by assumption) (news_upL ?hmS N2) (by assumption) (by first | rfl | assumption) (by (try dsimp only [ktrTop, Around.deeper]); first | omega | decide) (by (try dsimp only [ktrTop, Around.deeper]); first | omega | decide) ?_
            case hmS => exact List.mem_cons_of_mem _ (List.mem_cons_of_mem _ (List.mem_cons_of_mem _ (List.mem_cons_of_mem _ (List.mem_cons_self ..))))
            intro tp h8 tk8 F3 N3
            try clear F2 N2
            k_steps
            rename Fr _ _ _ _ => F4
            rename News _ _ _ _ => N4
            refine LCg.CompEnd.intro F4 N4 _ (fun p hp => List.mem_cons_of_mem _ hp) off trivial ⟨rfl, ?_⟩
            rw [List.range_succ, List.map_append, List.map_singleton]
            exact strs_push hJ _ _
          case finR =>
            intro g2 ys nw hJ
            obtain ⟨rfl, htold⟩ := hJ
            try clear F1 N1
            unfold LCg.FinE
            intro D2 h6 tk6 F1 N1 o1
            (try simp only [List.nil_append, List.cons_append] at N1 o1); (try simp only [LCg.Off1, and_true] at o1)
            k_steps
            refine ⟨?_⟩
            try rename Fr _ _ _ _ => F1
            try rename News _ _ _ _ => N1
            refine' ListComp_G F1 ?c1 ?c2 ?c3 ?c4 ?c5 ?_ ?c6
            case c1 => with_unfolding_all rfl
            case c2 => decide
            case c3 => rfl
            case c4 => decide
            case c5 => kernel_rfl
            case c6 => intro _; rfl
            k_steps
            refine' GSrc.str (fun i ys nw => nw = _ ∧ IntsAre ys ((List.range i).map (cntS Up Lo n))) rfl (by decide +kernel) (by decide +kernel) (by k_asm) (by k_asm) ⟨rfl, .nil⟩ ?turnR ?finR
            case turnR =>
              intro i v ys2 nw I oI C oC D m₂ h tk E' hlt hv hJ hC hx F2 N2 off ne
              obtain ⟨rfl, hJ⟩ := hJ
              obtain ⟨ch, uch, hch, rfl⟩ := hv
              try clear F1 N1
              k_steps
              refine' join_list (items := ys.toArray) ⟨_, (N2 _ (List.mem_cons_of_mem _ (List.mem_cons_of_mem _ (List.mem_cons_of_mem _ (List.mem_cons_self ..))))).1, rfl, _, rfl⟩ htold ?hok ?_
              case hok => exact told_fit hD
              intro tj kj
              k_steps
              rename Fr _ _ _ _ => F4
              rename News _ _ _ _ => N4
              exact LCg.CompEnd.intro F4 N4 _ (fun p hp => hp) off trivial ⟨rfl, cnt_step hJ hch⟩
            case finR =>
              intro g2 ys2 nw hJ
              obtain ⟨rfl, hcnt⟩ := hJ
              try clear F1 N1
              unfold LCg.FinE
              intro D3 h6 tk6 F1 N1 o1
              (try simp only [List.nil_append, List.cons_append] at N1 o1); (try simp only [LCg.Off1, and_true] at o1)
              rw [cnt_three, counts_law hD] at hcnt
              k_steps
              refine ⟨?_⟩
              refine' dealt_ok w _ _ _ _ 0 hfs (digs_in hLpos) (by rw [digs_len]; exact hn12) _ _ _ _ _ _ _ _ _ _ _ _ _ _ _ _ _ _ _ _ (by assumption) F1 (by assumption) (news_upL ?hmD N1) (by assumption) (by first | rfl | assumption) (by (try dsimp only [ktrTop, Around.deeper]); first | omega | decide) (by (try dsimp only [ktrTop, Around.deeper]); first | omega | decide) ?_
              case hmD => exact List.mem_cons_of_mem _ (List.mem_cons_of_mem _ (List.mem_cons_of_mem _ (List.mem_cons_of_mem _ (List.mem_cons_self ..))))
              intro lq uq xq cq h9 tk9 hxq hPq hltq F2 N2
              try clear F1 N1
              subst hPq
              replace hltq := allLt_of hltq
              simp only [AllLt, and_true] at hltq
              k_steps
              try refine ⟨?_⟩
              refine' iter_rangeLawO (n := n) ["prices", "left", "together"] rfl (by assumption) (small_one (by omega) (by omega) (by omega) (by omega)) (by rw [rangeSize_one]; split <;> omega) (by k_asm) (by k_asm) ?turnL ?doneL
              case doneL =>
                intro u h tk F3 N3
                try clear F2 N2
                k_steps
                exact hret _ _ _ F3
              case turnL =>
                intro kk t u h tk oI hltI hk0 hk1 F3 N3
                replace hltI := allLt_of hltI
                simp only [AllLt, and_true] at hltI
                try clear F2 N2
                obtain ⟨c, rfl⟩ := Int.eq_ofNat_of_zero_le (show 0 ≤ kk by omega)
                have hc1 : 1 ≤ c := by omega
                have hcn : c ≤ n := by omega
                have hcn2 : c ≤ 12 := by omega
                have hsl := shift_law hD hc1 hcn
                k_steps
                focus
                  refine ⟨?_⟩
                  try rename Fr _ _ _ _ => F1
                  try rename News _ _ _ _ => N1
                  refine' together_ok w _ _ _ _ 0 c _ hfs hc1 hcn2 (by rw [digs_len]; exact hn12) (digs_in hLpos) _ _ _ _ _ _ _ _ _ _ _ _ _ _ _ _ _ _ _ _ (by assumption) F1 (by assumption) (news_upL ?hmT N1) (by assumption) (by first | rfl | assumption) (by (try dsimp only [ktrTop, Around.deeper]); first | omega | decide) (by (try dsimp only [ktrTop, Around.deeper]); first | omega | decide) ?_
                  case hmT => k_mem
                  intro tg2 h10 tk10 F4 N4
                  try clear F1 N1
                  have hmodc : (n : Int).fmod (c : Int) = 0 := by assumption
                  have hdiv : n % c = 0 := by
                    rw [Int.fmod_eq_emod_of_nonneg _ (by omega), ← Int.natCast_emod] at hmodc
                    omega
                  have hq := Nat.div_mul_cancel (Nat.dvd_of_mod_eq_zero hdiv)
                  replace hq := hq.symm
                  generalize n / c = q at hq
                  k_steps
                  refine ⟨?_⟩
                  try rename Fr _ _ _ _ => F1
                  try rename News _ _ _ _ => N1
                  refine' step_K F1 N1 ?lst2 hrs hc1 hq hn12 ?_ ?hs2 ?ht2
                  case lst2 => exact is_list_in N1 (by k_mem)
                  case hs2 => with_unfolding_all rfl
                  case ht2 => intro _; with_unfolding_all rfl
                  intro D5 ws5 h11 F2 N2 hlt5 hws5
                  replace hlt5 := allLt_of hlt5
                  simp only [AllLt, and_true] at hlt5
                  try clear F1 N1
                  k_steps
                  have hSb := rests_sum hD hc1 hq
                  have hts := tog_same hD hc1 hq
                  generalize ((List.range q).map fun k => (rstN Up Lo (k * c) : Int)).sum = zS at hSb hts ⊢
                  obtain ⟨hS0, hS1⟩ := hSb
                  k_steps
                  · exact absurd hts (by assumption)
                  · refine ⟨?_⟩
                    try rename Fr _ _ _ _ => F1
                    try rename News _ _ _ _ => N1
                    have hn2c : n = 2 * c := by
                      have : (n : Int) = 2 * (c : Int) := by assumption
                      omega
                    have htb := tog_bound hD hc1 hn2c
                    have hhl := half_law hD hc1 hn2c
                    refine' ap_ok' w _ _ _ _ htb.2 rfl _ _ _ _ _ _ _ _ _ _ _ _ _ _ _ _ _ _ _ _ (by assumption) F1 (by assumption) N1 (by assumption) (by first | rfl | assumption) (by (try dsimp only [ktrTop, Around.deeper]); first | omega | decide) (by (try dsimp only [ktrTop, Around.deeper]); first | omega | decide) ?_
                    intro tw2 h12 tk12 F2 N2
                    try clear F1 N1
                    k_steps
                    all_goals exact absurd (hhl.symm.trans (by assumption)) (show ¬ (false = true) from Bool.noConfusion))
end Mine
end
set_option maxRecDepth 100000 in
theorem PySem.Challenge.cw_tr0047_01_holds : PySem.Challenge.rw_tr0047_01.Holds := by
  exact Mine.top
