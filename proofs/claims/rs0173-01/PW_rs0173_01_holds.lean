import PyProof.Rows.All
import Wide.All
import OpenK.AllK
import Wide.FinOn
import PyProof.DictTable
import PyProof.AutoSeq1
import Lean
import PySem.Challenge.RW_rs0173_01
open PySem PySem.W PyProof.Rows PySem.Calls
set_option Elab.async false
section
open PySem PySem.W PyProof.Rows PySem.Calls
set_option Elab.async false
set_option maxRecDepth 100000
set_option linter.all false
namespace Mine
theorem none_some {α : Type} {x : α} {P : Prop} (h : none = some x) : P := nomatch h
noncomputable def hashOf (c : Code) (h : Option Value) : Option {i : Int // h = none ∧ ∃ t, c = .call (.builtin "int.__hash__") ⟨[.int i t], []⟩} := match h, c with
  | none, .call (.builtin id) ⟨[.int i t], []⟩ => if e : id = "int.__hash__" then some ⟨i, rfl, t, e ▸ rfl⟩ else none
  | _, _ => none
/-- where a run stands: the place, and the steps so far -/
structure PC where
  pos : Pos
  c : Nat
noncomputable def PC.t (p : PC) (n : Nat) : PC := ⟨p.pos, p.c + n⟩
noncomputable def PC.a (p : PC) (q : Pos) (n : Nat) : PC := ⟨q, p.c + n⟩
/-- a call-free run of a tree, the hash of an int let in -/
noncomputable def runS {α : Type} (st : Setting) : Sem α → Shared → PC → Option (α × Shared × PC)
  | .pure a, s, p => some (a, s, p)
  | .rule _ k, s, p => runS st (k ()) s (p.t 1)
  | .at q k, s, p => runS st (k ()) s (p.a q 1)
  | .load a _ k, s, p => match s.heap.get? a with
    | some o => runS st (k o) s (p.t 1)
    | none => none
  | .update a _ f k, s, p => if (11 ≤ a ∨ a = 3) ∧ (s.heap.get? a).isSome = true then runS st (k ()) { s with heap := s.heap.update a f } (p.t 1) else none
  | .alloc o k, s, p => runS st (k s.heap.objs.size) { s with heap := s.heap.push o } (p.t 1)
  | .point _ k, s, p => runS st (k ()) s (p.t 1)
  | .fresh k, s, p => runS st (k s.toks) { s with toks := s.toks + 1 } (p.t 1)
  | .ask k, s, p => runS st (k st) s (p.t 1)
  | .call c h _ _ k, s, p => match hashOf c h with
    | some i => runS st (k (.ok (.ret (.int (rawHash i.1) s.toks)))) { s with toks := s.toks + 1 } (p.t 4)
    | none => none
  | _, _, _ => none

variable {α β : Type} {st : Setting}
theorem eqLoad {a : Addr} {q} {k : Obj → Sem α} {s : Shared} {p : PC} : runS st (.load a q k) s p = (match s.heap.get? a with | some o => runS st (k o) s (p.t 1) | none => none) := by kernel_rfl
theorem eqUpdate {a : Addr} {q} {f} {k : Unit → Sem α} {s : Shared} {p : PC} : runS st (.update a q f k) s p = if (11 ≤ a ∨ a = 3) ∧ (s.heap.get? a).isSome = true then runS st (k ()) { s with heap := s.heap.update a f } (p.t 1) else none := rfl
theorem eqCall {c : Code} {h g l} {k : Result → Sem α} {s : Shared} {p : PC} : runS st (.call c h g l k) s p = (match hashOf c h with | some i => runS st (k (.ok (.ret (.int (rawHash i.1) s.toks)))) { s with toks := s.toks + 1 } (p.t 4) | none => none) := by kernel_rfl
theorem load_some {a : Addr} {q} {k : Obj → Sem α} {s : Shared} {p : PC} {r} (h : runS st (.load a q k) s p = some r) : ∃ o, s.heap.get? a = some o ∧ runS st (k o) s (p.t 1) = some r := by
  rw [eqLoad] at h
  cases e : s.heap.get? a with
  | none => rw [e] at h; exact none_some h
  | some o => rw [e] at h; exact ⟨o, rfl, h⟩
theorem update_some {a : Addr} {q} {f} {k : Unit → Sem α} {s : Shared} {p : PC} {r} (h : runS st (.update a q f k) s p = some r) :
    ((11 ≤ a ∨ a = 3) ∧ (s.heap.get? a).isSome = true) ∧ runS st (k ()) { s with heap := s.heap.update a f } (p.t 1) = some r := by
  rw [eqUpdate] at h
  by_cases c : (11 ≤ a ∨ a = 3) ∧ (s.heap.get? a).isSome = true
  · rw [if_pos c] at h; exact ⟨c, h⟩
  · rw [if_neg c] at h; exact none_some h
theorem call_some {c : Code} {h g l} {k : Result → Sem α} {s : Shared} {p : PC} {r} (e : runS st (.call c h g l k) s p = some r) :
    ∃ i, hashOf c h = some i ∧ runS st (k (.ok (.ret (.int (rawHash i.1) s.toks)))) { s with toks := s.toks + 1 } (p.t 4) = some r := by
  rw [eqCall] at e
  cases g : hashOf c h with
  | none => rw [g] at e; exact none_some e
  | some i => rw [g] at e; exact ⟨i, rfl, e⟩
theorem runS_wrap {m : Sem α} {K : α → Sem β} {H : Value → Sem β} {gd lv} {s : Shared} {p : PC} {a : α} {s' : Shared} {p' : PC} (h : runS st m s p = some (a, s', p')) :
    runS st (m.wrap K H gd lv) s p = runS st (K a) s' p' := by
  induction m generalizing s p with
  | pure a => cases h; rfl
  | load a q k ih =>
    obtain ⟨o, e, h⟩ := load_some h
    refine eqLoad.trans ?_
    rw [e]
    exact ih o h
  | update a q f k ih =>
    obtain ⟨c, h⟩ := update_some h
    refine eqUpdate.trans ?_
    rw [if_pos c]
    exact ih () h
  | rule t k ih => exact ih () h
  | «at» q k ih => exact ih () h
  | alloc o k ih => exact ih _ h
  | point l k ih => exact ih () h
  | fresh k ih => exact ih _ h
  | ask k ih => exact ih st h
  | call c hd g l k ih =>
    obtain ⟨i, e, h⟩ := call_some h
    refine eqCall.trans ?_
    rw [e]
    exact ih _ h
  | _ => exact none_some h
theorem runS_bind {m : Sem α} {f : α → Sem β} {s : Shared} {p : PC} {a : α} {s' : Shared} {p' : PC} (h : runS st m s p = some (a, s', p')) :
    runS st (m >>= f) s p = runS st (f a) s' p' := by rw [Sem.bind_eq_wrap']; exact runS_wrap h
theorem runS_keep {m : Sem α} {vs : List Value} {s : Shared} {p : PC} {r} (h : runS st m s p = some r) : runS st (m.keep vs) s p = some r := by
  obtain ⟨a, s', p'⟩ := r
  rw [Sem.keep_eq_wrap, runS_wrap h]; rfl
theorem runS_holding {m : Sem α} {vs : List Value} {s : Shared} {p : PC} {r} (h : runS st m s p = some r) : runS st (holding vs m) s p = some r := by
  rw [holding_eq_keep]; exact runS_keep h
theorem runS_onRaise {m : Sem α} {k : Value → Sem Unit} {s : Shared} {p : PC} {r} (h : runS st m s p = some r) : runS st (m.onRaise k) s p = some r := by
  obtain ⟨a, s', p'⟩ := r
  rw [Sem.onRaise_eq_wrap, runS_wrap h]; rfl
theorem runS_tryCatch {m : Sem α} {k : Value → Sem α} {s : Shared} {p : PC} {r} (h : runS st m s p = some r) : runS st (m.tryCatch k) s p = some r := by
  obtain ⟨a, s', p'⟩ := r
  rw [Sem.tryCatch_eq_wrap, runS_wrap h]; rfl

theorem hash_call (i : Int) (t : Tok) : denote treeTable (.call (.builtin "int.__hash__") ⟨[.int i t], []⟩) = .pure (.again (.builtin "int.__hash__" ⟨[.int i t], []⟩)) := by
  rw [PySem.W.Fast.te11892475500146522536, PySem.W.Fast.te14364793385576792824]; kernel_rfl
theorem hash_body (i : Int) (t : Tok) : denote treeTable (.builtin "int.__hash__" ⟨[.int i t], []⟩) = .fresh fun tk => .pure (.done (.ret (.int (rawHash i) tk))) := by
  rw [PySem.W.Fast.te11892475500146522536, PySem.W.Fast.te14364793385576792824]; kernel_rfl

section
variable {pr : Program} {w : World} {ann : Option Value} {fr : PySem.Frame}
theorem seg_step {s s' : Shared} {t t' : Thread} {N : Nat} {r} (he : endAt 1 t = none) (hk : stepOk 11 ann t = true) (hs : step (denote treeTable) pr w s t = .go s' t')
    (h : segRun treeTable pr w 11 ann 1 N s' t' = some r) : segRun treeTable pr w 11 ann 1 (N + 1) s t = some r := by
  unfold segRun
  rw [he, hk]
  simp only [hs]
  exact h
theorem seg_hash {i : Int} {t : Tok} {s : Shared} {g : Bool} {l : List Value} {k : Result → Sem Fin} {c : Code} {p : Pos} {N : Nat} {r}
    (h : segRun treeTable pr w 11 ann 1 N { s with toks := s.toks + 1 } ⟨k (.ok (.ret (.int (rawHash i) s.toks))), c, p, [fr]⟩ = some r) :
    segRun treeTable pr w 11 ann 1 (N + 1 + 1 + 1 + 1) s ⟨.call (.call (.builtin "int.__hash__") ⟨[.int i t], []⟩) none g l k, c, p, [fr]⟩ = some r := by
  obtain ⟨heap, gens, drawn, toks, os⟩ := s
  refine seg_step rfl rfl (by unfold step; rfl) ?_
  rw [hash_call]
  refine seg_step rfl ?_ PySem.W.step_again ?_
  · show (((!("int.__hash__".startsWith "lifetime.") || _) && true && true) && true) = true
    rw [show "int.__hash__".startsWith "lifetime." = false from by decide +kernel]; rfl
  rw [hash_body]
  refine seg_step rfl rfl (by unfold step; rfl) ?_
  exact seg_step rfl rfl (by unfold step; rfl) h
/-- what a run of a tree says of the machine -/
noncomputable def SegTo (pr : Program) (w : World) (ann : Option Value) (fr : PySem.Frame) (m : Sem α) (s : Shared) (p : PC) (a : α) (s' : Shared) (p' : PC) : Prop :=
    ∃ n, p'.c = p.c + n ∧ ∀ (K : α → Sem Fin) (H : Value → Sem Fin) (gd : Bool → Bool) (lv : List Value → List Value) (c : Code) (N : Nat) (r : Flow × Shared × Code × Pos),
      segRun treeTable pr w 11 ann 1 N s' ⟨K a, c, p'.pos, [fr]⟩ = some r → segRun treeTable pr w 11 ann 1 (N + n) s ⟨m.wrap K H gd lv, c, p.pos, [fr]⟩ = some r
theorem SegTo.cons {m m1 : Sem α} {s s1 s' : Shared} {p p1 p' : PC} {a : α} (h : SegTo pr w ann fr m1 s1 p1 a s' p') (hp : p1.c = p.c + 1)
    (hk : ∀ (K : α → Sem Fin) (H : Value → Sem Fin) (gd : Bool → Bool) (lv : List Value → List Value) (c : Code), endAt 1 ⟨m.wrap K H gd lv, c, p.pos, [fr]⟩ = none ∧ stepOk 11 ann ⟨m.wrap K H gd lv, c, p.pos, [fr]⟩ = true)
    (hs : ∀ (K : α → Sem Fin) (H : Value → Sem Fin) (gd : Bool → Bool) (lv : List Value → List Value) (c : Code), step (denote treeTable) pr w s ⟨m.wrap K H gd lv, c, p.pos, [fr]⟩ = .go s1 ⟨m1.wrap K H gd lv, c, p1.pos, [fr]⟩) : SegTo pr w ann fr m s p a s' p' := by
  obtain ⟨n, hc, hn⟩ := h
  exact ⟨n + 1, by rw [hc, hp, Nat.add_assoc, Nat.add_comm 1 n], fun K H gd lv c N r hr => seg_step (hk K H gd lv c).1 (hk K H gd lv c).2 (hs K H gd lv c) (hn K H gd lv c N r hr)⟩
theorem SegTo.run {m : Sem α} : ∀ {s : Shared} {p : PC} {a : α} {s' : Shared} {p' : PC}, runS ⟨pr, w.params⟩ m s p = some (a, s', p') → SegTo pr w ann fr m s p a s' p' := by
  induction m with
  | pure a => intro s p a s' p' h; cases h; exact ⟨0, rfl, fun K H gd lv c N r h => h⟩
  | load a q k ih =>
    intro s p a' s' p' h
    obtain ⟨o, e, h⟩ := load_some h
    refine (ih o h).cons rfl (fun _ _ _ _ _ => ⟨rfl, rfl⟩) fun K H gd lv c => ?_
    obtain ⟨heap, gens, drawn, toks, os⟩ := s
    simp only [Sem.wrap, step]
    rw [show heap.get? a = some o from e]
    rfl
  | update a q f k ih =>
    intro s p a' s' p' h
    obtain ⟨c, h⟩ := update_some h
    refine (ih () h).cons rfl (fun _ _ _ _ _ => ⟨rfl, ?_⟩) fun K H gd lv cc => ?_
    · show (true && (((Nat.ble 11 a || a == mainNs) || a == cStatics) || _)) = true
      rcases c.1 with h | h
      · rw [Nat.ble_eq_true_of_le h]; rfl
      · subst h; rfl
    · obtain ⟨heap, gens, drawn, toks, os⟩ := s
      simp only [Sem.wrap, step]
      rw [if_pos c.2]
      rfl
  | rule t k ih => intro s p a' s' p' h; exact (ih () h).cons rfl (fun _ _ _ _ _ => ⟨rfl, rfl⟩) fun K H gd lv c => by cases s; rfl
  | «at» q k ih => intro s p a' s' p' h; exact (ih () h).cons rfl (fun _ _ _ _ _ => ⟨rfl, rfl⟩) fun K H gd lv c => by cases s; rfl
  | alloc o k ih => intro s p a' s' p' h; exact (ih _ h).cons rfl (fun _ _ _ _ _ => ⟨rfl, rfl⟩) fun K H gd lv c => by cases s; rfl
  | point l k ih => intro s p a' s' p' h; exact (ih () h).cons rfl (fun _ _ _ _ _ => ⟨rfl, rfl⟩) fun K H gd lv c => by cases s; rfl
  | fresh k ih => intro s p a' s' p' h; exact (ih _ h).cons rfl (fun _ _ _ _ _ => ⟨rfl, rfl⟩) fun K H gd lv c => by cases s; rfl
  | ask k ih => intro s p a' s' p' h; exact (ih _ h).cons rfl (fun _ _ _ _ _ => ⟨rfl, rfl⟩) fun K H gd lv c => by cases s; rfl
  | call c hd g l k ih =>
    intro s p a' s' p' h
    obtain ⟨⟨i, rfl, t, rfl⟩, -, h⟩ := call_some h
    obtain ⟨n, hc, hn⟩ := ih _ h
    exact ⟨n + 1 + 1 + 1 + 1, hc.trans (by show p.c + 4 + n = p.c + (n + 4); rw [Nat.add_assoc, Nat.add_comm 4 n]), fun K H gd lv cc N r hr => seg_hash (N := N + n) (hn K H gd lv cc N r hr)⟩
  | _ => intro s p a' s' p' h; exact none_some h
theorem runS_seg {m : Sem α} {s : Shared} {p : PC} {a : α} {s' : Shared} {p' : PC} (h : runS ⟨pr, w.params⟩ m s p = some (a, s', p')) :
    ∃ n, p'.c = p.c + n ∧ ∀ (K : α → Sem Fin) (H : Value → Sem Fin) (gd : Bool → Bool) (lv : List Value → List Value) (c : Code) (N : Nat) (r : Flow × Shared × Code × Pos),
      segRun treeTable pr w 11 ann 1 N s' ⟨K a, c, p'.pos, [fr]⟩ = some r → segRun treeTable pr w 11 ann 1 (N + n) s ⟨m.wrap K H gd lv, c, p.pos, [fr]⟩ = some r := SegTo.run h
end
end Mine

end
section
open PySem PySem.W PyProof.Rows PySem.Calls
set_option Elab.async false
set_option maxRecDepth 100000
set_option linter.all false
namespace Mine
variable {st : Setting} {s : Shared} {p : PC}
theorem runS_pure {α : Type} (a : α) : runS st (pure a : Sem α) s p = some (a, s, p) := rfl
theorem runS_load {a : Addr} {q : Option Value} {o : Obj} (h : s.heap.get? a = some o) : runS st (loadPart a q) s p = some (o, s, p.t 1) := by
  refine eqLoad.trans ?_; rw [h]; rfl
theorem runS_hcall (i : Int) (t : Tok) : runS st (call (.builtin "int.__hash__") [.int i t]) s p = some (.int (rawHash i) s.toks, { s with toks := s.toks + 1 }, p.t 4) := by
  have h1 : runS st (run (.call (.builtin "int.__hash__") ⟨[.int i t], []⟩)) s p = some (.ret (.int (rawHash i) s.toks), { s with toks := s.toks + 1 }, p.t 4) := by
    kernel_rfl
  unfold call runValue
  rw [runS_bind h1]
  rfl
theorem hsp (i : Int) (t : Tok) : specialOf (.int i t) "__hash__" = pure (some (.builtin "int.__hash__")) := slot_int_hash.lookup
theorem runS_bsib (i : Int) (t : Tok) : runS st (bindSpecialIfBound? (.int i t) "__hash__") s p = some (some (.builtin "int.__hash__", [.int i t]), s, p.t 1) := by
  unfold bindSpecialIfBound?
  rw [hsp]
  refine (runS_bind (runS_pure _)).trans ((runS_bind (a := st) (s' := s) (p' := p.t 1) rfl).trans ?_)
  have hb : ∀ (s : Shared) (p : PC), runS st (do let x ← bindSpecial (.builtin "int.__hash__") (.int i t); return some x : Sem (Option (Value × List Value))) s p = some (some (.builtin "int.__hash__", [.int i t]), s, p) := fun s p => by
    rw [slot_int_hash.bind, runS_bind (runS_pure _)]; rfl
  show runS st (if _ then _ else _) _ _ = _
  by_cases h : st.params.followText "special-get-raises" = true
  · rw [if_pos h]; exact hb s _
  · rw [if_neg h]; exact runS_tryCatch (hb s _)
theorem runS_hash (i : Int) (t : Tok) : runS st (pyHash (.int i t)) s p = some (hashInt i, { s with toks := s.toks + 1 }, p.t 5) := by
  have hr := rawHash_range i
  show runS st (pyHashByItsType (.int i t)) s p = _
  refine (runS_bind (a := ()) (s' := s) (p' := p) (by rw [cRoomFor, if_neg (by rw [show [Value.int i t].any Value.onHeap = false from rfl]; exact Bool.false_ne_true)]; rfl)).trans ?_
  refine (runS_bind (by rw [hsp]; exact runS_pure _)).trans ?_
  show runS st (if (some (Value.builtin "int.__hash__") == some Value.none) = true then _ else _) _ _ = _
  rw [if_neg (by decide)]
  refine (runS_bind (by rw [hsp]; exact runS_pure _)).trans ?_
  show runS st (if (some (Value.builtin "int.__hash__")).isNone = true then _ else _) _ _ = _
  rw [if_neg (by decide)]
  have h2 : ∀ refuse : Sem Value, runS st (callSpecialIfBoundUnlessNone? (.int i t) "__hash__" refuse) s p = some (some (.int (rawHash i) s.toks), { s with toks := s.toks + 1 }, p.t 5) := fun refuse => by
    unfold callSpecialIfBoundUnlessNone?
    refine runS_holding ((runS_bind (runS_bsib i t)).trans ?_)
    show runS st (if _ then _ else _) _ _ = _
    rw [if_neg (by decide)]
    exact (runS_bind (runS_hcall i t)).trans rfl
  refine (runS_bind (h2 _)).trans ?_
  show runS st (if (decide (-(2 : Int) ^ 63 ≤ rawHash i) && decide (rawHash i < 2 ^ 63)) = true then _ else _) _ (p.t 5) = _
  rw [if_pos (by rw [decide_eq_true hr.1, decide_eq_true hr.2]; rfl)]
  rfl

noncomputable abbrev dictO (es : List DictEntry) (n : Nat) : Obj := { cls := .type "dict", data := .dict es.toArray n }
theorem runS_entries {d : Addr} {q : Option Value} {es : List DictEntry} {n : Nat} (h : s.heap.get? d = some (dictO es n)) : runS st (dictEntries d q) s p = some (es.toArray, s, p.t 1) := by
  unfold dictEntries; rw [runS_bind (runS_load h)]; rfl
theorem places_none {es : List DictEntry} {h : Int} (hn : ∀ e ∈ es, e.hash ≠ h) : placesWithHash es.toArray.size (fun i => es.toArray[i]?.map (·.hash)) h = [] := by
  unfold placesWithHash
  rw [List.filter_eq_nil_iff]
  intro i hi
  have hi' : i < es.length := by simpa using List.mem_range.mp hi
  simp only [List.getElem?_toArray, List.getElem?_eq_getElem hi', Option.map_some]
  have := hn es[i] (List.getElem_mem hi')
  simpa using this
theorem runS_find {d : Addr} {es : List DictEntry} {n : Nat} {i h : Int} {t : Tok} (ho : s.heap.get? d = some (dictO es n)) (hn : ∀ e ∈ es, e.hash ≠ h) :
    runS st (dictFind d (.int i t) h) s p = some (none, s, p.t 1) := by
  unfold dictFind
  refine runS_holding ?_
  refine (runS_bind (runS_entries ho)).trans ?_
  show runS st (if (Value.int i t :: (placesWithHash es.toArray.size (fun i => es.toArray[i]?.map (·.hash)) h).filterMap fun i => es.toArray[i]?.map (·.key)).all carriedByValue = true then _ else _) s _ = _
  rw [if_pos (by rw [places_none hn]; rfl), places_none hn]
  rfl

noncomputable def dpush (d : Addr) (e : DictEntry) (s : Shared) : Shared := { s with heap := s.heap.update d (Obj.mapDictKeys (·.push e)) }
theorem get_dpush {d : Addr} {es : List DictEntry} {n : Nat} {e : DictEntry} (ho : s.heap.get? d = some (dictO es n)) : (dpush d e s).heap.get? d = some (dictO (es ++ [e]) (n + 1)) := by
  have := Heap.get?_update_self (Obj.mapDictKeys (·.push e)) ho rfl
  rw [dpush, this]
  simp [Obj.mapDictKeys]
theorem runS_updKeys {d : Addr} {q : Option Value} {es : List DictEntry} {n : Nat} {e : DictEntry} (hd : 11 ≤ d) (ho : s.heap.get? d = some (dictO es n)) (hz : es.length < 10000) :
    runS st (updateDictKeys d (·.push e) q) s p = some ((), dpush d e s, p.t 3) := by
  unfold updateDictKeys
  rw [runS_bind (runS_load ho)]
  show runS st (updatePart d q (Obj.mapDictKeys (·.push e)) >>= fun _ => lookBehind d q) s (p.t 1) = _
  have h1 : runS st (updatePart d q (Obj.mapDictKeys (·.push e))) s (p.t 1) = some ((), dpush d e s, p.t 2) := by
    refine eqUpdate.trans ?_
    rw [if_pos ⟨.inl hd, by rw [ho]; rfl⟩]; rfl
  rw [runS_bind h1]
  unfold lookBehind
  rw [runS_bind (runS_load (get_dpush ho))]
  rw [pastItsLine_dict (by rw [sizeLine_eq]; simp; omega)]
  rfl
theorem runS_setHashed {d : Addr} {es : List DictEntry} {n : Nat} {i h : Int} {t : Tok} {v : Value} (hd : 11 ≤ d) (ho : s.heap.get? d = some (dictO es n)) (hn : ∀ e ∈ es, e.hash ≠ h) (hz : es.length < 10000) :
    runS st (dictSetHashed d (.int i t) h v) s p = some ((), dpush d ⟨h, .int i t, v⟩ s, p.t 5) := by
  unfold dictSetHashed
  refine runS_holding ?_
  rw [runS_bind (runS_find ho hn)]
  simp only []
  rw [runS_bind (a := ()) (s' := s) (p' := p.t 2) rfl]
  exact runS_updKeys hd ho hz
theorem runS_set {d : Addr} {es : List DictEntry} {n : Nat} {i : Int} {t : Tok} {v : Value} (hd : 11 ≤ d) (ho : s.heap.get? d = some (dictO es n)) (hn : ∀ e ∈ es, e.hash ≠ hashInt i) (hz : es.length < 10000) :
    runS st (dictSet d (.int i t) v) s p = some ((), dpush d ⟨hashInt i, .int i t, v⟩ { s with toks := s.toks + 1 }, p.t 10) := by
  unfold dictSet
  refine runS_holding ?_
  rw [runS_bind (runS_hash i t)]
  exact runS_setHashed hd ho hn hz
theorem runS_put {d : Addr} {es : List DictEntry} {n : Nat} {i h : Int} {t : Tok} {v : Value} (hd : 11 ≤ d) (ho : s.heap.get? d = some (dictO es n)) (hn : ∀ e ∈ es, e.hash ≠ h) (hz : es.length < 10000) :
    runS st (dictPut d h (.int i t) v) s p = some ((), dpush d ⟨h, .int i t, v⟩ s, p.t 4) := by
  unfold dictPut
  rw [runS_bind (runS_find ho hn)]
  exact runS_updKeys hd ho hz
end Mine

end
section
open PySem PySem.W PyProof.Rows PySem.Calls
set_option Elab.async false
set_option maxRecDepth 100000
set_option linter.all false
namespace Mine
variable {st : Setting}
noncomputable def lf : Life := {}
noncomputable def hp (l : List Obj) : Heap := ⟨l.toArray, lf⟩
noncomputable abbrev mkS (l : List Obj) (k : Nat) (os : OsState) : Shared := ⟨hp l, #[], ⟨0, 0, 0, 0⟩, k, os⟩
theorem hp_get {l : List Obj} {a : Nat} {o : Obj} (h : l[a]? = some o) (hf : o.isFreed = false) : (hp l).get? a = some o := by
  unfold hp Heap.get?
  simp only [List.getElem?_toArray, h]
  obtain ⟨c, d, dt, sl⟩ := o
  cases dt <;> first | rfl | (cases hf)
theorem hp_push {l : List Obj} {o : Obj} : (hp l).push o = hp (l ++ [o]) := by
  unfold hp Heap.push
  simp
theorem hp_update {pre post : List Obj} {o : Obj} {f : Obj → Obj} : (hp (pre ++ o :: post)).update pre.length f = hp (pre ++ f o :: post) := by
  show (⟨(pre ++ o :: post).toArray.modify pre.length f, lf⟩ : Heap) = ⟨(pre ++ f o :: post).toArray, lf⟩
  have : (pre ++ o :: post).toArray.modify pre.length f = (pre ++ f o :: post).toArray := ?_
  · rw [this]
  apply Array.ext_getElem?
  intro i
  simp only [Array.getElem?_modify, List.getElem?_toArray]
  by_cases e : pre.length = i
  · subst e; simp
  · rw [if_neg e]
    by_cases h : i < pre.length
    · rw [List.getElem?_append_left h, List.getElem?_append_left h]
    · have h' : pre.length ≤ i := by omega
      rw [List.getElem?_append_right h', List.getElem?_append_right h']
      have : i - pre.length ≠ 0 := by omega
      obtain ⟨j, hj⟩ := Nat.exists_eq_succ_of_ne_zero this
      rw [hj]; rfl
theorem mk_dpush {pre post : List Obj} {es : List DictEntry} {n k : Nat} {os : OsState} {e : DictEntry} :
    dpush pre.length e (mkS (pre ++ dictO es n :: post) k os) = mkS (pre ++ dictO (es ++ [e]) (n + 1) :: post) k os := by
  unfold dpush mkS
  simp only [hp_update]
  simp [Obj.mapDictKeys]
theorem mk_get {pre post : List Obj} {es : List DictEntry} {n k : Nat} {os : OsState} : (mkS (pre ++ dictO es n :: post) k os).heap.get? pre.length = some (dictO es n) :=
  hp_get (by simp) rfl

noncomputable def ents (t : Nat) : List (Int × Str) → List DictEntry
  | [] => []
  | (k, v) :: r => ⟨k, .int k t, .str v (t + 1)⟩ :: ents (t + 3) r
noncomputable def ents2 (t : Nat) : List (Int × Str) → List DictEntry
  | [] => []
  | (k, v) :: r => ⟨k, .int k t, .str v (t + 1)⟩ :: ents2 (t + 2) r

structure IsPair (st : Setting) (pos : Pos) (q : Sem Value × Sem Value) (k : Int) (v : Str) : Prop where
  key : ∀ s p, runS st q.1 s p = some (.int k s.toks, { s with toks := s.toks + 1 }, p.t 1)
  val : ∀ s p, runS st q.2 s p = some (.str v s.toks, { s with toks := s.toks + 1 }, p.a pos 2)
  hash : hashInt k = k

inductive Pairs (st : Setting) (pos : Pos) : List (Sem Value × Sem Value) → List (Int × Str) → Prop
  | nil : Pairs st pos [] []
  | cons {q k v qs r} : IsPair st pos q k v → Pairs st pos qs r → Pairs st pos (q :: qs) ((k, v) :: r)
theorem Pairs.length {pos : Pos} {qs : List (Sem Value × Sem Value)} {L : List (Int × Str)} (h : Pairs st pos qs L) : qs.length = L.length := by
  induction h with
  | nil => rfl
  | cons _ _ ih => simp [ih]

/-- every key of L is above every hash of es, and L rises -/
noncomputable def Above (es : List DictEntry) (L : List (Int × Str)) : Prop := (∀ e ∈ es, ∀ kv ∈ L, e.hash < kv.1) ∧ L.Pairwise fun a b => a.1 < b.1
theorem Above.tail {es : List DictEntry} {k : Int} {v : Str} {L : List (Int × Str)} {x y : Value} (h : Above es ((k, v) :: L)) : Above (es ++ [⟨k, x, y⟩]) L := by
  obtain ⟨h1, h2⟩ := h
  rw [List.pairwise_cons] at h2
  refine ⟨fun e he kv hkv => ?_, h2.2⟩
  rcases List.mem_append.mp he with he | he
  · exact h1 e he kv (.tail _ hkv)
  · rw [List.mem_singleton.mp he]; exact h2.1 kv hkv
theorem Above.head {es : List DictEntry} {k : Int} {v : Str} {L : List (Int × Str)} (h : Above es ((k, v) :: L)) : ∀ e ∈ es, e.hash ≠ k := fun e he => by
  have := h.1 e he (k, v) (.head _)
  simp only at this
  omega

theorem run_long {pos : Pos} {qs : List (Sem Value × Sem Value)} {L : List (Int × Str)} (h : Pairs st pos qs L) : ∀ {pre post : List Obj} {es : List DictEntry} {n k : Nat} {os : OsState} {p : PC},
    11 ≤ pre.length → Above es L → es.length + L.length < 10000 → L ≠ [] →
    runS st (forIn qs PUnit.unit fun (x : Sem Value × Sem Value) (_ : PUnit) => (do
        let kv ← x.1
        let vv ← holding [kv] x.2
        holding [kv, vv] (dictSet pre.length kv vv)
        pure (ForInStep.yield PUnit.unit) : Sem (ForInStep PUnit))) (mkS (pre ++ dictO es n :: post) k os) p =
      some (PUnit.unit, mkS (pre ++ dictO (es ++ ents k L) (n + L.length) :: post) (k + 3 * L.length) os, p.a pos (13 * L.length)) := by
  induction h with
  | nil => intro pre post es n k os p _ _ _ hL; exact absurd rfl hL
  | @cons q k₀ v qs r hq hqs ih =>
    intro pre post es n k os p hd ha hz _
    rw [List.forIn_cons]
    have one : runS st (do
        let kv ← q.1
        let vv ← holding [kv] q.2
        holding [kv, vv] (dictSet pre.length kv vv)
        pure (ForInStep.yield PUnit.unit) : Sem (ForInStep PUnit)) (mkS (pre ++ dictO es n :: post) k os) p =
        some (.yield PUnit.unit, mkS (pre ++ dictO (es ++ [⟨k₀, .int k₀ k, .str v (k + 1)⟩]) (n + 1) :: post) (k + 3) os, p.a pos 13) := by
      rw [runS_bind (hq.key _ _), runS_bind (runS_holding (hq.val _ _))]
      rw [runS_bind (runS_holding (runS_set hd (es := es) (n := n) mk_get (by rw [hq.hash]; exact ha.head) (by simp at hz; omega)))]
      rw [hq.hash]
      show some (ForInStep.yield PUnit.unit, dpush pre.length _ (mkS (pre ++ dictO es n :: post) (k + 1 + 1 + 1) os), p.a pos 13) = _
      rw [mk_dpush]
    rw [runS_bind one]
    simp only []
    cases r with
    | nil =>
      cases hqs
      rw [List.forIn_nil]
      simp [ents]; rfl
    | cons kv r =>
      rw [ih hd ha.tail (by simp at hz ⊢; omega) (by simp)]
      simp only [ents, List.length_cons, List.append_assoc, List.cons_append, List.nil_append]
      have e1 : n + 1 + (r.length + 1) = n + (r.length + 1 + 1) := by omega
      have e2 : k + 3 + 3 * (r.length + 1) = k + 3 * (r.length + 1 + 1) := by omega
      have e3 : (p.a pos 13).a pos (13 * (r.length + 1)) = p.a pos (13 * (r.length + 1 + 1)) := by simp only [PC.a]; congr 1; omega
      rw [e1, e2, e3]

theorem run_evalPairs {pos : Pos} {qs : List (Sem Value × Sem Value)} {L : List (Int × Str)} (h : Pairs st pos qs L) : ∀ {l : List Obj} {k : Nat} {os : OsState} {p : PC}, L ≠ [] →
    runS st (evalPairs qs) (mkS l k os) p = some ((ents2 k L).map fun e => (e.key, e.val), mkS l (k + 2 * L.length) os, p.a pos (3 * L.length)) := by
  induction h with
  | nil => intro l k os p hL; exact absurd rfl hL
  | @cons q k₀ v qs r hq hqs ih =>
    intro l k os p _
    rw [evalPairs, runS_bind (hq.key _ _), runS_bind (runS_holding (hq.val _ _))]
    cases r with
    | nil =>
      cases hqs
      rw [runS_bind (runS_holding (show runS st (evalPairs []) (mkS l (k + 1 + 1) os) ((p.t 1).a pos 2) = some ([], mkS l (k + 1 + 1) os, (p.t 1).a pos 2) by simp only [evalPairs]; rfl))]
      rfl
    | cons kv r =>
      rw [runS_bind (runS_holding (ih (l := l) (k := k + 1 + 1) (os := os) (p := (p.t 1).a pos 2) (by simp)))]
      simp only [ents2, List.map_cons, List.length_cons]
      have e2 : k + 1 + 1 + 2 * (r.length + 1) = k + 2 * (r.length + 1 + 1) := by omega
      have e3 : ((p.t 1).a pos 2).a pos (3 * (r.length + 1)) = p.a pos (3 * (r.length + 1 + 1)) := by simp only [PC.a, PC.t]; congr 1; omega
      rw [e2, e3]
      rfl
theorem run_storeAll : ∀ {E : List DictEntry} {pre post : List Obj} {es : List DictEntry} {n k : Nat} {os : OsState} {p : PC} (_ : ∀ e ∈ E, ∃ i t, e.key = .int i t ∧ hashInt i = e.hash)
    (_ : 11 ≤ pre.length) (_ : (es ++ E).Pairwise fun a b => a.hash < b.hash) (_ : es.length + E.length < 10000),
    runS st (forIn (E.map fun e => (e.key, e.val)) PUnit.unit fun (x : Value × Value) (_ : PUnit) => (do dictSet pre.length x.1 x.2; pure (ForInStep.yield PUnit.unit) : Sem (ForInStep PUnit)))
      (mkS (pre ++ dictO es n :: post) k os) p = some (PUnit.unit, mkS (pre ++ dictO (es ++ E) (n + E.length) :: post) (k + E.length) os, p.t (10 * E.length))
  | [], pre, post, es, n, k, os, p, _, _, _, _ => by
    rw [List.map_nil, List.forIn_nil]
    simp; rfl
  | e :: E, pre, post, es, n, k, os, p, hk, hd, hp, hz => by
    obtain ⟨i, t, e1, e2⟩ := hk e (.head _)
    rw [List.map_cons, List.forIn_cons]
    have hlt : ∀ x ∈ es, x.hash ≠ hashInt i := fun x hx => by
      rw [List.pairwise_append] at hp
      have := hp.2.2 x hx e (.head _)
      rw [e2]; omega
    have one : runS st (dictSet pre.length e.key e.val >>= fun _ => (pure (ForInStep.yield PUnit.unit) : Sem (ForInStep PUnit))) (mkS (pre ++ dictO es n :: post) k os) p =
        some (.yield PUnit.unit, mkS (pre ++ dictO (es ++ [e]) (n + 1) :: post) (k + 1) os, p.t 10) := by
      obtain ⟨hh, ky, vl⟩ := e
      simp only at e1 e2
      subst e1 e2
      rw [runS_bind (runS_set hd (es := es) (n := n) mk_get hlt (by simp at hz; omega))]
      show some (ForInStep.yield PUnit.unit, dpush pre.length _ (mkS (pre ++ dictO es n :: post) (k + 1) os), p.t 10) = _
      rw [mk_dpush]
    rw [runS_bind one]
    simp only []
    rw [run_storeAll (fun x hx => hk x (.tail _ hx)) hd (by simpa using hp) (by simp at hz ⊢; omega)]
    simp only [List.append_assoc, List.cons_append, List.nil_append, List.length_cons]
    have h1 : n + 1 + E.length = n + (E.length + 1) := by omega
    have h2 : k + 1 + E.length = k + (E.length + 1) := by omega
    have h3 : (p.t 10).t (10 * E.length) = p.t (10 * (E.length + 1)) := by simp only [PC.t]; congr 1; omega
    rw [h1, h2, h3]

theorem run_sub_long {pos : Pos} {qs : List (Sem Value × Sem Value)} {L : List (Int × Str)} {l : List Obj} {k : Nat} {os : OsState} {p : PC} (h : Pairs st pos qs L)
    (hl : 11 ≤ l.length) (ha : Above [] L) (hn : L.length = 17) :
    runS st (subDict qs) (mkS l k os) p = some (l.length, mkS (l ++ [dictO (ents k L) 17]) (k + 51) os, p.a pos 223) := by
  have hq := h.length
  unfold subDict
  have h1 : runS st (alloc { cls := .type "dict", data := .dict #[] }) (mkS l k os) p = some (l.length, mkS (l ++ [dictO [] 0]) k os, p.t 1) := by
    show some ((hp l).objs.size, ({ mkS l k os with heap := (hp l).push (dictO [] 0) } : Shared), p.t 1) = _
    rw [hp_push]; simp [hp]
  rw [runS_bind h1]
  have h2 := run_long (st := st) h (pre := l) (post := []) (es := []) (n := 0) (k := k) (os := os) (p := p.t 2) hl ha (by simp; omega) (by intro e; rw [e] at hn; cases hn)
  rw [if_neg (by rw [hq, hn]; decide)]
  rw [runS_bind (a := ()) (s' := mkS (l ++ [dictO (ents k L) 17]) (k + 51) os) (p' := p.a pos 223) ?_]
  · rfl
  · refine runS_holding ?_
    rw [runS_bind (a := ()) (s' := mkS (l ++ [dictO [] 0]) k os) (p' := p.t 2) rfl]
    rw [runS_bind h2]
    simp [hn]; rfl
theorem run_sub_short {pos : Pos} {qs : List (Sem Value × Sem Value)} {L : List (Int × Str)} {l : List Obj} {k : Nat} {os : OsState} {p : PC} (h : Pairs st pos qs L)
    (hl : 11 ≤ l.length) (ha : ((ents2 k L).Pairwise fun a b => a.hash < b.hash) ∧ ∀ e ∈ ents2 k L, ∃ i t, e.key = .int i t ∧ hashInt i = e.hash) (hn : L.length ≤ 15) (h0 : L ≠ []) :
    runS st (subDict qs) (mkS l k os) p = some (l.length, mkS (l ++ [dictO (ents2 k L) (ents2 k L).length]) (k + 2 * L.length + (ents2 k L).length) os, p.a pos (1 + 13 * L.length)) := by
  have hq := h.length
  unfold subDict
  have h1 : runS st (alloc { cls := .type "dict", data := .dict #[] }) (mkS l k os) p = some (l.length, mkS (l ++ [dictO [] 0]) k os, p.t 1) := by
    show some ((hp l).objs.size, ({ mkS l k os with heap := (hp l).push (dictO [] 0) } : Shared), p.t 1) = _
    rw [hp_push]; simp [hp]
  rw [runS_bind h1]
  rw [if_pos (by rw [hq]; exact hn)]
  have hlen : ∀ (L : List (Int × Str)) (k : Nat), (ents2 k L).length = L.length := fun L => by
    induction L with
    | nil => intro k; rfl
    | cons a r ih => intro k; obtain ⟨x, y⟩ := a; simp [ents2, ih]
  have h2 := run_storeAll (st := st) (E := ents2 k L) (pre := l) (post := []) (es := []) (n := 0) (k := k + 2 * L.length) (os := os) (p := (p.t 1).a pos (3 * L.length)) ha.2 hl (by simpa using ha.1) (by rw [hlen]; simp; omega)
  rw [runS_bind (a := ()) (s' := mkS (l ++ [dictO (ents2 k L) (ents2 k L).length]) (k + 2 * L.length + (ents2 k L).length) os) (p' := p.a pos (1 + 13 * L.length)) ?_]
  · rfl
  · refine runS_holding ?_
    rw [runS_bind (run_evalPairs h h0)]
    refine runS_holding ?_
    simp only [List.nil_append, Nat.zero_add] at h2
    rw [runS_bind h2]
    have e3 : ((p.t 1).a pos (3 * L.length)).t (10 * (ents2 k L).length) = p.a pos (1 + 13 * L.length) := by rw [hlen]; simp only [PC.a, PC.t]; congr 1; omega
    rw [e3]
    rfl
end Mine

end
section
open PySem PySem.W PyProof.Rows PySem.Calls
set_option Elab.async false
set_option maxRecDepth 100000
set_option linter.all false
namespace Mine
variable {st : Setting}
theorem run_typeOf_dict {s : Shared} {p : PC} {a : Addr} {es : List DictEntry} {n : Nat} (h : s.heap.get? a = some (dictO es n)) : runS st (typeOf (.ref a)) s p = some (.type "dict", s, p.t 1) := by
  simp only [typeOf]
  rw [runS_bind (runS_load h)]; rfl
theorem range_loop {S : Nat → Shared} {p : Nat → PC} {f : Nat → PUnit → Sem (ForInStep PUnit)} {N : Nat} (hf : ∀ i, i < N → runS st (f i PUnit.unit) (S i) (p i) = some (.yield PUnit.unit, S (i + 1), p (i + 1))) :
    ∀ m i, i + m = N → runS st (forIn (List.range' i m) PUnit.unit f) (S i) (p i) = some (PUnit.unit, S N, p N)
  | 0, i, h => by
    obtain rfl : i = N := by omega
    rw [List.range'_zero, List.forIn_nil]; rfl
  | m + 1, i, h => by
    rw [List.range'_succ, List.forIn_cons, runS_bind (hf i (by omega))]
    exact range_loop hf m (i + 1) (by omega)
theorem run_merge {pre mid : List Obj} {es es2 : List DictEntry} {n n2 k : Nat} {os : OsState} {p : PC} (hd : 11 ≤ pre.length) (hk : ∀ e ∈ es2, ∃ i t, e.key = .int i t)
    (hp : (es ++ es2).Pairwise fun a b => a.hash < b.hash) (hz : es.length + es2.length < 10000) (h0 : es ≠ []) :
    runS st (mergeMapping pre.length (.ref (pre.length + 1 + mid.length)) false) (mkS (pre ++ dictO es n :: (mid ++ [dictO es2 n2])) k os) p =
      some ((), mkS (pre ++ dictO (es ++ es2) (n + es2.length) :: (mid ++ [dictO es2 n2])) k os, p.t (5 + 6 * es2.length)) := by
  have gsub : ∀ (es : List DictEntry) (n : Nat), (mkS (pre ++ dictO es n :: (mid ++ [dictO es2 n2])) k os).heap.get? (pre.length + 1 + mid.length) = some (dictO es2 n2) := fun es n => by
    refine hp_get ?_ rfl
    rw [List.getElem?_append_right (by omega)]
    rw [show pre.length + 1 + mid.length - pre.length = mid.length + 1 from by omega]
    simp
  unfold mergeMapping
  have h1 : runS st (isInstance (.ref (pre.length + 1 + mid.length)) (.type "dict")) (mkS (pre ++ dictO es n :: (mid ++ [dictO es2 n2])) k os) p = some (true, mkS (pre ++ dictO es n :: (mid ++ [dictO es2 n2])) k os, p.t 1) := by
    unfold isInstance
    rw [runS_bind (run_typeOf_dict (gsub es n))]
    rw [show isSubtype (.type "dict") (.type "dict") = pure true from by rw [isSubtype_type]; kernel_rfl]
    rfl
  rw [runS_bind h1]
  simp only [if_true]
  have h2 : runS st (specialOf (.ref (pre.length + 1 + mid.length)) "__iter__") (mkS (pre ++ dictO es n :: (mid ++ [dictO es2 n2])) k os) (p.t 1) = some (some (.builtin "dict.__iter__"), mkS (pre ++ dictO es n :: (mid ++ [dictO es2 n2])) k os, p.t 2) := by
    unfold specialOf
    rw [runS_bind (run_typeOf_dict (gsub es n))]
    rw [show typeLookup (.type "dict") "__iter__" = pure (some (.builtin "dict.__iter__")) from by rw [typeLookup_type, builtinLookup_eq_fast]; kernel_rfl]
    rfl
  rw [runS_bind h2, runS_bind (runS_pure _)]
  simp only [beq_self_eq_true, Bool.false_eq_true, if_false]
  have hne : ((pre.length + 1 + mid.length) == sysModules) = false := by rw [beq_eq_false_iff_ne]; unfold sysModules; omega
  rw [hne]
  simp only [Bool.false_eq_true, if_false]
  rw [runS_bind (runS_entries mk_get)]
  rw [if_neg (by simp; exact h0)]
  rw [runS_bind (runS_entries (gsub es n))]
  rw [runS_bind (a := n2) (s' := mkS (pre ++ dictO es n :: (mid ++ [dictO es2 n2])) k os) (p' := p.t 5) (by unfold dictEpoch; rw [runS_bind (runS_load (gsub es n))]; rfl)]
  have key : ∀ f : Nat → PUnit → Sem (ForInStep PUnit), (∀ i, i < es2.length → runS st (f i PUnit.unit) (mkS (pre ++ dictO (es ++ es2.take i) (n + i) :: (mid ++ [dictO es2 n2])) k os) (p.t (5 + 6 * i)) =
      some (.yield PUnit.unit, mkS (pre ++ dictO (es ++ es2.take (i + 1)) (n + (i + 1)) :: (mid ++ [dictO es2 n2])) k os, p.t (5 + 6 * (i + 1)))) →
      runS st (forIn (List.range es2.toArray.size) PUnit.unit f) (mkS (pre ++ dictO es n :: (mid ++ [dictO es2 n2])) k os) (p.t 5) = some (PUnit.unit, mkS (pre ++ dictO (es ++ es2) (n + es2.length) :: (mid ++ [dictO es2 n2])) k os, p.t (5 + 6 * es2.length)) := fun f hf => by
    rw [show List.range es2.toArray.size = List.range' 0 es2.length from by rw [List.range_eq_range', List.size_toArray]]
    have l2 := range_loop (st := st) (S := fun i => mkS (pre ++ dictO (es ++ es2.take i) (n + i) :: (mid ++ [dictO es2 n2])) k os) (p := fun i => p.t (5 + 6 * i)) (N := es2.length) (f := f) hf es2.length 0 (by omega)
    simpa using l2
  rw [runS_bind (key _ ?_)]
  · rfl
  intro i hi
  rw [runS_bind (runS_entries (gsub _ _))]
  have hg : es2.toArray[i]? = some es2[i] := by rw [List.getElem?_toArray, List.getElem?_eq_getElem hi]
  rw [hg]
  simp only []
  obtain ⟨ii, tt, ek⟩ := hk es2[i] (List.getElem_mem hi)
  have hlt : ∀ e ∈ es ++ es2.take i, e.hash ≠ es2[i].hash := fun e he => by
    have hs : es ++ es2 = (es ++ es2.take i) ++ es2[i] :: es2.drop (i + 1) := by
      rw [List.append_assoc, List.getElem_cons_drop, List.take_append_drop]
    rw [hs, List.pairwise_append] at hp
    have := hp.2.2 e he es2[i] (.head _)
    omega
  rw [ek]
  rw [runS_bind (runS_holding (runS_put hd (es := es ++ es2.take i) (n := n + i) mk_get hlt (by simp; omega)))]
  rw [mk_dpush]
  rw [runS_bind (a := n2) (s' := mkS (pre ++ dictO (es ++ es2.take i ++ [⟨es2[i].hash, .int ii tt, es2[i].val⟩]) (n + i + 1) :: (mid ++ [dictO es2 n2])) k os) (p' := p.t (5 + 6 * i + 6)) (by unfold dictEpoch; rw [runS_bind (runS_load (gsub _ _))]; rfl)]
  rw [if_neg (by simp)]
  have he : (⟨es2[i].hash, .int ii tt, es2[i].val⟩ : DictEntry) = es2[i] := by rw [← ek]
  rw [he, List.append_assoc, ← List.take_succ_eq_append_getElem hi]
  rfl
end Mine

end
section
open PySem PySem.W PyProof.Rows PySem.Calls
set_option Elab.async false
set_option maxRecDepth 100000
set_option linter.all false
namespace Mine
variable {st : Setting}
noncomputable abbrev Trees := List (Sem Value × Sem Value)
noncomputable def fl (run : Trees) (main : Option Addr) : Sem (Option Addr) :=
  if run.isEmpty = true then pure main
  else match main with
    | none => do
      let x ← subDict run
      pure (some x)
    | some d => do
      let sub ← holding [Value.ref d] (subDict run)
      (holding [Value.ref d, Value.ref sub] (mergeMapping d (Value.ref sub) false)).onRaise fun x => do
        let _ ← holding [Value.ref d, x] (runValue (Code.builtin "proto.let_go" {}))
        pure ()
      pure (some d)
noncomputable abbrev opt1 (qs : Trees) : List (Option (Sem Value) × Sem Value) := qs.map fun p => (some p.1, p.2)
section
variable {f : (Option (Sem Value) × Sem Value) → (Option Addr × Trees) → Sem (ForInStep (Option Addr × Trees))}
theorem gather (hA : ∀ (q : Sem Value × Sem Value) main run, run.length + 1 ≠ 17 → f (some q.1, q.2) (main, run) = pure (.yield (main, run ++ [q]))) (main : Option Addr) (rest : Trees) :
    ∀ (c run : Trees), run.length + c.length < 17 → forIn (opt1 (c ++ rest)) (main, run) f = forIn (opt1 rest) (main, run ++ c) f
  | [], run, _ => by simp
  | q :: c, run, h => by
    simp only [List.cons_append, opt1, List.map_cons, List.forIn_cons]
    rw [hA q main run (by simp at h; omega), pure_bind]
    have := gather hA main rest c (run ++ [q]) (by simp at h ⊢; omega)
    simpa using this
theorem chunk (hA : ∀ (q : Sem Value × Sem Value) main run, run.length + 1 ≠ 17 → f (some q.1, q.2) (main, run) = pure (.yield (main, run ++ [q])))
    (hB : ∀ (q : Sem Value × Sem Value) main run, run.length + 1 = 17 → f (some q.1, q.2) (main, run) = (fl (run ++ [q]) main >>= fun m => pure (.yield (m, []))))
    (main : Option Addr) (c rest : Trees) (h : c.length = 17) : forIn (opt1 (c ++ rest)) (main, []) f = (fl c main >>= fun m => forIn (opt1 rest) (m, []) f) := by
  have hc : c = c.take 16 ++ [c[16]'(by omega)] := by
    have := List.take_append_drop 16 c
    rw [List.drop_eq_getElem_cons (by omega : 16 < c.length), List.drop_eq_nil_of_le (by omega : c.length ≤ 16 + 1)] at this
    exact this.symm
  generalize c[16]'(by omega) = q at hc
  have hl : (c.take 16).length = 16 := by simp [h]
  generalize c.take 16 = c' at hc hl
  subst hc
  rw [List.append_assoc, gather hA main ([q] ++ rest) c' [] (by simp [hl])]
  simp only [List.nil_append, List.cons_append, opt1, List.map_cons, List.forIn_cons]
  rw [hB q main c' (by omega), bind_assoc]
  congr 1
end
noncomputable def entsAll : Nat → Nat → List (Int × Str) → List DictEntry
  | 0, k, L => ents2 k L
  | m + 1, k, L => ents k (L.take 17) ++ entsAll m (k + 51) (L.drop 17)
noncomputable def subsAll : Nat → Nat → List (Int × Str) → List Obj
  | 0, k, L => [dictO (ents2 k L) (ents2 k L).length]
  | m + 1, k, L => dictO (ents k (L.take 17)) 17 :: subsAll m (k + 51) (L.drop 17)
theorem ents2_length : ∀ (L : List (Int × Str)) (k : Nat), (ents2 k L).length = L.length
  | [], _ => rfl
  | (_, _) :: r, k => by simp [ents2, ents2_length r]
theorem ents_length : ∀ (L : List (Int × Str)) (k : Nat), (ents k L).length = L.length
  | [], _ => rfl
  | (_, _) :: r, k => by simp [ents, ents_length r]
theorem mem_ents : ∀ {L : List (Int × Str)} {k : Nat} {e : DictEntry}, e ∈ ents k L → ∃ kv ∈ L, ∃ t, e = ⟨kv.1, .int kv.1 t, .str kv.2 (t + 1)⟩
  | [], _, _, h => nomatch h
  | (a, b) :: r, k, e, h => by
    rcases List.mem_cons.mp h with rfl | h
    · exact ⟨_, .head _, k, rfl⟩
    · obtain ⟨kv, h1, h2⟩ := mem_ents h; exact ⟨kv, .tail _ h1, h2⟩
theorem mem_ents2 : ∀ {L : List (Int × Str)} {k : Nat} {e : DictEntry}, e ∈ ents2 k L → ∃ kv ∈ L, ∃ t, e = ⟨kv.1, .int kv.1 t, .str kv.2 (t + 1)⟩
  | [], _, _, h => nomatch h
  | (a, b) :: r, k, e, h => by
    rcases List.mem_cons.mp h with rfl | h
    · exact ⟨_, .head _, k, rfl⟩
    · obtain ⟨kv, h1, h2⟩ := mem_ents2 h; exact ⟨kv, .tail _ h1, h2⟩
theorem pair_ents : ∀ {L : List (Int × Str)} {k : Nat}, (L.Pairwise fun a b => a.1 < b.1) → (ents k L).Pairwise fun a b => a.hash < b.hash
  | [], _, _ => .nil
  | (a, b) :: r, k, h => by
    rw [List.pairwise_cons] at h
    refine .cons (fun e he => ?_) (pair_ents h.2)
    obtain ⟨kv, h1, t, rfl⟩ := mem_ents he
    exact h.1 kv h1
theorem pair_ents2 : ∀ {L : List (Int × Str)} {k : Nat}, (L.Pairwise fun a b => a.1 < b.1) → (ents2 k L).Pairwise fun a b => a.hash < b.hash
  | [], _, _ => .nil
  | (a, b) :: r, k, h => by
    rw [List.pairwise_cons] at h
    refine .cons (fun e he => ?_) (pair_ents2 h.2)
    obtain ⟨kv, h1, t, rfl⟩ := mem_ents2 he
    exact h.1 kv h1
theorem Pairs.hash {pos : Pos} {qs : Trees} {L : List (Int × Str)} (h : Pairs st pos qs L) : ∀ kv ∈ L, hashInt kv.1 = kv.1 := by
  induction h with
  | nil => intro kv h; cases h
  | cons q _ ih => intro kv h; rcases List.mem_cons.mp h with rfl | h; exact q.hash; exact ih kv h
theorem Pairs.split {pos : Pos} : ∀ {n : Nat} {qs : Trees} {L : List (Int × Str)}, Pairs st pos qs L → Pairs st pos (qs.take n) (L.take n) ∧ Pairs st pos (qs.drop n) (L.drop n)
  | 0, _, _, h => ⟨by simpa using Pairs.nil, by simpa using h⟩
  | _ + 1, _, _, .nil => ⟨by simpa using Pairs.nil, by simpa using Pairs.nil⟩
  | n + 1, _, _, .cons q h => ⟨by simpa using Pairs.cons q (h.split (n := n)).1, by simpa using (h.split (n := n)).2⟩

theorem run_fl {p p1 : PC} {c : Trees} {pre subs : List Obj} {es E : List DictEntry} {n N k k' : Nat} {os : OsState} (hd : 11 ≤ pre.length) (h0 : c ≠ []) (he : es ≠ [])
    (hs : runS st (subDict c) (mkS (pre ++ dictO es n :: subs) k os) p = some ((pre ++ dictO es n :: subs).length, mkS ((pre ++ dictO es n :: subs) ++ [dictO E N]) k' os, p1))
    (hk : ∀ e ∈ E, ∃ i t, e.key = .int i t) (hp : (es ++ E).Pairwise fun a b => a.hash < b.hash) (hz : es.length + E.length < 10000) :
    runS st (fl c (some pre.length)) (mkS (pre ++ dictO es n :: subs) k os) p = some (some pre.length, mkS (pre ++ dictO (es ++ E) (n + E.length) :: (subs ++ [dictO E N])) k' os, p1.t (5 + 6 * E.length)) := by
  unfold fl
  rw [if_neg (by simp [h0])]
  simp only []
  rw [runS_bind (runS_holding hs)]
  have hlen : (pre ++ dictO es n :: subs).length = pre.length + 1 + subs.length := by simp; omega
  rw [hlen, List.append_assoc, List.cons_append]
  rw [runS_bind (runS_onRaise (runS_holding (run_merge hd hk hp hz he)))]
  rfl
theorem run_loop {pos : Pos} {f : (Option (Sem Value) × Sem Value) → (Option Addr × Trees) → Sem (ForInStep (Option Addr × Trees))}
    (hA : ∀ (q : Sem Value × Sem Value) main run, run.length + 1 ≠ 17 → f (some q.1, q.2) (main, run) = pure (.yield (main, run ++ [q])))
    (hB : ∀ (q : Sem Value × Sem Value) main run, run.length + 1 = 17 → f (some q.1, q.2) (main, run) = (fl (run ++ [q]) main >>= fun m => pure (.yield (m, [])))) :
    ∀ (m : Nat) {qs : Trees} {L : List (Int × Str)} {pre subs : List Obj} {es : List DictEntry} {n k : Nat} {os : OsState} {p : PC}, 11 ≤ pre.length → Pairs st pos qs L → L.length = 17 * m + 4 → es ≠ [] →
      (es.Pairwise fun a b => a.hash < b.hash) → Above es L → es.length + L.length < 10000 →
      runS st (forIn (opt1 qs) (some pre.length, []) f >>= fun s => fl s.2 s.1) (mkS (pre ++ dictO es n :: subs) k os) p =
        some (some pre.length, mkS (pre ++ dictO (es ++ entsAll m k L) (n + L.length) :: (subs ++ subsAll m k L)) (k + 51 * m + 12) os, p.a pos (330 * m + 82))
  | 0, qs, L, pre, subs, es, n, k, os, p, hd, hq, hl, he, hpe, ha, hz => by
    have hql := hq.length
    have g := gather hA (some pre.length) [] qs [] (by simp; omega)
    rw [List.append_nil] at g
    rw [g]
    simp only [opt1, List.map_nil, List.forIn_nil, pure_bind, List.nil_append]
    have hk : ∀ e ∈ ents2 k L, ∃ i t, e.key = .int i t ∧ hashInt i = e.hash := fun e h => by
      obtain ⟨kv, h1, t, rfl⟩ := mem_ents2 h
      exact ⟨_, _, rfl, hq.hash kv h1⟩
    have hs := run_sub_short (st := st) (l := pre ++ dictO es n :: subs) (k := k) (os := os) (p := p) hq (by simp; omega) ⟨pair_ents2 ha.2, hk⟩ (by omega) (by intro e; rw [e] at hl; simp at hl)
    rw [run_fl hd (by intro e; rw [e] at hql; simp at hql; omega) he hs (fun e h => by obtain ⟨i, t, a, _⟩ := hk e h; exact ⟨i, t, a⟩) ?_ (by rw [ents2_length]; omega)]
    · rw [ents2_length]
      simp only [entsAll, subsAll, ents2_length]
      have : k + 2 * L.length + L.length = k + 51 * 0 + 12 := by omega
      have e3 : (p.a pos (1 + 13 * L.length)).t (5 + 6 * L.length) = p.a pos (330 * 0 + 82) := by simp only [PC.a, PC.t]; congr 1; omega
      rw [this, e3]
    · rw [List.pairwise_append]
      refine ⟨hpe, pair_ents2 ha.2, fun a h1 b h2 => ?_⟩
      obtain ⟨kv, h3, t, rfl⟩ := mem_ents2 h2
      exact ha.1 a h1 kv h3
  | m + 1, qs, L, pre, subs, es, n, k, os, p, hd, hq, hl, he, hpe, ha, hz => by
    have hql := hq.length
    obtain ⟨q1, q2⟩ := hq.split (n := 17)
    have hl1 : (L.take 17).length = 17 := by simp; omega
    have hql1 : (qs.take 17).length = 17 := by simp; omega
    have e0 : opt1 qs = opt1 (qs.take 17 ++ qs.drop 17) := by rw [List.take_append_drop]
    rw [e0, chunk hA hB (some pre.length) _ _ hql1, bind_assoc]
    have hsub : ∀ kv ∈ L.take 17, kv ∈ L := fun kv h => List.mem_of_mem_take h
    have p1 : (L.take 17).Pairwise fun a b => a.1 < b.1 := ha.2.sublist (List.take_sublist ..)
    have hs := run_sub_long (st := st) (l := pre ++ dictO es n :: subs) (k := k) (os := os) (p := p) q1 (by simp; omega) ⟨(fun e h => nomatch h), p1⟩ hl1
    have pe : (es ++ ents k (L.take 17)).Pairwise fun a b => a.hash < b.hash := by
      rw [List.pairwise_append]
      refine ⟨hpe, pair_ents p1, fun a h1 b h2 => ?_⟩
      obtain ⟨kv, h3, t, rfl⟩ := mem_ents h2
      exact ha.1 a h1 kv (hsub kv h3)
    rw [runS_bind (run_fl hd (by intro e; rw [e] at hql1; simp at hql1) he hs (fun e h => by obtain ⟨kv, _, t, rfl⟩ := mem_ents h; exact ⟨_, _, rfl⟩) pe (by rw [ents_length, hl1]; omega))]
    have hab : Above (es ++ ents k (L.take 17)) (L.drop 17) := by
      refine ⟨fun e h kv hkv => ?_, ha.2.sublist (List.drop_sublist ..)⟩
      rcases List.mem_append.mp h with h | h
      · exact ha.1 e h kv (List.mem_of_mem_drop hkv)
      · obtain ⟨kv', h3, t, rfl⟩ := mem_ents h
        have := ha.2
        rw [← List.take_append_drop 17 L, List.pairwise_append] at this
        exact this.2.2 kv' h3 kv hkv
    rw [run_loop hA hB m hd q2 (by simp; omega) (by simp [he]) pe hab (by simp [ents_length]; omega)]
    simp only [entsAll, subsAll, List.append_assoc, List.cons_append, List.nil_append, ents_length, hl1]
    have h1 : n + 17 + (L.drop 17).length = n + L.length := by simp; omega
    have h2 : k + 51 + 51 * m + 12 = k + 51 * (m + 1) + 12 := by omega
    have e3 : ((p.a pos 223).t (5 + 6 * 17)).a pos (330 * m + 82) = p.a pos (330 * (m + 1) + 82) := by simp only [PC.a, PC.t]; congr 1; omega
    rw [h1, h2, e3]
theorem run_display {pos : Pos} {p : PC} {qs : Trees} {L : List (Int × Str)} {pre : List Obj} {k : Nat} {os : OsState} (m : Nat) (hd : 11 ≤ pre.length) (hq : Pairs st pos qs L) (hl : L.length = 17 * (m + 1) + 4)
    (ha : L.Pairwise fun a b => a.1 < b.1) (hz : L.length < 10000) :
    runS st (dictDisplay (opt1 qs)) (mkS pre k os) p = some (.ref pre.length, mkS (pre ++ dictO (entsAll (m + 1) k L) L.length :: subsAll m (k + 51) (L.drop 17)) (k + 51 * (m + 1) + 12) os, p.a pos (330 * m + 305)) := by
  unfold dictDisplay
  dsimp only
  have hql := hq.length
  obtain ⟨q1, q2⟩ := hq.split (n := 17)
  have hl1 : (L.take 17).length = 17 := by simp; omega
  have hql1 : (qs.take 17).length = 17 := by simp; omega
  have p1 : (L.take 17).Pairwise fun a b => a.1 < b.1 := ha.sublist (List.take_sublist ..)
  have e0 : opt1 qs = opt1 (qs.take 17 ++ qs.drop 17) := by rw [List.take_append_drop]
  have gen : ∀ f : (Option (Sem Value) × Sem Value) → (Option Addr × Trees) → Sem (ForInStep (Option Addr × Trees)),
      (∀ (q : Sem Value × Sem Value) main run, run.length + 1 ≠ 17 → f (some q.1, q.2) (main, run) = pure (.yield (main, run ++ [q]))) →
      (∀ (q : Sem Value × Sem Value) main run, run.length + 1 = 17 → f (some q.1, q.2) (main, run) = (fl (run ++ [q]) main >>= fun m => pure (.yield (m, [])))) →
      runS st (forIn (opt1 qs) ((none : Option Addr), ([] : Trees)) f >>= fun s => fl s.2 s.1) (mkS pre k os) p =
        some (some pre.length, mkS (pre ++ dictO (entsAll (m + 1) k L) L.length :: subsAll m (k + 51) (L.drop 17)) (k + 51 * (m + 1) + 12) os, p.a pos (330 * m + 305)) := fun f hA hB => by
    rw [e0, chunk hA hB none _ _ hql1, bind_assoc]
    have hs := run_sub_long (st := st) (l := pre) (k := k) (os := os) (p := p) q1 hd ⟨(fun e h => nomatch h), p1⟩ hl1
    have hf : runS st (fl (qs.take 17) none) (mkS pre k os) p = some (some pre.length, mkS (pre ++ dictO (ents k (L.take 17)) 17 :: []) (k + 51) os, p.a pos 223) := by
      unfold fl
      rw [if_neg (by intro e; rw [List.isEmpty_iff] at e; rw [e] at hql1; simp at hql1)]
      simp only []
      rw [runS_bind hs]; rfl
    rw [runS_bind hf]
    have hab : Above (ents k (L.take 17)) (L.drop 17) := by
      refine ⟨fun e h kv hkv => ?_, ha.sublist (List.drop_sublist ..)⟩
      obtain ⟨kv', h3, t, rfl⟩ := mem_ents h
      have := ha
      rw [← List.take_append_drop 17 L, List.pairwise_append] at this
      exact this.2.2 kv' h3 kv hkv
    rw [run_loop hA hB m hd q2 (by simp; omega) (by intro e; have := ents_length (L.take 17) k; rw [e, hl1] at this; cases this) (pair_ents p1) hab (by rw [ents_length, hl1]; simp; omega)]
    simp only [entsAll, List.nil_append]
    have h1 : 17 + (L.drop 17).length = L.length := by simp; omega
    have h2 : k + 51 + 51 * m + 12 = k + 51 * (m + 1) + 12 := by omega
    have e3 : (p.a pos 223).a pos (330 * m + 82) = p.a pos (330 * m + 305) := by simp only [PC.a]; congr 1; omega
    rw [h1, h2, e3]
  show runS st (forIn (opt1 qs) ((none : Option Addr), ([] : Trees)) _ >>= fun s => (fl s.2 s.1 >>= fun x => match x with | some d => (pure (Value.ref d) : Sem Value) | none => newDict)) (mkS pre k os) p = _
  rw [← bind_assoc, runS_bind (gen _ ?_ ?_)]
  · rfl
  · intro q main run h
    have : ((run ++ [(q.1, q.2)]).length == 17) = false := by rw [beq_eq_false_iff_ne]; simpa using h
    simp only [this, Bool.false_eq_true, if_false]
  · intro q main run h
    have : ((run ++ [(q.1, q.2)]).length == 17) = true := by rw [beq_iff_eq]; simpa using h
    simp only [this, if_true]
    rfl
end Mine

end
section
open PySem PySem.W PyProof.Rows PySem.Calls
set_option Elab.async false
set_option maxRecDepth 100000
set_option maxHeartbeats 0
noncomputable section
namespace Mine
noncomputable abbrev pg : Program := PySem.Challenge.pw_rs0173_01
noncomputable def stm (i : Nat) : Stmt := (pg.main.body[i]?).getD (.Pass default)
noncomputable def mth (j : Nat) : Stmt := match stm 1 with
  | .ClassDef _ _ _ b _ _ _ _ _ _ _ => (b[j]?).getD (.Pass default)
  | _ => .Pass default
noncomputable def sArgs : Stmt → Arguments
  | .FunctionDef _ a _ _ _ _ _ _ _ _ => a
  | _ => ⟨[], [], none, [], [], none, []⟩
noncomputable def sBody : Stmt → List Stmt
  | .FunctionDef _ _ b _ _ _ _ _ _ _ => b
  | _ => []
noncomputable def sScope : Stmt → Scope
  | .FunctionDef _ _ _ _ _ _ s _ _ _ => s
  | _ => default
noncomputable def dKeys : Stmt → List (Option Expr)
  | .Assign _ (.Dict ks _ _) _ => ks
  | _ => []
noncomputable def dVals : Stmt → List Expr
  | .Assign _ (.Dict _ vs _) _ => vs
  | _ => []
noncomputable def dPos : Stmt → Pos
  | .Assign _ (.Dict _ _ p) _ => p
  | _ => default
noncomputable def litKey : (o : Option Expr) → Option {k : Int // ∃ a b, o = some (.Constant (.int k) a b)}
  | some (.Constant (.int k) a b) => some ⟨k, a, b, rfl⟩
  | _ => none
noncomputable def litVal : (e : Expr) → Option {v : Str // ∃ a b, e = .Constant (.str v) a b}
  | .Constant (.str v) a b => some ⟨v, a, b, rfl⟩
  | _ => none
noncomputable def litPairs : List (Option Expr) → List Expr → Option (List (Int × Str))
  | [], vs => match vs with
    | [] => some []
    | _ :: _ => none
  | k :: ks, vs => match vs with
    | [] => none
    | v :: vs => (litKey k).bind fun k => (litVal v).bind fun v => (litPairs ks vs).bind fun r => if 0 ≤ k.1 ∧ k.1 < 1000000 then some ((k.1, v.1) :: r) else none
noncomputable def b3L : List (Int × Str) := (litPairs (dKeys (stm 10)) (dVals (stm 10))).getD []
noncomputable def b3Obj : Obj := dictO (entsAll 38 486 b3L) 650
noncomputable def b3Sub (j : Nat) : Obj := (subsAll 37 537 (b3L.drop 17)).getD j default
noncomputable def env0 : Env := { scope := pg.main.scope, locals := mainNs, globals := mainNs, cells := [], code := .ref 13, frame := some 14 }
noncomputable def cE : Code := .body (behindTheImports pg) env0
noncomputable def B0 : List PySem.Frame := [topFrame ⟨0, 0, 0, 0⟩]
noncomputable def o11_1 (_P : Params) : Obj :=
  ⟨(.type "tuple"), none, (.seq #[] 0), #[]⟩
noncomputable def o12_1 (_P : Params) : Obj :=
  ⟨.none, none, (.fields #[]), #[]⟩
noncomputable def o13_1 (_P : Params) : Obj :=
  ⟨(.type "code"), none, (.fields #[(.str (Str.ofString "<module>") 182), (.str (Str.ofString "<module>") 183), (.str (Str.ofString "/claim/cut.py") 184), (.int 1 0), (.int 0 0), (.int 0 0), (.int 0 0), (.int 0 0), (.ref 11), (.bool false), (.int 181 0), (.ref 12), .none, .none, .none, .none, (.int 185 0), (.int 1 0), (.str (Str.ofString "/claim/cut.py") 186)]), #[]⟩
noncomputable def o14_1 (_P : Params) : Obj :=
  ⟨(.type "frame"), none, .plain, #[(some (.ref 13)), (some (.ref 3)), (some (.ref 3)), none, (some (.str (Str.ofString "__main__") 164)), none, (some (.ref 0))]⟩
noncomputable def Ta (P : Params) : BT :=
  (.node (boot_o_0 P) (.node (boot_o_1 P) (.node (boot_o_3 P) (.node (boot_o_7 P) .nil .nil) (.node (o11_1 P) .nil .nil)) (.node (boot_o_5 P) (.node (boot_o_9 P) .nil .nil) (.node (o13_1 P) .nil .nil))) (.node (boot_o_2 P) (.node (boot_o_4 P) (.node (boot_o_8 P) .nil .nil) (.node (o12_1 P) .nil .nil)) (.node (boot_o_6 P) (.node (boot_o_10 P) .nil .nil) (.node (o14_1 P) .nil .nil))))
noncomputable def o3_2 (P : Params) : Obj :=
  ⟨(.type "dict"), none, (.dict #[⟨(PyData.keyHash P (Str.ofString "__name__")), (.str (Str.ofString "__name__") 165), (.str (Str.ofString "re") 251)⟩, ⟨(PyData.keyHash P (Str.ofString "__doc__")), (.str (Str.ofString "__doc__") 166), .none⟩, ⟨(PyData.keyHash P (Str.ofString "__package__")), (.str (Str.ofString "__package__") 167), .none⟩, ⟨(PyData.keyHash P (Str.ofString "__loader__")), (.str (Str.ofString "__loader__") 168), (.builtin "__main__.__loader__#opaque")⟩, ⟨(PyData.keyHash P (Str.ofString "__spec__")), (.str (Str.ofString "__spec__") 169), .none⟩, ⟨(PyData.keyHash P (Str.ofString "__annotations__")), (.str (Str.ofString "__annotations__") 170), (.ref 6)⟩, ⟨(PyData.keyHash P (Str.ofString "__builtins__")), (.str (Str.ofString "__builtins__") 171), (.ref 4)⟩, ⟨(PyData.keyHash P (Str.ofString "__file__")), (.str (Str.ofString "__file__") 173), (.str (Str.ofString "/claim/cut.py") 172)⟩, ⟨(PyData.keyHash P (Str.ofString "__cached__")), (.str (Str.ofString "__cached__") 174), .none⟩, ⟨(PyData.keyHash P (Str.ofString "Entry")), (.str (Str.ofString "Entry") 250), (.ref 52)⟩] 10), #[]⟩
noncomputable def o12_2 (_P : Params) : Obj :=
  ⟨.none, none, (.fields #[(.int 2 0), (.int 0 0), (.ref 20)]), #[]⟩
noncomputable def o15_2 (_P : Params) : Obj :=
  ⟨(.type "tuple"), none, (.seq #[] 0), #[]⟩
noncomputable def o16_2 (_P : Params) : Obj :=
  ⟨(.type "builtin_function_or_method"), none, (.fields #[(.builtin "type.__prepare__"), (.type "type")]), #[]⟩
noncomputable def o17_2 (P : Params) : Obj :=
  ⟨(.type "dict"), none, (.dict #[⟨(PyData.keyHash P (Str.ofString "__module__")), (.str (Str.ofString "__module__") 196), (.str (Str.ofString "cpy313.urllib.robotparser") 187)⟩, ⟨(PyData.keyHash P (Str.ofString "__qualname__")), (.str (Str.ofString "__qualname__") 198), (.str (Str.ofString "Entry") 197)⟩, ⟨(PyData.keyHash P (Str.ofString "__firstlineno__")), (.str (Str.ofString "__firstlineno__") 200), (.int 2 199)⟩, ⟨(PyData.keyHash P (Str.ofString "__init__")), (.str (Str.ofString "__init__") 207), (.ref 28)⟩, ⟨(PyData.keyHash P (Str.ofString "__str__")), (.str (Str.ofString "__str__") 217), (.ref 35)⟩, ⟨(PyData.keyHash P (Str.ofString "applies_to")), (.str (Str.ofString "applies_to") 226), (.ref 42)⟩, ⟨(PyData.keyHash P (Str.ofString "allowance")), (.str (Str.ofString "allowance") 238), (.ref 49)⟩, ⟨(PyData.keyHash P (Str.ofString "__static_attributes__")), (.str (Str.ofString "__static_attributes__") 243), (.ref 50)⟩] 8), #[]⟩
noncomputable def o18_2 (_P : Params) : Obj :=
  ⟨(.type "tuple"), none, (.seq #[] 0), #[]⟩
noncomputable def o19_2 (_P : Params) : Obj :=
  ⟨.none, none, (.fields #[(.int 4 0), (.int 4 0), (.ref 27), (.int 10 0), (.int 4 0), (.ref 34), (.int 27 0), (.int 4 0), (.ref 41), (.int 38 0), (.int 4 0), (.ref 48)]), #[]⟩
noncomputable def o20_2 (_P : Params) : Obj :=
  ⟨(.type "code"), none, (.fields #[(.str (Str.ofString "Entry") 191), (.str (Str.ofString "Entry") 192), (.str (Str.ofString "/claim/cut.py") 193), (.int 2 0), (.int 0 0), (.int 0 0), (.int 0 0), (.int 0 0), (.ref 18), (.bool false), (.int 181 0), (.ref 19), .none, .none, .none, .none, (.int 194 0), (.int 2 0), (.str (Str.ofString "/claim/cut.py") 195)]), #[]⟩
noncomputable def o21_2 (_P : Params) : Obj :=
  ⟨(.type "frame"), none, .plain, #[(some (.ref 20)), (some (.ref 3)), (some (.ref 17)), none, (some (.str (Str.ofString "cpy313.urllib.robotparser") 187)), none, (some (.ref 0))]⟩
noncomputable def o22_2 (_P : Params) : Obj :=
  ⟨(.type "tuple"), none, (.seq #[] 0), #[]⟩
noncomputable def o23_2 (_P : Params) : Obj :=
  ⟨.none, none, (.fields #[]), #[]⟩
noncomputable def o24_2 (_P : Params) : Obj :=
  ⟨(.type "tuple"), none, (.seq #[(.str (Str.ofString "self") 204)] 0), #[]⟩
noncomputable def o25_2 (_P : Params) : Obj :=
  ⟨(.type "tuple"), none, (.seq #[] 0), #[]⟩
noncomputable def o26_2 (_P : Params) : Obj :=
  ⟨.none, none, (.func { name := (Str.ofString "__init__"), qualname := (Str.ofString "Entry.__init__"), params := sArgs (mth 0), body := .stmts (sBody (mth 0)), scope := sScope (mth 0), globals := 0, closure := [], defaults := .none, kwdefaults := .none, doc := .none, pyModule := .none, annotations := none, code := .none, closureTuple := .none, builtins := 0 }), #[]⟩
noncomputable def o27_2 (_P : Params) : Obj :=
  ⟨(.type "code"), none, (.fields #[(.str (Str.ofString "__init__") 201), (.str (Str.ofString "Entry.__init__") 202), (.str (Str.ofString "/claim/cut.py") 203), (.int 4 0), (.int 1 0), (.int 0 0), (.int 0 0), (.int 3 0), (.ref 22), (.bool true), (.int 181 0), (.ref 23), .none, (.ref 24), (.ref 25), (.ref 26), (.int 205 0), (.int 4 0), (.str (Str.ofString "/claim/cut.py") 206)]), #[]⟩
noncomputable def o28_2 (_P : Params) : Obj :=
  ⟨(.type "function"), none, (.func { name := (Str.ofString "__init__"), qualname := (Str.ofString "Entry.__init__"), params := sArgs (mth 0), body := .stmts (sBody (mth 0)), scope := sScope (mth 0), globals := 3, closure := [], defaults := .none, kwdefaults := .none, doc := .none, pyModule := (.str (Str.ofString "cpy313.urllib.robotparser") 187), annotations := none, code := (.ref 27), closureTuple := .none, builtins := 0 }), #[]⟩
noncomputable def o29_2 (_P : Params) : Obj :=
  ⟨(.type "tuple"), none, (.seq #[] 0), #[]⟩
noncomputable def o30_2 (_P : Params) : Obj :=
  ⟨.none, none, (.fields #[]), #[]⟩
noncomputable def o31_2 (_P : Params) : Obj :=
  ⟨(.type "tuple"), none, (.seq #[(.str (Str.ofString "self") 211), (.str (Str.ofString "ret") 212), (.str (Str.ofString "agent") 213), (.str (Str.ofString "rate") 214)] 0), #[]⟩
noncomputable def o32_2 (_P : Params) : Obj :=
  ⟨(.type "tuple"), none, (.seq #[] 0), #[]⟩
noncomputable def o33_2 (_P : Params) : Obj :=
  ⟨.none, none, (.func { name := (Str.ofString "__str__"), qualname := (Str.ofString "Entry.__str__"), params := sArgs (mth 1), body := .stmts (sBody (mth 1)), scope := sScope (mth 1), globals := 0, closure := [], defaults := .none, kwdefaults := .none, doc := .none, pyModule := .none, annotations := none, code := .none, closureTuple := .none, builtins := 0 }), #[]⟩
noncomputable def o34_2 (_P : Params) : Obj :=
  ⟨(.type "code"), none, (.fields #[(.str (Str.ofString "__str__") 208), (.str (Str.ofString "Entry.__str__") 209), (.str (Str.ofString "/claim/cut.py") 210), (.int 10 0), (.int 1 0), (.int 0 0), (.int 0 0), (.int 3 0), (.ref 29), (.bool true), (.int 181 0), (.ref 30), .none, (.ref 31), (.ref 32), (.ref 33), (.int 215 0), (.int 10 0), (.str (Str.ofString "/claim/cut.py") 216)]), #[]⟩
noncomputable def o35_2 (_P : Params) : Obj :=
  ⟨(.type "function"), none, (.func { name := (Str.ofString "__str__"), qualname := (Str.ofString "Entry.__str__"), params := sArgs (mth 1), body := .stmts (sBody (mth 1)), scope := sScope (mth 1), globals := 3, closure := [], defaults := .none, kwdefaults := .none, doc := .none, pyModule := (.str (Str.ofString "cpy313.urllib.robotparser") 187), annotations := none, code := (.ref 34), closureTuple := .none, builtins := 0 }), #[]⟩
noncomputable def o36_2 (_P : Params) : Obj :=
  ⟨(.type "tuple"), none, (.seq #[] 0), #[]⟩
noncomputable def o37_2 (_P : Params) : Obj :=
  ⟨.none, none, (.fields #[]), #[]⟩
noncomputable def o38_2 (_P : Params) : Obj :=
  ⟨(.type "tuple"), none, (.seq #[(.str (Str.ofString "self") 221), (.str (Str.ofString "useragent") 222), (.str (Str.ofString "agent") 223)] 0), #[]⟩
noncomputable def o39_2 (_P : Params) : Obj :=
  ⟨(.type "tuple"), none, (.seq #[] 0), #[]⟩
noncomputable def o40_2 (_P : Params) : Obj :=
  ⟨.none, none, (.func { name := (Str.ofString "applies_to"), qualname := (Str.ofString "Entry.applies_to"), params := sArgs (mth 2), body := .stmts (sBody (mth 2)), scope := sScope (mth 2), globals := 0, closure := [], defaults := .none, kwdefaults := .none, doc := .none, pyModule := .none, annotations := none, code := .none, closureTuple := .none, builtins := 0 }), #[]⟩
noncomputable def o41_2 (_P : Params) : Obj :=
  ⟨(.type "code"), none, (.fields #[(.str (Str.ofString "applies_to") 218), (.str (Str.ofString "Entry.applies_to") 219), (.str (Str.ofString "/claim/cut.py") 220), (.int 27 0), (.int 2 0), (.int 0 0), (.int 0 0), (.int 3 0), (.ref 36), (.bool true), (.int 181 0), (.ref 37), .none, (.ref 38), (.ref 39), (.ref 40), (.int 224 0), (.int 27 0), (.str (Str.ofString "/claim/cut.py") 225)]), #[]⟩
noncomputable def o42_2 (_P : Params) : Obj :=
  ⟨(.type "function"), none, (.func { name := (Str.ofString "applies_to"), qualname := (Str.ofString "Entry.applies_to"), params := sArgs (mth 2), body := .stmts (sBody (mth 2)), scope := sScope (mth 2), globals := 3, closure := [], defaults := .none, kwdefaults := .none, doc := .none, pyModule := (.str (Str.ofString "cpy313.urllib.robotparser") 187), annotations := none, code := (.ref 41), closureTuple := .none, builtins := 0 }), #[]⟩
noncomputable def o43_2 (_P : Params) : Obj :=
  ⟨(.type "tuple"), none, (.seq #[] 0), #[]⟩
noncomputable def o44_2 (_P : Params) : Obj :=
  ⟨.none, none, (.fields #[]), #[]⟩
noncomputable def o45_2 (_P : Params) : Obj :=
  ⟨(.type "tuple"), none, (.seq #[(.str (Str.ofString "self") 230), (.str (Str.ofString "filename") 231), (.str (Str.ofString "best_match") 232), (.str (Str.ofString "allowance") 233), (.str (Str.ofString "line") 234), (.str (Str.ofString "m") 235)] 0), #[]⟩
noncomputable def o46_2 (_P : Params) : Obj :=
  ⟨(.type "tuple"), none, (.seq #[] 0), #[]⟩
noncomputable def o47_2 (_P : Params) : Obj :=
  ⟨.none, none, (.func { name := (Str.ofString "allowance"), qualname := (Str.ofString "Entry.allowance"), params := sArgs (mth 3), body := .stmts (sBody (mth 3)), scope := sScope (mth 3), globals := 0, closure := [], defaults := .none, kwdefaults := .none, doc := .none, pyModule := .none, annotations := none, code := .none, closureTuple := .none, builtins := 0 }), #[]⟩
noncomputable def o48_2 (_P : Params) : Obj :=
  ⟨(.type "code"), none, (.fields #[(.str (Str.ofString "allowance") 227), (.str (Str.ofString "Entry.allowance") 228), (.str (Str.ofString "/claim/cut.py") 229), (.int 38 0), (.int 2 0), (.int 0 0), (.int 0 0), (.int 3 0), (.ref 43), (.bool true), (.int 181 0), (.ref 44), .none, (.ref 45), (.ref 46), (.ref 47), (.int 236 0), (.int 38 0), (.str (Str.ofString "/claim/cut.py") 237)]), #[]⟩
noncomputable def o49_2 (_P : Params) : Obj :=
  ⟨(.type "function"), none, (.func { name := (Str.ofString "allowance"), qualname := (Str.ofString "Entry.allowance"), params := sArgs (mth 3), body := .stmts (sBody (mth 3)), scope := sScope (mth 3), globals := 3, closure := [], defaults := .none, kwdefaults := .none, doc := .none, pyModule := (.str (Str.ofString "cpy313.urllib.robotparser") 187), annotations := none, code := (.ref 48), closureTuple := .none, builtins := 0 }), #[]⟩
noncomputable def o50_2 (_P : Params) : Obj :=
  ⟨(.type "tuple"), none, (.seq #[(.str (Str.ofString "delay") 239), (.str (Str.ofString "req_rate") 240), (.str (Str.ofString "rulelines") 241), (.str (Str.ofString "useragents") 242)] 0), #[]⟩
noncomputable def o51_2 (P : Params) : Obj :=
  ⟨(.type "dict"), none, (.dict #[⟨(PyData.keyHash P (Str.ofString "__module__")), (.str (Str.ofString "__module__") 196), (.str (Str.ofString "cpy313.urllib.robotparser") 187)⟩, ⟨(PyData.keyHash P (Str.ofString "__firstlineno__")), (.str (Str.ofString "__firstlineno__") 200), (.int 2 199)⟩, ⟨(PyData.keyHash P (Str.ofString "__init__")), (.str (Str.ofString "__init__") 207), (.ref 28)⟩, ⟨(PyData.keyHash P (Str.ofString "__str__")), (.str (Str.ofString "__str__") 217), (.ref 35)⟩, ⟨(PyData.keyHash P (Str.ofString "applies_to")), (.str (Str.ofString "applies_to") 226), (.ref 42)⟩, ⟨(PyData.keyHash P (Str.ofString "allowance")), (.str (Str.ofString "allowance") 238), (.ref 49)⟩, ⟨(PyData.keyHash P (Str.ofString "__static_attributes__")), (.str (Str.ofString "__static_attributes__") 243), (.ref 50)⟩, ⟨(PyData.keyHash P (Str.ofString "__dict__")), (.str (Str.ofString "__dict__") 245), (.ref 53)⟩, ⟨(PyData.keyHash P (Str.ofString "__weakref__")), (.str (Str.ofString "__weakref__") 247), (.ref 54)⟩, ⟨(PyData.keyHash P (Str.ofString "__doc__")), (.str (Str.ofString "__doc__") 248), .none⟩] 4), #[]⟩
noncomputable def o52_2 (_P : Params) : Obj :=
  ⟨(.type "type"), none, (.cls { name := (Str.ofString "Entry"), bases := [(.type "object")], mro := [(.ref 52), (.type "object")], ns := 51, qualname := (Str.ofString "Entry"), hasDict := true, slotNames := [], subclasses := [], abstract := false, collection := none, hasDel := false }), #[none, none, (some (.str (Str.ofString "Entry") 189)), (some (.str (Str.ofString "Entry") 197)), (some (.builtin "object.__new__")), (some (.bool true))]⟩
noncomputable def o53_2 (_P : Params) : Obj :=
  ⟨(.type "getset_descriptor"), none, (.fields #[(.str (Str.ofString "__dict__") 244), (.ref 52), (.builtin "function.__dict__"), (.builtin "function.__dict__#set")]), #[]⟩
noncomputable def o54_2 (_P : Params) : Obj :=
  ⟨(.type "getset_descriptor"), none, (.fields #[(.str (Str.ofString "__weakref__") 246), (.ref 52), (.builtin "ExceptionGroup.__weakref__"), .none]), #[]⟩
noncomputable def o55_2 (_P : Params) : Obj :=
  ⟨(.type "super"), none, (.fields #[(.ref 52), (.ref 52), (.ref 52)]), #[]⟩
noncomputable def o56_2 (_P : Params) : Obj :=
  ⟨(.type "builtin_function_or_method"), none, (.fields #[(.builtin "object.__init_subclass__"), (.ref 52)]), #[]⟩
noncomputable def T3 (P : Params) : BT :=
  (.node (boot_o_0 P) (.node (boot_o_1 P) (.node (o3_2 P) (.node (boot_o_7 P) (.node (o15_2 P) (.node (o31_2 P) .nil .nil) (.node (o47_2 P) .nil .nil)) (.node (o23_2 P) (.node (o39_2 P) .nil .nil) (.node (o55_2 P) .nil .nil))) (.node (o11_1 P) (.node (o19_2 P) (.node (o35_2 P) .nil .nil) (.node (o51_2 P) .nil .nil)) (.node (o27_2 P) (.node (o43_2 P) .nil .nil) .nil))) (.node (boot_o_5 P) (.node (boot_o_9 P) (.node (o17_2 P) (.node (o33_2 P) .nil .nil) (.node (o49_2 P) .nil .nil)) (.node (o25_2 P) (.node (o41_2 P) .nil .nil) .nil)) (.node (o13_1 P) (.node (o21_2 P) (.node (o37_2 P) .nil .nil) (.node (o53_2 P) .nil .nil)) (.node (o29_2 P) (.node (o45_2 P) .nil .nil) .nil)))) (.node (boot_o_2 P) (.node (boot_o_4 P) (.node (boot_o_8 P) (.node (o16_2 P) (.node (o32_2 P) .nil .nil) (.node (o48_2 P) .nil .nil)) (.node (o24_2 P) (.node (o40_2 P) .nil .nil) (.node (o56_2 P) .nil .nil))) (.node (o12_2 P) (.node (o20_2 P) (.node (o36_2 P) .nil .nil) (.node (o52_2 P) .nil .nil)) (.node (o28_2 P) (.node (o44_2 P) .nil .nil) .nil))) (.node (boot_o_6 P) (.node (boot_o_10 P) (.node (o18_2 P) (.node (o34_2 P) .nil .nil) (.node (o50_2 P) .nil .nil)) (.node (o26_2 P) (.node (o42_2 P) .nil .nil) .nil)) (.node (o14_1 P) (.node (o22_2 P) (.node (o38_2 P) .nil .nil) (.node (o54_2 P) .nil .nil)) (.node (o30_2 P) (.node (o46_2 P) .nil .nil) .nil)))))
noncomputable def o3_3 (P : Params) : Obj :=
  ⟨(.type "dict"), none, (.dict #[⟨(PyData.keyHash P (Str.ofString "__name__")), (.str (Str.ofString "__name__") 165), (.str (Str.ofString "re") 251)⟩, ⟨(PyData.keyHash P (Str.ofString "__doc__")), (.str (Str.ofString "__doc__") 166), .none⟩, ⟨(PyData.keyHash P (Str.ofString "__package__")), (.str (Str.ofString "__package__") 167), .none⟩, ⟨(PyData.keyHash P (Str.ofString "__loader__")), (.str (Str.ofString "__loader__") 168), (.builtin "__main__.__loader__#opaque")⟩, ⟨(PyData.keyHash P (Str.ofString "__spec__")), (.str (Str.ofString "__spec__") 169), .none⟩, ⟨(PyData.keyHash P (Str.ofString "__annotations__")), (.str (Str.ofString "__annotations__") 170), (.ref 6)⟩, ⟨(PyData.keyHash P (Str.ofString "__builtins__")), (.str (Str.ofString "__builtins__") 171), (.ref 4)⟩, ⟨(PyData.keyHash P (Str.ofString "__file__")), (.str (Str.ofString "__file__") 173), (.str (Str.ofString "/claim/cut.py") 172)⟩, ⟨(PyData.keyHash P (Str.ofString "__cached__")), (.str (Str.ofString "__cached__") 174), .none⟩, ⟨(PyData.keyHash P (Str.ofString "Entry")), (.str (Str.ofString "Entry") 250), (.ref 52)⟩, ⟨(PyData.keyHash P (Str.ofString "_special_chars_map")), (.str (Str.ofString "_special_chars_map") 398), (.ref 58)⟩] 11), #[]⟩
noncomputable def o57_3 (_P : Params) : Obj :=
  ⟨(.type "bytes_iterator"), none, (.fields #[.none, (.int 24 0)]), #[]⟩
noncomputable def o58_3 (_P : Params) : Obj :=
  ⟨(.type "dict"), none, (.dict #[⟨40, (.int 40 254), (.str (Str.ofString "\\(") 258)⟩, ⟨41, (.int 41 260), (.str (Str.ofString "\\)") 264)⟩, ⟨91, (.int 91 266), (.str (Str.ofString "\\[") 270)⟩, ⟨93, (.int 93 272), (.str (Str.ofString "\\]") 276)⟩, ⟨123, (.int 123 278), (.str (Str.ofString "\\{") 282)⟩, ⟨125, (.int 125 284), (.str (Str.ofString "\\}") 288)⟩, ⟨63, (.int 63 290), (.str (Str.ofString "\\?") 294)⟩, ⟨42, (.int 42 296), (.str (Str.ofString "\\*") 300)⟩, ⟨43, (.int 43 302), (.str (Str.ofString "\\+") 306)⟩, ⟨45, (.int 45 308), (.str (Str.ofString "\\-") 312)⟩, ⟨124, (.int 124 314), (.str (Str.ofString "\\|") 318)⟩, ⟨94, (.int 94 320), (.str (Str.ofString "\\^") 324)⟩, ⟨36, (.int 36 326), (.str (Str.ofString "\\$") 330)⟩, ⟨92, (.int 92 332), (.str (Str.ofString "\\\\") 336)⟩, ⟨46, (.int 46 338), (.str (Str.ofString "\\.") 342)⟩, ⟨38, (.int 38 344), (.str (Str.ofString "\\&") 348)⟩, ⟨126, (.int 126 350), (.str (Str.ofString "\\~") 354)⟩, ⟨35, (.int 35 356), (.str (Str.ofString "\\#") 360)⟩, ⟨32, (.int 32 362), (.str (Str.ofString "\\ ") 366)⟩, ⟨9, (.int 9 368), (.str (Str.ofString "\\\t") 372)⟩, ⟨10, (.int 10 374), (.str (Str.ofString "\\\n") 378)⟩, ⟨13, (.int 13 380), (.str (Str.ofString "\\\x0d") 384)⟩, ⟨11, (.int 11 386), (.str (Str.ofString "\\\x0b") 390)⟩, ⟨12, (.int 12 392), (.str (Str.ofString "\\\x0c") 396)⟩] 24), #[]⟩
noncomputable def o59_3 (_P : Params) : Obj :=
  ⟨(.type "dict"), none, (.dict #[] 2), #[]⟩
noncomputable def o60_3 (_P : Params) : Obj :=
  ⟨(.type "tuple"), none, (.seq #[] 0), #[]⟩
noncomputable def o61_3 (_P : Params) : Obj :=
  ⟨(.type "StopIteration"), none, (.fields #[(.ref 60), .none, .none, .none, (.bool false), .none]), #[]⟩
noncomputable def T4 (P : Params) : BT :=
  (.node (boot_o_0 P) (.node (boot_o_1 P) (.node (o3_3 P) (.node (boot_o_7 P) (.node (o15_2 P) (.node (o31_2 P) .nil .nil) (.node (o47_2 P) .nil .nil)) (.node (o23_2 P) (.node (o39_2 P) .nil .nil) (.node (o55_2 P) .nil .nil))) (.node (o11_1 P) (.node (o19_2 P) (.node (o35_2 P) .nil .nil) (.node (o51_2 P) .nil .nil)) (.node (o27_2 P) (.node (o43_2 P) .nil .nil) (.node (o59_3 P) .nil .nil)))) (.node (boot_o_5 P) (.node (boot_o_9 P) (.node (o17_2 P) (.node (o33_2 P) .nil .nil) (.node (o49_2 P) .nil .nil)) (.node (o25_2 P) (.node (o41_2 P) .nil .nil) (.node (o57_3 P) .nil .nil))) (.node (o13_1 P) (.node (o21_2 P) (.node (o37_2 P) .nil .nil) (.node (o53_2 P) .nil .nil)) (.node (o29_2 P) (.node (o45_2 P) .nil .nil) (.node (o61_3 P) .nil .nil))))) (.node (boot_o_2 P) (.node (boot_o_4 P) (.node (boot_o_8 P) (.node (o16_2 P) (.node (o32_2 P) .nil .nil) (.node (o48_2 P) .nil .nil)) (.node (o24_2 P) (.node (o40_2 P) .nil .nil) (.node (o56_2 P) .nil .nil))) (.node (o12_2 P) (.node (o20_2 P) (.node (o36_2 P) .nil .nil) (.node (o52_2 P) .nil .nil)) (.node (o28_2 P) (.node (o44_2 P) .nil .nil) (.node (o60_3 P) .nil .nil)))) (.node (boot_o_6 P) (.node (boot_o_10 P) (.node (o18_2 P) (.node (o34_2 P) .nil .nil) (.node (o50_2 P) .nil .nil)) (.node (o26_2 P) (.node (o42_2 P) .nil .nil) (.node (o58_3 P) .nil .nil))) (.node (o14_1 P) (.node (o22_2 P) (.node (o38_2 P) .nil .nil) (.node (o54_2 P) .nil .nil)) (.node (o30_2 P) (.node (o46_2 P) .nil .nil) .nil)))))
noncomputable def o3_4 (P : Params) : Obj :=
  ⟨(.type "dict"), none, (.dict #[⟨(PyData.keyHash P (Str.ofString "__name__")), (.str (Str.ofString "__name__") 165), (.str (Str.ofString "cpy313.stringprep") 417)⟩, ⟨(PyData.keyHash P (Str.ofString "__doc__")), (.str (Str.ofString "__doc__") 166), .none⟩, ⟨(PyData.keyHash P (Str.ofString "__package__")), (.str (Str.ofString "__package__") 167), .none⟩, ⟨(PyData.keyHash P (Str.ofString "__loader__")), (.str (Str.ofString "__loader__") 168), (.builtin "__main__.__loader__#opaque")⟩, ⟨(PyData.keyHash P (Str.ofString "__spec__")), (.str (Str.ofString "__spec__") 169), .none⟩, ⟨(PyData.keyHash P (Str.ofString "__annotations__")), (.str (Str.ofString "__annotations__") 170), (.ref 6)⟩, ⟨(PyData.keyHash P (Str.ofString "__builtins__")), (.str (Str.ofString "__builtins__") 171), (.ref 4)⟩, ⟨(PyData.keyHash P (Str.ofString "__file__")), (.str (Str.ofString "__file__") 173), (.str (Str.ofString "/claim/cut.py") 172)⟩, ⟨(PyData.keyHash P (Str.ofString "__cached__")), (.str (Str.ofString "__cached__") 174), .none⟩, ⟨(PyData.keyHash P (Str.ofString "Entry")), (.str (Str.ofString "Entry") 250), (.ref 52)⟩, ⟨(PyData.keyHash P (Str.ofString "_special_chars_map")), (.str (Str.ofString "_special_chars_map") 398), (.ref 58)⟩, ⟨(PyData.keyHash P (Str.ofString "escape")), (.str (Str.ofString "escape") 405), (.ref 68)⟩, ⟨(PyData.keyHash P (Str.ofString "translate_pattern")), (.str (Str.ofString "translate_pattern") 416), (.ref 75)⟩] 13), #[]⟩
noncomputable def o12_4 (_P : Params) : Obj :=
  ⟨.none, none, (.fields #[(.int 2 0), (.int 0 0), (.ref 20), (.int 52 0), (.int 0 0), (.ref 67), (.int 59 0), (.int 0 0), (.ref 74)]), #[]⟩
noncomputable def o62_4 (_P : Params) : Obj :=
  ⟨(.type "tuple"), none, (.seq #[] 0), #[]⟩
noncomputable def o63_4 (_P : Params) : Obj :=
  ⟨.none, none, (.fields #[]), #[]⟩
noncomputable def o64_4 (_P : Params) : Obj :=
  ⟨(.type "tuple"), none, (.seq #[(.str (Str.ofString "pattern") 402)] 0), #[]⟩
noncomputable def o65_4 (_P : Params) : Obj :=
  ⟨(.type "tuple"), none, (.seq #[] 0), #[]⟩
noncomputable def o66_4 (_P : Params) : Obj :=
  ⟨.none, none, (.func { name := (Str.ofString "escape"), qualname := (Str.ofString "escape"), params := sArgs (stm 4), body := .stmts (sBody (stm 4)), scope := sScope (stm 4), globals := 0, closure := [], defaults := .none, kwdefaults := .none, doc := .none, pyModule := .none, annotations := none, code := .none, closureTuple := .none, builtins := 0 }), #[]⟩
noncomputable def o67_4 (_P : Params) : Obj :=
  ⟨(.type "code"), none, (.fields #[(.str (Str.ofString "escape") 399), (.str (Str.ofString "escape") 400), (.str (Str.ofString "/claim/cut.py") 401), (.int 52 0), (.int 1 0), (.int 0 0), (.int 0 0), (.int 3 0), (.ref 62), (.bool true), (.int 181 0), (.ref 63), .none, (.ref 64), (.ref 65), (.ref 66), (.int 403 0), (.int 52 0), (.str (Str.ofString "/claim/cut.py") 404)]), #[]⟩
noncomputable def o68_4 (_P : Params) : Obj :=
  ⟨(.type "function"), none, (.func { name := (Str.ofString "escape"), qualname := (Str.ofString "escape"), params := sArgs (stm 4), body := .stmts (sBody (stm 4)), scope := sScope (stm 4), globals := 3, closure := [], defaults := .none, kwdefaults := .none, doc := .none, pyModule := (.str (Str.ofString "re") 251), annotations := none, code := (.ref 67), closureTuple := .none, builtins := 0 }), #[]⟩
noncomputable def o69_4 (_P : Params) : Obj :=
  ⟨(.type "tuple"), none, (.seq #[] 0), #[]⟩
noncomputable def o70_4 (_P : Params) : Obj :=
  ⟨.none, none, (.fields #[]), #[]⟩
noncomputable def o71_4 (_P : Params) : Obj :=
  ⟨(.type "tuple"), none, (.seq #[(.str (Str.ofString "path") 411), (.str (Str.ofString "parts") 412), (.str (Str.ofString "i") 413)] 0), #[]⟩
noncomputable def o72_4 (_P : Params) : Obj :=
  ⟨(.type "tuple"), none, (.seq #[] 0), #[]⟩
noncomputable def o73_4 (_P : Params) : Obj :=
  ⟨.none, none, (.func { name := (Str.ofString "translate_pattern"), qualname := (Str.ofString "translate_pattern"), params := sArgs (stm 6), body := .stmts (sBody (stm 6)), scope := sScope (stm 6), globals := 0, closure := [], defaults := .none, kwdefaults := .none, doc := .none, pyModule := .none, annotations := none, code := .none, closureTuple := .none, builtins := 0 }), #[]⟩
noncomputable def o74_4 (_P : Params) : Obj :=
  ⟨(.type "code"), none, (.fields #[(.str (Str.ofString "translate_pattern") 408), (.str (Str.ofString "translate_pattern") 409), (.str (Str.ofString "/claim/cut.py") 410), (.int 59 0), (.int 1 0), (.int 0 0), (.int 0 0), (.int 3 0), (.ref 69), (.bool true), (.int 181 0), (.ref 70), .none, (.ref 71), (.ref 72), (.ref 73), (.int 414 0), (.int 59 0), (.str (Str.ofString "/claim/cut.py") 415)]), #[]⟩
noncomputable def o75_4 (_P : Params) : Obj :=
  ⟨(.type "function"), none, (.func { name := (Str.ofString "translate_pattern"), qualname := (Str.ofString "translate_pattern"), params := sArgs (stm 6), body := .stmts (sBody (stm 6)), scope := sScope (stm 6), globals := 3, closure := [], defaults := .none, kwdefaults := .none, doc := .none, pyModule := (.str (Str.ofString "cpy313.urllib.robotparser") 406), annotations := none, code := (.ref 74), closureTuple := .none, builtins := 0 }), #[]⟩
noncomputable def T8 (P : Params) : BT :=
  (.node (boot_o_0 P) (.node (boot_o_1 P) (.node (o3_4 P) (.node (boot_o_7 P) (.node (o15_2 P) (.node (o31_2 P) (.node (o63_4 P) .nil .nil) .nil) (.node (o47_2 P) .nil .nil)) (.node (o23_2 P) (.node (o39_2 P) (.node (o71_4 P) .nil .nil) .nil) (.node (o55_2 P) .nil .nil))) (.node (o11_1 P) (.node (o19_2 P) (.node (o35_2 P) (.node (o67_4 P) .nil .nil) .nil) (.node (o51_2 P) .nil .nil)) (.node (o27_2 P) (.node (o43_2 P) (.node (o75_4 P) .nil .nil) .nil) (.node (o59_3 P) .nil .nil)))) (.node (boot_o_5 P) (.node (boot_o_9 P) (.node (o17_2 P) (.node (o33_2 P) (.node (o65_4 P) .nil .nil) .nil) (.node (o49_2 P) .nil .nil)) (.node (o25_2 P) (.node (o41_2 P) (.node (o73_4 P) .nil .nil) .nil) (.node (o57_3 P) .nil .nil))) (.node (o13_1 P) (.node (o21_2 P) (.node (o37_2 P) (.node (o69_4 P) .nil .nil) .nil) (.node (o53_2 P) .nil .nil)) (.node (o29_2 P) (.node (o45_2 P) .nil .nil) (.node (o61_3 P) .nil .nil))))) (.node (boot_o_2 P) (.node (boot_o_4 P) (.node (boot_o_8 P) (.node (o16_2 P) (.node (o32_2 P) (.node (o64_4 P) .nil .nil) .nil) (.node (o48_2 P) .nil .nil)) (.node (o24_2 P) (.node (o40_2 P) (.node (o72_4 P) .nil .nil) .nil) (.node (o56_2 P) .nil .nil))) (.node (o12_4 P) (.node (o20_2 P) (.node (o36_2 P) (.node (o68_4 P) .nil .nil) .nil) (.node (o52_2 P) .nil .nil)) (.node (o28_2 P) (.node (o44_2 P) .nil .nil) (.node (o60_3 P) .nil .nil)))) (.node (boot_o_6 P) (.node (boot_o_10 P) (.node (o18_2 P) (.node (o34_2 P) (.node (o66_4 P) .nil .nil) .nil) (.node (o50_2 P) .nil .nil)) (.node (o26_2 P) (.node (o42_2 P) (.node (o74_4 P) .nil .nil) .nil) (.node (o58_3 P) .nil .nil))) (.node (o14_1 P) (.node (o22_2 P) (.node (o38_2 P) (.node (o70_4 P) .nil .nil) .nil) (.node (o54_2 P) .nil .nil)) (.node (o30_2 P) (.node (o46_2 P) .nil .nil) (.node (o62_4 P) .nil .nil))))))
noncomputable def o3_5 (P : Params) : Obj :=
  ⟨(.type "dict"), none, (.dict #[⟨(PyData.keyHash P (Str.ofString "__name__")), (.str (Str.ofString "__name__") 165), (.str (Str.ofString "cpy313.stringprep") 417)⟩, ⟨(PyData.keyHash P (Str.ofString "__doc__")), (.str (Str.ofString "__doc__") 166), .none⟩, ⟨(PyData.keyHash P (Str.ofString "__package__")), (.str (Str.ofString "__package__") 167), .none⟩, ⟨(PyData.keyHash P (Str.ofString "__loader__")), (.str (Str.ofString "__loader__") 168), (.builtin "__main__.__loader__#opaque")⟩, ⟨(PyData.keyHash P (Str.ofString "__spec__")), (.str (Str.ofString "__spec__") 169), .none⟩, ⟨(PyData.keyHash P (Str.ofString "__annotations__")), (.str (Str.ofString "__annotations__") 170), (.ref 6)⟩, ⟨(PyData.keyHash P (Str.ofString "__builtins__")), (.str (Str.ofString "__builtins__") 171), (.ref 4)⟩, ⟨(PyData.keyHash P (Str.ofString "__file__")), (.str (Str.ofString "__file__") 173), (.str (Str.ofString "/claim/cut.py") 172)⟩, ⟨(PyData.keyHash P (Str.ofString "__cached__")), (.str (Str.ofString "__cached__") 174), .none⟩, ⟨(PyData.keyHash P (Str.ofString "Entry")), (.str (Str.ofString "Entry") 250), (.ref 52)⟩, ⟨(PyData.keyHash P (Str.ofString "_special_chars_map")), (.str (Str.ofString "_special_chars_map") 398), (.ref 58)⟩, ⟨(PyData.keyHash P (Str.ofString "escape")), (.str (Str.ofString "escape") 405), (.ref 68)⟩, ⟨(PyData.keyHash P (Str.ofString "translate_pattern")), (.str (Str.ofString "translate_pattern") 416), (.ref 75)⟩, ⟨(PyData.keyHash P (Str.ofString "b1_set")), (.str (Str.ofString "b1_set") 478), (.ref 83)⟩] 14), #[]⟩
noncomputable def o76_5 (_P : Params) : Obj :=
  ⟨(.type "list"), none, (.seq #[(.int 173 419), (.int 847 420), (.int 6150 421), (.int 6155 422), (.int 6156 423), (.int 6157 424), (.int 8203 425), (.int 8204 426), (.int 8205 427), (.int 8288 428), (.int 65279 429)] 0), #[]⟩
noncomputable def o77_5 (_P : Params) : Obj :=
  ⟨(.type "range"), none, (.fields #[(.int 65024 430), (.int 65040 431), (.int 1 432)]), #[]⟩
noncomputable def o78_5 (_P : Params) : Obj :=
  ⟨(.type "list"), none, (.seq #[(.int 65024 435), (.int 65025 436), (.int 65026 437), (.int 65027 438), (.int 65028 439), (.int 65029 440), (.int 65030 441), (.int 65031 442), (.int 65032 443), (.int 65033 444), (.int 65034 445), (.int 65035 446), (.int 65036 447), (.int 65037 448), (.int 65038 449), (.int 65039 450)] 18), #[]⟩
noncomputable def o79_5 (_P : Params) : Obj :=
  ⟨(.type "range_iterator"), none, (.fields #[(.int 65040 0), (.int 0 0), (.int 1 0)]), #[]⟩
noncomputable def o80_5 (_P : Params) : Obj :=
  ⟨(.type "tuple"), none, (.seq #[] 0), #[]⟩
noncomputable def o81_5 (_P : Params) : Obj :=
  ⟨(.type "StopIteration"), none, (.fields #[(.ref 80), .none, .none, .none, (.bool false), .none]), #[]⟩
noncomputable def o82_5 (_P : Params) : Obj :=
  ⟨(.type "list"), none, (.seq #[(.int 173 419), (.int 847 420), (.int 6150 421), (.int 6155 422), (.int 6156 423), (.int 6157 424), (.int 8203 425), (.int 8204 426), (.int 8205 427), (.int 8288 428), (.int 65279 429), (.int 65024 435), (.int 65025 436), (.int 65026 437), (.int 65027 438), (.int 65028 439), (.int 65029 440), (.int 65030 441), (.int 65031 442), (.int 65032 443), (.int 65033 444), (.int 65034 445), (.int 65035 446), (.int 65036 447), (.int 65037 448), (.int 65038 449), (.int 65039 450)] 0), #[]⟩
noncomputable def o83_5 (P : Params) : Obj :=
  ⟨(.type "set"), none, (.set #[(65024, (.int 65024 435)), (65025, (.int 65025 436)), (65026, (.int 65026 437)), (65027, (.int 65027 438)), (65028, (.int 65028 439)), (65029, (.int 65029 440)), (6150, (.int 6150 421)), (65030, (.int 65030 441)), (65031, (.int 65031 442)), (65032, (.int 65032 443)), (65033, (.int 65033 444)), (6155, (.int 6155 422)), (6156, (.int 6156 423)), (6157, (.int 6157 424)), (8203, (.int 8203 425)), (8204, (.int 8204 426)), (8205, (.int 8205 427)), (65034, (.int 65034 445)), (65035, (.int 65035 446)), (65036, (.int 65036 447)), (65037, (.int 65037 448)), (65038, (.int 65038 449)), (65039, (.int 65039 450)), (173, (.int 173 419)), (847, (.int 847 420)), (8288, (.int 8288 428)), (65279, (.int 65279 429))] 29 { mask := 127, place := #[0, 1, 2, 3, 4, 5, 6, 7, 8, 9, 10, 11, 12, 13, 14, 15, 16, 17, 18, 19, 20, 21, 22, 45, 79, 96, 127], dummies := #[], finger := 0, led := !P.followText "set-order", moves := 2, plain := true }), #[]⟩
noncomputable def o84_5 (_P : Params) : Obj :=
  ⟨(.type "list_iterator"), none, (.fields #[.none, (.int 27 0)]), #[]⟩
noncomputable def o85_5 (_P : Params) : Obj :=
  ⟨(.type "tuple"), none, (.seq #[] 0), #[]⟩
noncomputable def o86_5 (_P : Params) : Obj :=
  ⟨(.type "StopIteration"), none, (.fields #[(.ref 85), .none, .none, .none, (.bool false), .none]), #[]⟩
noncomputable def T9 (P : Params) : BT :=
  (.node (boot_o_0 P) (.node (boot_o_1 P) (.node (o3_5 P) (.node (boot_o_7 P) (.node (o15_2 P) (.node (o31_2 P) (.node (o63_4 P) .nil .nil) .nil) (.node (o47_2 P) (.node (o79_5 P) .nil .nil) .nil)) (.node (o23_2 P) (.node (o39_2 P) (.node (o71_4 P) .nil .nil) .nil) (.node (o55_2 P) .nil .nil))) (.node (o11_1 P) (.node (o19_2 P) (.node (o35_2 P) (.node (o67_4 P) .nil .nil) .nil) (.node (o51_2 P) (.node (o83_5 P) .nil .nil) .nil)) (.node (o27_2 P) (.node (o43_2 P) (.node (o75_4 P) .nil .nil) .nil) (.node (o59_3 P) .nil .nil)))) (.node (boot_o_5 P) (.node (boot_o_9 P) (.node (o17_2 P) (.node (o33_2 P) (.node (o65_4 P) .nil .nil) .nil) (.node (o49_2 P) (.node (o81_5 P) .nil .nil) .nil)) (.node (o25_2 P) (.node (o41_2 P) (.node (o73_4 P) .nil .nil) .nil) (.node (o57_3 P) .nil .nil))) (.node (o13_1 P) (.node (o21_2 P) (.node (o37_2 P) (.node (o69_4 P) .nil .nil) .nil) (.node (o53_2 P) (.node (o85_5 P) .nil .nil) .nil)) (.node (o29_2 P) (.node (o45_2 P) (.node (o77_5 P) .nil .nil) .nil) (.node (o61_3 P) .nil .nil))))) (.node (boot_o_2 P) (.node (boot_o_4 P) (.node (boot_o_8 P) (.node (o16_2 P) (.node (o32_2 P) (.node (o64_4 P) .nil .nil) .nil) (.node (o48_2 P) (.node (o80_5 P) .nil .nil) .nil)) (.node (o24_2 P) (.node (o40_2 P) (.node (o72_4 P) .nil .nil) .nil) (.node (o56_2 P) .nil .nil))) (.node (o12_4 P) (.node (o20_2 P) (.node (o36_2 P) (.node (o68_4 P) .nil .nil) .nil) (.node (o52_2 P) (.node (o84_5 P) .nil .nil) .nil)) (.node (o28_2 P) (.node (o44_2 P) (.node (o76_5 P) .nil .nil) .nil) (.node (o60_3 P) .nil .nil)))) (.node (boot_o_6 P) (.node (boot_o_10 P) (.node (o18_2 P) (.node (o34_2 P) (.node (o66_4 P) .nil .nil) .nil) (.node (o50_2 P) (.node (o82_5 P) .nil .nil) .nil)) (.node (o26_2 P) (.node (o42_2 P) (.node (o74_4 P) .nil .nil) .nil) (.node (o58_3 P) .nil .nil))) (.node (o14_1 P) (.node (o22_2 P) (.node (o38_2 P) (.node (o70_4 P) .nil .nil) .nil) (.node (o54_2 P) (.node (o86_5 P) .nil .nil) .nil)) (.node (o30_2 P) (.node (o46_2 P) (.node (o78_5 P) .nil .nil) .nil) (.node (o62_4 P) .nil .nil))))))
noncomputable def o3_6 (P : Params) : Obj :=
  ⟨(.type "dict"), none, (.dict #[⟨(PyData.keyHash P (Str.ofString "__name__")), (.str (Str.ofString "__name__") 165), (.str (Str.ofString "cpy313.stringprep") 417)⟩, ⟨(PyData.keyHash P (Str.ofString "__doc__")), (.str (Str.ofString "__doc__") 166), .none⟩, ⟨(PyData.keyHash P (Str.ofString "__package__")), (.str (Str.ofString "__package__") 167), .none⟩, ⟨(PyData.keyHash P (Str.ofString "__loader__")), (.str (Str.ofString "__loader__") 168), (.builtin "__main__.__loader__#opaque")⟩, ⟨(PyData.keyHash P (Str.ofString "__spec__")), (.str (Str.ofString "__spec__") 169), .none⟩, ⟨(PyData.keyHash P (Str.ofString "__annotations__")), (.str (Str.ofString "__annotations__") 170), (.ref 6)⟩, ⟨(PyData.keyHash P (Str.ofString "__builtins__")), (.str (Str.ofString "__builtins__") 171), (.ref 4)⟩, ⟨(PyData.keyHash P (Str.ofString "__file__")), (.str (Str.ofString "__file__") 173), (.str (Str.ofString "/claim/cut.py") 172)⟩, ⟨(PyData.keyHash P (Str.ofString "__cached__")), (.str (Str.ofString "__cached__") 174), .none⟩, ⟨(PyData.keyHash P (Str.ofString "Entry")), (.str (Str.ofString "Entry") 250), (.ref 52)⟩, ⟨(PyData.keyHash P (Str.ofString "_special_chars_map")), (.str (Str.ofString "_special_chars_map") 398), (.ref 58)⟩, ⟨(PyData.keyHash P (Str.ofString "escape")), (.str (Str.ofString "escape") 405), (.ref 68)⟩, ⟨(PyData.keyHash P (Str.ofString "translate_pattern")), (.str (Str.ofString "translate_pattern") 416), (.ref 75)⟩, ⟨(PyData.keyHash P (Str.ofString "b1_set")), (.str (Str.ofString "b1_set") 478), (.ref 83)⟩, ⟨(PyData.keyHash P (Str.ofString "in_table_b1")), (.str (Str.ofString "in_table_b1") 485), (.ref 93)⟩] 15), #[]⟩
noncomputable def o12_6 (_P : Params) : Obj :=
  ⟨.none, none, (.fields #[(.int 2 0), (.int 0 0), (.ref 20), (.int 52 0), (.int 0 0), (.ref 67), (.int 59 0), (.int 0 0), (.ref 74), (.int 67 0), (.int 0 0), (.ref 92)]), #[]⟩
noncomputable def o87_6 (_P : Params) : Obj :=
  ⟨(.type "tuple"), none, (.seq #[] 0), #[]⟩
noncomputable def o88_6 (_P : Params) : Obj :=
  ⟨.none, none, (.fields #[]), #[]⟩
noncomputable def o89_6 (_P : Params) : Obj :=
  ⟨(.type "tuple"), none, (.seq #[(.str (Str.ofString "code") 482)] 0), #[]⟩
noncomputable def o90_6 (_P : Params) : Obj :=
  ⟨(.type "tuple"), none, (.seq #[] 0), #[]⟩
noncomputable def o91_6 (_P : Params) : Obj :=
  ⟨.none, none, (.func { name := (Str.ofString "in_table_b1"), qualname := (Str.ofString "in_table_b1"), params := sArgs (stm 9), body := .stmts (sBody (stm 9)), scope := sScope (stm 9), globals := 0, closure := [], defaults := .none, kwdefaults := .none, doc := .none, pyModule := .none, annotations := none, code := .none, closureTuple := .none, builtins := 0 }), #[]⟩
noncomputable def o92_6 (_P : Params) : Obj :=
  ⟨(.type "code"), none, (.fields #[(.str (Str.ofString "in_table_b1") 479), (.str (Str.ofString "in_table_b1") 480), (.str (Str.ofString "/claim/cut.py") 481), (.int 67 0), (.int 1 0), (.int 0 0), (.int 0 0), (.int 3 0), (.ref 87), (.bool true), (.int 181 0), (.ref 88), .none, (.ref 89), (.ref 90), (.ref 91), (.int 483 0), (.int 67 0), (.str (Str.ofString "/claim/cut.py") 484)]), #[]⟩
noncomputable def o93_6 (_P : Params) : Obj :=
  ⟨(.type "function"), none, (.func { name := (Str.ofString "in_table_b1"), qualname := (Str.ofString "in_table_b1"), params := sArgs (stm 9), body := .stmts (sBody (stm 9)), scope := sScope (stm 9), globals := 3, closure := [], defaults := .none, kwdefaults := .none, doc := .none, pyModule := (.str (Str.ofString "cpy313.stringprep") 417), annotations := none, code := (.ref 92), closureTuple := .none, builtins := 0 }), #[]⟩
noncomputable def T10 (P : Params) : BT :=
  (.node (boot_o_0 P) (.node (boot_o_1 P) (.node (o3_6 P) (.node (boot_o_7 P) (.node (o15_2 P) (.node (o31_2 P) (.node (o63_4 P) .nil .nil) .nil) (.node (o47_2 P) (.node (o79_5 P) .nil .nil) .nil)) (.node (o23_2 P) (.node (o39_2 P) (.node (o71_4 P) .nil .nil) .nil) (.node (o55_2 P) (.node (o87_6 P) .nil .nil) .nil))) (.node (o11_1 P) (.node (o19_2 P) (.node (o35_2 P) (.node (o67_4 P) .nil .nil) .nil) (.node (o51_2 P) (.node (o83_5 P) .nil .nil) .nil)) (.node (o27_2 P) (.node (o43_2 P) (.node (o75_4 P) .nil .nil) .nil) (.node (o59_3 P) (.node (o91_6 P) .nil .nil) .nil)))) (.node (boot_o_5 P) (.node (boot_o_9 P) (.node (o17_2 P) (.node (o33_2 P) (.node (o65_4 P) .nil .nil) .nil) (.node (o49_2 P) (.node (o81_5 P) .nil .nil) .nil)) (.node (o25_2 P) (.node (o41_2 P) (.node (o73_4 P) .nil .nil) .nil) (.node (o57_3 P) (.node (o89_6 P) .nil .nil) .nil))) (.node (o13_1 P) (.node (o21_2 P) (.node (o37_2 P) (.node (o69_4 P) .nil .nil) .nil) (.node (o53_2 P) (.node (o85_5 P) .nil .nil) .nil)) (.node (o29_2 P) (.node (o45_2 P) (.node (o77_5 P) .nil .nil) .nil) (.node (o61_3 P) (.node (o93_6 P) .nil .nil) .nil))))) (.node (boot_o_2 P) (.node (boot_o_4 P) (.node (boot_o_8 P) (.node (o16_2 P) (.node (o32_2 P) (.node (o64_4 P) .nil .nil) .nil) (.node (o48_2 P) (.node (o80_5 P) .nil .nil) .nil)) (.node (o24_2 P) (.node (o40_2 P) (.node (o72_4 P) .nil .nil) .nil) (.node (o56_2 P) (.node (o88_6 P) .nil .nil) .nil))) (.node (o12_6 P) (.node (o20_2 P) (.node (o36_2 P) (.node (o68_4 P) .nil .nil) .nil) (.node (o52_2 P) (.node (o84_5 P) .nil .nil) .nil)) (.node (o28_2 P) (.node (o44_2 P) (.node (o76_5 P) .nil .nil) .nil) (.node (o60_3 P) (.node (o92_6 P) .nil .nil) .nil)))) (.node (boot_o_6 P) (.node (boot_o_10 P) (.node (o18_2 P) (.node (o34_2 P) (.node (o66_4 P) .nil .nil) .nil) (.node (o50_2 P) (.node (o82_5 P) .nil .nil) .nil)) (.node (o26_2 P) (.node (o42_2 P) (.node (o74_4 P) .nil .nil) .nil) (.node (o58_3 P) (.node (o90_6 P) .nil .nil) .nil))) (.node (o14_1 P) (.node (o22_2 P) (.node (o38_2 P) (.node (o70_4 P) .nil .nil) .nil) (.node (o54_2 P) (.node (o86_5 P) .nil .nil) .nil)) (.node (o30_2 P) (.node (o46_2 P) (.node (o78_5 P) .nil .nil) .nil) (.node (o62_4 P) .nil .nil))))))
noncomputable def o3_7 (P : Params) : Obj :=
  ⟨(.type "dict"), none, (.dict #[⟨(PyData.keyHash P (Str.ofString "__name__")), (.str (Str.ofString "__name__") 165), (.str (Str.ofString "cpy313.stringprep") 417)⟩, ⟨(PyData.keyHash P (Str.ofString "__doc__")), (.str (Str.ofString "__doc__") 166), .none⟩, ⟨(PyData.keyHash P (Str.ofString "__package__")), (.str (Str.ofString "__package__") 167), .none⟩, ⟨(PyData.keyHash P (Str.ofString "__loader__")), (.str (Str.ofString "__loader__") 168), (.builtin "__main__.__loader__#opaque")⟩, ⟨(PyData.keyHash P (Str.ofString "__spec__")), (.str (Str.ofString "__spec__") 169), .none⟩, ⟨(PyData.keyHash P (Str.ofString "__annotations__")), (.str (Str.ofString "__annotations__") 170), (.ref 6)⟩, ⟨(PyData.keyHash P (Str.ofString "__builtins__")), (.str (Str.ofString "__builtins__") 171), (.ref 4)⟩, ⟨(PyData.keyHash P (Str.ofString "__file__")), (.str (Str.ofString "__file__") 173), (.str (Str.ofString "/claim/cut.py") 172)⟩, ⟨(PyData.keyHash P (Str.ofString "__cached__")), (.str (Str.ofString "__cached__") 174), .none⟩, ⟨(PyData.keyHash P (Str.ofString "Entry")), (.str (Str.ofString "Entry") 250), (.ref 52)⟩, ⟨(PyData.keyHash P (Str.ofString "_special_chars_map")), (.str (Str.ofString "_special_chars_map") 398), (.ref 58)⟩, ⟨(PyData.keyHash P (Str.ofString "escape")), (.str (Str.ofString "escape") 405), (.ref 68)⟩, ⟨(PyData.keyHash P (Str.ofString "translate_pattern")), (.str (Str.ofString "translate_pattern") 416), (.ref 75)⟩, ⟨(PyData.keyHash P (Str.ofString "b1_set")), (.str (Str.ofString "b1_set") 478), (.ref 83)⟩, ⟨(PyData.keyHash P (Str.ofString "in_table_b1")), (.str (Str.ofString "in_table_b1") 485), (.ref 93)⟩, ⟨(PyData.keyHash P (Str.ofString "b3_exceptions")), (.str (Str.ofString "b3_exceptions") 2436), (.ref 94)⟩] 16), #[]⟩
noncomputable def o94_7 (_P : Params) : Obj := b3Obj
noncomputable def o95_7 (_P : Params) : Obj := b3Sub 0
noncomputable def o96_7 (_P : Params) : Obj := b3Sub 1
noncomputable def o97_7 (_P : Params) : Obj := b3Sub 2
noncomputable def o98_7 (_P : Params) : Obj := b3Sub 3
noncomputable def o99_7 (_P : Params) : Obj := b3Sub 4
noncomputable def o100_7 (_P : Params) : Obj := b3Sub 5
noncomputable def o101_7 (_P : Params) : Obj := b3Sub 6
noncomputable def o102_7 (_P : Params) : Obj := b3Sub 7
noncomputable def o103_7 (_P : Params) : Obj := b3Sub 8
noncomputable def o104_7 (_P : Params) : Obj := b3Sub 9
noncomputable def o105_7 (_P : Params) : Obj := b3Sub 10
noncomputable def o106_7 (_P : Params) : Obj := b3Sub 11
noncomputable def o107_7 (_P : Params) : Obj := b3Sub 12
noncomputable def o108_7 (_P : Params) : Obj := b3Sub 13
noncomputable def o109_7 (_P : Params) : Obj := b3Sub 14
noncomputable def o110_7 (_P : Params) : Obj := b3Sub 15
noncomputable def o111_7 (_P : Params) : Obj := b3Sub 16
noncomputable def o112_7 (_P : Params) : Obj := b3Sub 17
noncomputable def o113_7 (_P : Params) : Obj := b3Sub 18
noncomputable def o114_7 (_P : Params) : Obj := b3Sub 19
noncomputable def o115_7 (_P : Params) : Obj := b3Sub 20
noncomputable def o116_7 (_P : Params) : Obj := b3Sub 21
noncomputable def o117_7 (_P : Params) : Obj := b3Sub 22
noncomputable def o118_7 (_P : Params) : Obj := b3Sub 23
noncomputable def o119_7 (_P : Params) : Obj := b3Sub 24
noncomputable def o120_7 (_P : Params) : Obj := b3Sub 25
noncomputable def o121_7 (_P : Params) : Obj := b3Sub 26
noncomputable def o122_7 (_P : Params) : Obj := b3Sub 27
noncomputable def o123_7 (_P : Params) : Obj := b3Sub 28
noncomputable def o124_7 (_P : Params) : Obj := b3Sub 29
noncomputable def o125_7 (_P : Params) : Obj := b3Sub 30
noncomputable def o126_7 (_P : Params) : Obj := b3Sub 31
noncomputable def o127_7 (_P : Params) : Obj := b3Sub 32
noncomputable def o128_7 (_P : Params) : Obj := b3Sub 33
noncomputable def o129_7 (_P : Params) : Obj := b3Sub 34
noncomputable def o130_7 (_P : Params) : Obj := b3Sub 35
noncomputable def o131_7 (_P : Params) : Obj := b3Sub 36
noncomputable def o132_7 (_P : Params) : Obj := b3Sub 37
noncomputable def T11 (P : Params) : BT :=
  (.node (boot_o_0 P) (.node (boot_o_1 P) (.node (o3_7 P) (.node (boot_o_7 P) (.node (o15_2 P) (.node (o31_2 P) (.node (o63_4 P) (.node (o127_7 P) .nil .nil) .nil) (.node (o95_7 P) .nil .nil)) (.node (o47_2 P) (.node (o79_5 P) .nil .nil) (.node (o111_7 P) .nil .nil))) (.node (o23_2 P) (.node (o39_2 P) (.node (o71_4 P) .nil .nil) (.node (o103_7 P) .nil .nil)) (.node (o55_2 P) (.node (o87_6 P) .nil .nil) (.node (o119_7 P) .nil .nil)))) (.node (o11_1 P) (.node (o19_2 P) (.node (o35_2 P) (.node (o67_4 P) (.node (o131_7 P) .nil .nil) .nil) (.node (o99_7 P) .nil .nil)) (.node (o51_2 P) (.node (o83_5 P) .nil .nil) (.node (o115_7 P) .nil .nil))) (.node (o27_2 P) (.node (o43_2 P) (.node (o75_4 P) .nil .nil) (.node (o107_7 P) .nil .nil)) (.node (o59_3 P) (.node (o91_6 P) .nil .nil) (.node (o123_7 P) .nil .nil))))) (.node (boot_o_5 P) (.node (boot_o_9 P) (.node (o17_2 P) (.node (o33_2 P) (.node (o65_4 P) (.node (o129_7 P) .nil .nil) .nil) (.node (o97_7 P) .nil .nil)) (.node (o49_2 P) (.node (o81_5 P) .nil .nil) (.node (o113_7 P) .nil .nil))) (.node (o25_2 P) (.node (o41_2 P) (.node (o73_4 P) .nil .nil) (.node (o105_7 P) .nil .nil)) (.node (o57_3 P) (.node (o89_6 P) .nil .nil) (.node (o121_7 P) .nil .nil)))) (.node (o13_1 P) (.node (o21_2 P) (.node (o37_2 P) (.node (o69_4 P) .nil .nil) (.node (o101_7 P) .nil .nil)) (.node (o53_2 P) (.node (o85_5 P) .nil .nil) (.node (o117_7 P) .nil .nil))) (.node (o29_2 P) (.node (o45_2 P) (.node (o77_5 P) .nil .nil) (.node (o109_7 P) .nil .nil)) (.node (o61_3 P) (.node (o93_6 P) .nil .nil) (.node (o125_7 P) .nil .nil)))))) (.node (boot_o_2 P) (.node (boot_o_4 P) (.node (boot_o_8 P) (.node (o16_2 P) (.node (o32_2 P) (.node (o64_4 P) (.node (o128_7 P) .nil .nil) .nil) (.node (o96_7 P) .nil .nil)) (.node (o48_2 P) (.node (o80_5 P) .nil .nil) (.node (o112_7 P) .nil .nil))) (.node (o24_2 P) (.node (o40_2 P) (.node (o72_4 P) .nil .nil) (.node (o104_7 P) .nil .nil)) (.node (o56_2 P) (.node (o88_6 P) .nil .nil) (.node (o120_7 P) .nil .nil)))) (.node (o12_6 P) (.node (o20_2 P) (.node (o36_2 P) (.node (o68_4 P) (.node (o132_7 P) .nil .nil) .nil) (.node (o100_7 P) .nil .nil)) (.node (o52_2 P) (.node (o84_5 P) .nil .nil) (.node (o116_7 P) .nil .nil))) (.node (o28_2 P) (.node (o44_2 P) (.node (o76_5 P) .nil .nil) (.node (o108_7 P) .nil .nil)) (.node (o60_3 P) (.node (o92_6 P) .nil .nil) (.node (o124_7 P) .nil .nil))))) (.node (boot_o_6 P) (.node (boot_o_10 P) (.node (o18_2 P) (.node (o34_2 P) (.node (o66_4 P) (.node (o130_7 P) .nil .nil) .nil) (.node (o98_7 P) .nil .nil)) (.node (o50_2 P) (.node (o82_5 P) .nil .nil) (.node (o114_7 P) .nil .nil))) (.node (o26_2 P) (.node (o42_2 P) (.node (o74_4 P) .nil .nil) (.node (o106_7 P) .nil .nil)) (.node (o58_3 P) (.node (o90_6 P) .nil .nil) (.node (o122_7 P) .nil .nil)))) (.node (o14_1 P) (.node (o22_2 P) (.node (o38_2 P) (.node (o70_4 P) .nil .nil) (.node (o102_7 P) .nil .nil)) (.node (o54_2 P) (.node (o86_5 P) .nil .nil) (.node (o118_7 P) .nil .nil))) (.node (o30_2 P) (.node (o46_2 P) (.node (o78_5 P) .nil .nil) (.node (o110_7 P) .nil .nil)) (.node (o62_4 P) (.node (o94_7 P) .nil .nil) (.node (o126_7 P) .nil .nil)))))))
noncomputable def o3_8 (P : Params) : Obj :=
  ⟨(.type "dict"), none, (.dict #[⟨(PyData.keyHash P (Str.ofString "__name__")), (.str (Str.ofString "__name__") 165), (.str (Str.ofString "law_rs0173_01") 2445)⟩, ⟨(PyData.keyHash P (Str.ofString "__doc__")), (.str (Str.ofString "__doc__") 166), .none⟩, ⟨(PyData.keyHash P (Str.ofString "__package__")), (.str (Str.ofString "__package__") 167), .none⟩, ⟨(PyData.keyHash P (Str.ofString "__loader__")), (.str (Str.ofString "__loader__") 168), (.builtin "__main__.__loader__#opaque")⟩, ⟨(PyData.keyHash P (Str.ofString "__spec__")), (.str (Str.ofString "__spec__") 169), .none⟩, ⟨(PyData.keyHash P (Str.ofString "__annotations__")), (.str (Str.ofString "__annotations__") 170), (.ref 6)⟩, ⟨(PyData.keyHash P (Str.ofString "__builtins__")), (.str (Str.ofString "__builtins__") 171), (.ref 4)⟩, ⟨(PyData.keyHash P (Str.ofString "__file__")), (.str (Str.ofString "__file__") 173), (.str (Str.ofString "/claim/cut.py") 172)⟩, ⟨(PyData.keyHash P (Str.ofString "__cached__")), (.str (Str.ofString "__cached__") 174), .none⟩, ⟨(PyData.keyHash P (Str.ofString "Entry")), (.str (Str.ofString "Entry") 250), (.ref 52)⟩, ⟨(PyData.keyHash P (Str.ofString "_special_chars_map")), (.str (Str.ofString "_special_chars_map") 398), (.ref 58)⟩, ⟨(PyData.keyHash P (Str.ofString "escape")), (.str (Str.ofString "escape") 405), (.ref 68)⟩, ⟨(PyData.keyHash P (Str.ofString "translate_pattern")), (.str (Str.ofString "translate_pattern") 416), (.ref 75)⟩, ⟨(PyData.keyHash P (Str.ofString "b1_set")), (.str (Str.ofString "b1_set") 478), (.ref 83)⟩, ⟨(PyData.keyHash P (Str.ofString "in_table_b1")), (.str (Str.ofString "in_table_b1") 485), (.ref 93)⟩, ⟨(PyData.keyHash P (Str.ofString "b3_exceptions")), (.str (Str.ofString "b3_exceptions") 2436), (.ref 94)⟩, ⟨(PyData.keyHash P (Str.ofString "map_table_b3")), (.str (Str.ofString "map_table_b3") 2444), (.ref 139)⟩, ⟨(PyData.keyHash P (Str.ofString "_law_cells")), (.str (Str.ofString "_law_cells") 2455), (.ref 146)⟩, ⟨(PyData.keyHash P (Str.ofString "_law_letter")), (.str (Str.ofString "_law_letter") 2466), (.ref 153)⟩, ⟨(PyData.keyHash P (Str.ofString "_law_typed")), (.str (Str.ofString "_law_typed") 2479), (.ref 160)⟩, ⟨(PyData.keyHash P (Str.ofString "_law_prepared")), (.str (Str.ofString "_law_prepared") 2485), (.ref 165)⟩, ⟨(PyData.keyHash P (Str.ofString "_law_paths")), (.str (Str.ofString "_law_paths") 2491), (.ref 170)⟩, ⟨(PyData.keyHash P (Str.ofString "_law_parts")), (.str (Str.ofString "_law_parts") 2501), (.ref 177)⟩, ⟨(PyData.keyHash P (Str.ofString "_law_end")), (.str (Str.ofString "_law_end") 2507), (.ref 182)⟩, ⟨(PyData.keyHash P (Str.ofString "_law_rule")), (.str (Str.ofString "_law_rule") 2517), (.ref 189)⟩, ⟨(PyData.keyHash P (Str.ofString "law")), (.str (Str.ofString "law") 2523), (.ref 194)⟩] 26), #[]⟩
noncomputable def o12_8 (_P : Params) : Obj :=
  ⟨.none, none, (.fields #[(.int 2 0), (.int 0 0), (.ref 20), (.int 52 0), (.int 0 0), (.ref 67), (.int 59 0), (.int 0 0), (.ref 74), (.int 67 0), (.int 0 0), (.ref 92), (.int 70 0), (.int 0 0), (.ref 138), (.int 76 0), (.int 0 0), (.ref 145), (.int 81 0), (.int 0 0), (.ref 152), (.int 89 0), (.int 0 0), (.ref 159), (.int 100 0), (.int 0 0), (.ref 164), (.int 104 0), (.int 0 0), (.ref 169), (.int 113 0), (.int 0 0), (.ref 176), (.int 121 0), (.int 0 0), (.ref 181), (.int 132 0), (.int 0 0), (.ref 188), (.int 137 0), (.int 0 0), (.ref 193)]), #[]⟩
noncomputable def o133_8 (_P : Params) : Obj :=
  ⟨(.type "tuple"), none, (.seq #[] 0), #[]⟩
noncomputable def o134_8 (_P : Params) : Obj :=
  ⟨.none, none, (.fields #[]), #[]⟩
noncomputable def o135_8 (_P : Params) : Obj :=
  ⟨(.type "tuple"), none, (.seq #[(.str (Str.ofString "code") 2440), (.str (Str.ofString "r") 2441)] 0), #[]⟩
noncomputable def o136_8 (_P : Params) : Obj :=
  ⟨(.type "tuple"), none, (.seq #[] 0), #[]⟩
noncomputable def o137_8 (_P : Params) : Obj :=
  ⟨.none, none, (.func { name := (Str.ofString "map_table_b3"), qualname := (Str.ofString "map_table_b3"), params := sArgs (stm 11), body := .stmts (sBody (stm 11)), scope := sScope (stm 11), globals := 0, closure := [], defaults := .none, kwdefaults := .none, doc := .none, pyModule := .none, annotations := none, code := .none, closureTuple := .none, builtins := 0 }), #[]⟩
noncomputable def o138_8 (_P : Params) : Obj :=
  ⟨(.type "code"), none, (.fields #[(.str (Str.ofString "map_table_b3") 2437), (.str (Str.ofString "map_table_b3") 2438), (.str (Str.ofString "/claim/cut.py") 2439), (.int 70 0), (.int 1 0), (.int 0 0), (.int 0 0), (.int 3 0), (.ref 133), (.bool true), (.int 181 0), (.ref 134), .none, (.ref 135), (.ref 136), (.ref 137), (.int 2442 0), (.int 70 0), (.str (Str.ofString "/claim/cut.py") 2443)]), #[]⟩
noncomputable def o139_8 (_P : Params) : Obj :=
  ⟨(.type "function"), none, (.func { name := (Str.ofString "map_table_b3"), qualname := (Str.ofString "map_table_b3"), params := sArgs (stm 11), body := .stmts (sBody (stm 11)), scope := sScope (stm 11), globals := 3, closure := [], defaults := .none, kwdefaults := .none, doc := .none, pyModule := (.str (Str.ofString "cpy313.stringprep") 417), annotations := none, code := (.ref 138), closureTuple := .none, builtins := 0 }), #[]⟩
noncomputable def o140_8 (_P : Params) : Obj :=
  ⟨(.type "tuple"), none, (.seq #[] 0), #[]⟩
noncomputable def o141_8 (_P : Params) : Obj :=
  ⟨.none, none, (.fields #[]), #[]⟩
noncomputable def o142_8 (_P : Params) : Obj :=
  ⟨(.type "tuple"), none, (.seq #[(.str (Str.ofString "script") 2450), (.str (Str.ofString "cells") 2451), (.str (Str.ofString "place") 2452)] 0), #[]⟩
noncomputable def o143_8 (_P : Params) : Obj :=
  ⟨(.type "tuple"), none, (.seq #[] 0), #[]⟩
noncomputable def o144_8 (_P : Params) : Obj :=
  ⟨.none, none, (.func { name := (Str.ofString "_law_cells"), qualname := (Str.ofString "_law_cells"), params := sArgs (stm 13), body := .stmts (sBody (stm 13)), scope := sScope (stm 13), globals := 0, closure := [], defaults := .none, kwdefaults := .none, doc := .none, pyModule := .none, annotations := none, code := .none, closureTuple := .none, builtins := 0 }), #[]⟩
noncomputable def o145_8 (_P : Params) : Obj :=
  ⟨(.type "code"), none, (.fields #[(.str (Str.ofString "_law_cells") 2447), (.str (Str.ofString "_law_cells") 2448), (.str (Str.ofString "/claim/cut.py") 2449), (.int 76 0), (.int 1 0), (.int 0 0), (.int 0 0), (.int 3 0), (.ref 140), (.bool true), (.int 181 0), (.ref 141), .none, (.ref 142), (.ref 143), (.ref 144), (.int 2453 0), (.int 76 0), (.str (Str.ofString "/claim/cut.py") 2454)]), #[]⟩
noncomputable def o146_8 (_P : Params) : Obj :=
  ⟨(.type "function"), none, (.func { name := (Str.ofString "_law_cells"), qualname := (Str.ofString "_law_cells"), params := sArgs (stm 13), body := .stmts (sBody (stm 13)), scope := sScope (stm 13), globals := 3, closure := [], defaults := .none, kwdefaults := .none, doc := .none, pyModule := (.str (Str.ofString "law_rs0173_01") 2445), annotations := none, code := (.ref 145), closureTuple := .none, builtins := 0 }), #[]⟩
noncomputable def o147_8 (_P : Params) : Obj :=
  ⟨(.type "tuple"), none, (.seq #[] 0), #[]⟩
noncomputable def o148_8 (_P : Params) : Obj :=
  ⟨.none, none, (.fields #[]), #[]⟩
noncomputable def o149_8 (_P : Params) : Obj :=
  ⟨(.type "tuple"), none, (.seq #[(.str (Str.ofString "sign") 2459), (.str (Str.ofString "way") 2460), (.str (Str.ofString "pick") 2461), (.str (Str.ofString "fonts") 2462), (.str (Str.ofString "lone") 2463)] 0), #[]⟩
noncomputable def o150_8 (_P : Params) : Obj :=
  ⟨(.type "tuple"), none, (.seq #[] 0), #[]⟩
noncomputable def o151_8 (_P : Params) : Obj :=
  ⟨.none, none, (.func { name := (Str.ofString "_law_letter"), qualname := (Str.ofString "_law_letter"), params := sArgs (stm 14), body := .stmts (sBody (stm 14)), scope := sScope (stm 14), globals := 0, closure := [], defaults := .none, kwdefaults := .none, doc := .none, pyModule := .none, annotations := none, code := .none, closureTuple := .none, builtins := 0 }), #[]⟩
noncomputable def o152_8 (_P : Params) : Obj :=
  ⟨(.type "code"), none, (.fields #[(.str (Str.ofString "_law_letter") 2456), (.str (Str.ofString "_law_letter") 2457), (.str (Str.ofString "/claim/cut.py") 2458), (.int 81 0), (.int 3 0), (.int 0 0), (.int 0 0), (.int 3 0), (.ref 147), (.bool true), (.int 181 0), (.ref 148), .none, (.ref 149), (.ref 150), (.ref 151), (.int 2464 0), (.int 81 0), (.str (Str.ofString "/claim/cut.py") 2465)]), #[]⟩
noncomputable def o153_8 (_P : Params) : Obj :=
  ⟨(.type "function"), none, (.func { name := (Str.ofString "_law_letter"), qualname := (Str.ofString "_law_letter"), params := sArgs (stm 14), body := .stmts (sBody (stm 14)), scope := sScope (stm 14), globals := 3, closure := [], defaults := .none, kwdefaults := .none, doc := .none, pyModule := (.str (Str.ofString "law_rs0173_01") 2445), annotations := none, code := (.ref 152), closureTuple := .none, builtins := 0 }), #[]⟩
noncomputable def o154_8 (_P : Params) : Obj :=
  ⟨(.type "tuple"), none, (.seq #[] 0), #[]⟩
noncomputable def o155_8 (_P : Params) : Obj :=
  ⟨.none, none, (.fields #[]), #[]⟩
noncomputable def o156_8 (_P : Params) : Obj :=
  ⟨(.type "tuple"), none, (.seq #[(.str (Str.ofString "name") 2470), (.str (Str.ofString "cell") 2471), (.str (Str.ofString "both") 2472), (.str (Str.ofString "typed") 2473), (.str (Str.ofString "done") 2474), (.str (Str.ofString "place") 2475), (.str (Str.ofString "way") 2476)] 0), #[]⟩
noncomputable def o157_8 (_P : Params) : Obj :=
  ⟨(.type "tuple"), none, (.seq #[] 0), #[]⟩
noncomputable def o158_8 (_P : Params) : Obj :=
  ⟨.none, none, (.func { name := (Str.ofString "_law_typed"), qualname := (Str.ofString "_law_typed"), params := sArgs (stm 15), body := .stmts (sBody (stm 15)), scope := sScope (stm 15), globals := 0, closure := [], defaults := .none, kwdefaults := .none, doc := .none, pyModule := .none, annotations := none, code := .none, closureTuple := .none, builtins := 0 }), #[]⟩
noncomputable def o159_8 (_P : Params) : Obj :=
  ⟨(.type "code"), none, (.fields #[(.str (Str.ofString "_law_typed") 2467), (.str (Str.ofString "_law_typed") 2468), (.str (Str.ofString "/claim/cut.py") 2469), (.int 89 0), (.int 2 0), (.int 0 0), (.int 0 0), (.int 3 0), (.ref 154), (.bool true), (.int 181 0), (.ref 155), .none, (.ref 156), (.ref 157), (.ref 158), (.int 2477 0), (.int 89 0), (.str (Str.ofString "/claim/cut.py") 2478)]), #[]⟩
noncomputable def o160_8 (_P : Params) : Obj :=
  ⟨(.type "function"), none, (.func { name := (Str.ofString "_law_typed"), qualname := (Str.ofString "_law_typed"), params := sArgs (stm 15), body := .stmts (sBody (stm 15)), scope := sScope (stm 15), globals := 3, closure := [], defaults := .none, kwdefaults := .none, doc := .none, pyModule := (.str (Str.ofString "law_rs0173_01") 2445), annotations := none, code := (.ref 159), closureTuple := .none, builtins := 0 }), #[]⟩
noncomputable def o161_8 (_P : Params) : Obj :=
  ⟨(.type "tuple"), none, (.seq #[] 0), #[]⟩
noncomputable def o162_8 (_P : Params) : Obj :=
  ⟨.none, none, (.fields #[]), #[]⟩
noncomputable def o163_8 (_P : Params) : Obj :=
  ⟨.none, none, (.func { name := (Str.ofString "_law_prepared"), qualname := (Str.ofString "_law_prepared"), params := sArgs (stm 16), body := .stmts (sBody (stm 16)), scope := sScope (stm 16), globals := 0, closure := [], defaults := .none, kwdefaults := .none, doc := .none, pyModule := .none, annotations := none, code := .none, closureTuple := .none, builtins := 0 }), #[]⟩
noncomputable def o164_8 (_P : Params) : Obj :=
  ⟨(.type "code"), none, (.fields #[(.str (Str.ofString "_law_prepared") 2480), (.str (Str.ofString "_law_prepared") 2481), (.str (Str.ofString "/claim/cut.py") 2482), (.int 100 0), (.int 1 0), (.int 0 0), (.int 0 0), (.int 3 0), (.ref 161), (.bool true), (.int 181 0), (.ref 162), .none, .none, .none, (.ref 163), (.int 2483 0), (.int 100 0), (.str (Str.ofString "/claim/cut.py") 2484)]), #[]⟩
noncomputable def o165_8 (_P : Params) : Obj :=
  ⟨(.type "function"), none, (.func { name := (Str.ofString "_law_prepared"), qualname := (Str.ofString "_law_prepared"), params := sArgs (stm 16), body := .stmts (sBody (stm 16)), scope := sScope (stm 16), globals := 3, closure := [], defaults := .none, kwdefaults := .none, doc := .none, pyModule := (.str (Str.ofString "law_rs0173_01") 2445), annotations := none, code := (.ref 164), closureTuple := .none, builtins := 0 }), #[]⟩
noncomputable def o166_8 (_P : Params) : Obj :=
  ⟨(.type "tuple"), none, (.seq #[] 0), #[]⟩
noncomputable def o167_8 (_P : Params) : Obj :=
  ⟨.none, none, (.fields #[]), #[]⟩
noncomputable def o168_8 (_P : Params) : Obj :=
  ⟨.none, none, (.func { name := (Str.ofString "_law_paths"), qualname := (Str.ofString "_law_paths"), params := sArgs (stm 17), body := .stmts (sBody (stm 17)), scope := sScope (stm 17), globals := 0, closure := [], defaults := .none, kwdefaults := .none, doc := .none, pyModule := .none, annotations := none, code := .none, closureTuple := .none, builtins := 0 }), #[]⟩
noncomputable def o169_8 (_P : Params) : Obj :=
  ⟨(.type "code"), none, (.fields #[(.str (Str.ofString "_law_paths") 2486), (.str (Str.ofString "_law_paths") 2487), (.str (Str.ofString "/claim/cut.py") 2488), (.int 104 0), (.int 2 0), (.int 0 0), (.int 0 0), (.int 3 0), (.ref 166), (.bool true), (.int 181 0), (.ref 167), .none, .none, .none, (.ref 168), (.int 2489 0), (.int 104 0), (.str (Str.ofString "/claim/cut.py") 2490)]), #[]⟩
noncomputable def o170_8 (_P : Params) : Obj :=
  ⟨(.type "function"), none, (.func { name := (Str.ofString "_law_paths"), qualname := (Str.ofString "_law_paths"), params := sArgs (stm 17), body := .stmts (sBody (stm 17)), scope := sScope (stm 17), globals := 3, closure := [], defaults := .none, kwdefaults := .none, doc := .none, pyModule := (.str (Str.ofString "law_rs0173_01") 2445), annotations := none, code := (.ref 169), closureTuple := .none, builtins := 0 }), #[]⟩
noncomputable def o171_8 (_P : Params) : Obj :=
  ⟨(.type "tuple"), none, (.seq #[] 0), #[]⟩
noncomputable def o172_8 (_P : Params) : Obj :=
  ⟨.none, none, (.fields #[]), #[]⟩
noncomputable def o173_8 (_P : Params) : Obj :=
  ⟨(.type "tuple"), none, (.seq #[(.str (Str.ofString "text") 2495), (.str (Str.ofString "place") 2496), (.str (Str.ofString "parts") 2497), (.str (Str.ofString "turn") 2498)] 0), #[]⟩
noncomputable def o174_8 (_P : Params) : Obj :=
  ⟨(.type "tuple"), none, (.seq #[] 0), #[]⟩
noncomputable def o175_8 (_P : Params) : Obj :=
  ⟨.none, none, (.func { name := (Str.ofString "_law_parts"), qualname := (Str.ofString "_law_parts"), params := sArgs (stm 18), body := .stmts (sBody (stm 18)), scope := sScope (stm 18), globals := 0, closure := [], defaults := .none, kwdefaults := .none, doc := .none, pyModule := .none, annotations := none, code := .none, closureTuple := .none, builtins := 0 }), #[]⟩
noncomputable def o176_8 (_P : Params) : Obj :=
  ⟨(.type "code"), none, (.fields #[(.str (Str.ofString "_law_parts") 2492), (.str (Str.ofString "_law_parts") 2493), (.str (Str.ofString "/claim/cut.py") 2494), (.int 113 0), (.int 1 0), (.int 0 0), (.int 0 0), (.int 3 0), (.ref 171), (.bool true), (.int 181 0), (.ref 172), .none, (.ref 173), (.ref 174), (.ref 175), (.int 2499 0), (.int 113 0), (.str (Str.ofString "/claim/cut.py") 2500)]), #[]⟩
noncomputable def o177_8 (_P : Params) : Obj :=
  ⟨(.type "function"), none, (.func { name := (Str.ofString "_law_parts"), qualname := (Str.ofString "_law_parts"), params := sArgs (stm 18), body := .stmts (sBody (stm 18)), scope := sScope (stm 18), globals := 3, closure := [], defaults := .none, kwdefaults := .none, doc := .none, pyModule := (.str (Str.ofString "law_rs0173_01") 2445), annotations := none, code := (.ref 176), closureTuple := .none, builtins := 0 }), #[]⟩
noncomputable def o178_8 (_P : Params) : Obj :=
  ⟨(.type "tuple"), none, (.seq #[] 0), #[]⟩
noncomputable def o179_8 (_P : Params) : Obj :=
  ⟨.none, none, (.fields #[]), #[]⟩
noncomputable def o180_8 (_P : Params) : Obj :=
  ⟨.none, none, (.func { name := (Str.ofString "_law_end"), qualname := (Str.ofString "_law_end"), params := sArgs (stm 19), body := .stmts (sBody (stm 19)), scope := sScope (stm 19), globals := 0, closure := [], defaults := .none, kwdefaults := .none, doc := .none, pyModule := .none, annotations := none, code := .none, closureTuple := .none, builtins := 0 }), #[]⟩
noncomputable def o181_8 (_P : Params) : Obj :=
  ⟨(.type "code"), none, (.fields #[(.str (Str.ofString "_law_end") 2502), (.str (Str.ofString "_law_end") 2503), (.str (Str.ofString "/claim/cut.py") 2504), (.int 121 0), (.int 2 0), (.int 0 0), (.int 0 0), (.int 3 0), (.ref 178), (.bool true), (.int 181 0), (.ref 179), .none, .none, .none, (.ref 180), (.int 2505 0), (.int 121 0), (.str (Str.ofString "/claim/cut.py") 2506)]), #[]⟩
noncomputable def o182_8 (_P : Params) : Obj :=
  ⟨(.type "function"), none, (.func { name := (Str.ofString "_law_end"), qualname := (Str.ofString "_law_end"), params := sArgs (stm 19), body := .stmts (sBody (stm 19)), scope := sScope (stm 19), globals := 3, closure := [], defaults := .none, kwdefaults := .none, doc := .none, pyModule := (.str (Str.ofString "law_rs0173_01") 2445), annotations := none, code := (.ref 181), closureTuple := .none, builtins := 0 }), #[]⟩
noncomputable def o183_8 (_P : Params) : Obj :=
  ⟨(.type "tuple"), none, (.seq #[] 0), #[]⟩
noncomputable def o184_8 (_P : Params) : Obj :=
  ⟨.none, none, (.fields #[]), #[]⟩
noncomputable def o185_8 (_P : Params) : Obj :=
  ⟨(.type "tuple"), none, (.seq #[(.str (Str.ofString "several") 2511), (.str (Str.ofString "word") 2512), (.str (Str.ofString "rule") 2513)] 0), #[]⟩
noncomputable def o186_8 (_P : Params) : Obj :=
  ⟨(.type "tuple"), none, (.seq #[(.str (Str.ofString "several") 2514)] 0), #[]⟩
noncomputable def o187_8 (_P : Params) : Obj :=
  ⟨.none, none, (.func { name := (Str.ofString "_law_rule"), qualname := (Str.ofString "_law_rule"), params := sArgs (stm 20), body := .stmts (sBody (stm 20)), scope := sScope (stm 20), globals := 0, closure := [], defaults := .none, kwdefaults := .none, doc := .none, pyModule := .none, annotations := none, code := .none, closureTuple := .none, builtins := 0 }), #[]⟩
noncomputable def o188_8 (_P : Params) : Obj :=
  ⟨(.type "code"), none, (.fields #[(.str (Str.ofString "_law_rule") 2508), (.str (Str.ofString "_law_rule") 2509), (.str (Str.ofString "/claim/cut.py") 2510), (.int 132 0), (.int 2 0), (.int 0 0), (.int 0 0), (.int 3 0), (.ref 183), (.bool true), (.int 181 0), (.ref 184), .none, (.ref 185), (.ref 186), (.ref 187), (.int 2515 0), (.int 132 0), (.str (Str.ofString "/claim/cut.py") 2516)]), #[]⟩
noncomputable def o189_8 (_P : Params) : Obj :=
  ⟨(.type "function"), none, (.func { name := (Str.ofString "_law_rule"), qualname := (Str.ofString "_law_rule"), params := sArgs (stm 20), body := .stmts (sBody (stm 20)), scope := sScope (stm 20), globals := 3, closure := [], defaults := .none, kwdefaults := .none, doc := .none, pyModule := (.str (Str.ofString "law_rs0173_01") 2445), annotations := none, code := (.ref 188), closureTuple := .none, builtins := 0 }), #[]⟩
noncomputable def o190_8 (_P : Params) : Obj :=
  ⟨(.type "tuple"), none, (.seq #[] 0), #[]⟩
noncomputable def o191_8 (_P : Params) : Obj :=
  ⟨.none, none, (.fields #[]), #[]⟩
noncomputable def o192_8 (_P : Params) : Obj :=
  ⟨.none, none, (.func { name := (Str.ofString "law"), qualname := (Str.ofString "law"), params := sArgs (stm 21), body := .stmts (sBody (stm 21)), scope := sScope (stm 21), globals := 0, closure := [], defaults := .none, kwdefaults := .none, doc := .none, pyModule := .none, annotations := none, code := .none, closureTuple := .none, builtins := 0 }), #[]⟩
noncomputable def o193_8 (_P : Params) : Obj :=
  ⟨(.type "code"), none, (.fields #[(.str (Str.ofString "law") 2518), (.str (Str.ofString "law") 2519), (.str (Str.ofString "/claim/cut.py") 2520), (.int 137 0), (.int 1 0), (.int 0 0), (.int 0 0), (.int 3 0), (.ref 190), (.bool true), (.int 181 0), (.ref 191), .none, .none, .none, (.ref 192), (.int 2521 0), (.int 137 0), (.str (Str.ofString "/claim/cut.py") 2522)]), #[]⟩
noncomputable def o194_8 (_P : Params) : Obj :=
  ⟨(.type "function"), none, (.func { name := (Str.ofString "law"), qualname := (Str.ofString "law"), params := sArgs (stm 21), body := .stmts (sBody (stm 21)), scope := sScope (stm 21), globals := 3, closure := [], defaults := .none, kwdefaults := .none, doc := .none, pyModule := (.str (Str.ofString "law_rs0173_01") 2445), annotations := none, code := (.ref 193), closureTuple := .none, builtins := 0 }), #[]⟩
noncomputable def T22 (P : Params) : BT :=
  (.node (boot_o_0 P) (.node (boot_o_1 P) (.node (o3_8 P) (.node (boot_o_7 P) (.node (o15_2 P) (.node (o31_2 P) (.node (o63_4 P) (.node (o127_7 P) .nil .nil) (.node (o191_8 P) .nil .nil)) (.node (o95_7 P) (.node (o159_8 P) .nil .nil) .nil)) (.node (o47_2 P) (.node (o79_5 P) (.node (o143_8 P) .nil .nil) .nil) (.node (o111_7 P) (.node (o175_8 P) .nil .nil) .nil))) (.node (o23_2 P) (.node (o39_2 P) (.node (o71_4 P) (.node (o135_8 P) .nil .nil) .nil) (.node (o103_7 P) (.node (o167_8 P) .nil .nil) .nil)) (.node (o55_2 P) (.node (o87_6 P) (.node (o151_8 P) .nil .nil) .nil) (.node (o119_7 P) (.node (o183_8 P) .nil .nil) .nil)))) (.node (o11_1 P) (.node (o19_2 P) (.node (o35_2 P) (.node (o67_4 P) (.node (o131_7 P) .nil .nil) .nil) (.node (o99_7 P) (.node (o163_8 P) .nil .nil) .nil)) (.node (o51_2 P) (.node (o83_5 P) (.node (o147_8 P) .nil .nil) .nil) (.node (o115_7 P) (.node (o179_8 P) .nil .nil) .nil))) (.node (o27_2 P) (.node (o43_2 P) (.node (o75_4 P) (.node (o139_8 P) .nil .nil) .nil) (.node (o107_7 P) (.node (o171_8 P) .nil .nil) .nil)) (.node (o59_3 P) (.node (o91_6 P) (.node (o155_8 P) .nil .nil) .nil) (.node (o123_7 P) (.node (o187_8 P) .nil .nil) .nil))))) (.node (boot_o_5 P) (.node (boot_o_9 P) (.node (o17_2 P) (.node (o33_2 P) (.node (o65_4 P) (.node (o129_7 P) .nil .nil) (.node (o193_8 P) .nil .nil)) (.node (o97_7 P) (.node (o161_8 P) .nil .nil) .nil)) (.node (o49_2 P) (.node (o81_5 P) (.node (o145_8 P) .nil .nil) .nil) (.node (o113_7 P) (.node (o177_8 P) .nil .nil) .nil))) (.node (o25_2 P) (.node (o41_2 P) (.node (o73_4 P) (.node (o137_8 P) .nil .nil) .nil) (.node (o105_7 P) (.node (o169_8 P) .nil .nil) .nil)) (.node (o57_3 P) (.node (o89_6 P) (.node (o153_8 P) .nil .nil) .nil) (.node (o121_7 P) (.node (o185_8 P) .nil .nil) .nil)))) (.node (o13_1 P) (.node (o21_2 P) (.node (o37_2 P) (.node (o69_4 P) (.node (o133_8 P) .nil .nil) .nil) (.node (o101_7 P) (.node (o165_8 P) .nil .nil) .nil)) (.node (o53_2 P) (.node (o85_5 P) (.node (o149_8 P) .nil .nil) .nil) (.node (o117_7 P) (.node (o181_8 P) .nil .nil) .nil))) (.node (o29_2 P) (.node (o45_2 P) (.node (o77_5 P) (.node (o141_8 P) .nil .nil) .nil) (.node (o109_7 P) (.node (o173_8 P) .nil .nil) .nil)) (.node (o61_3 P) (.node (o93_6 P) (.node (o157_8 P) .nil .nil) .nil) (.node (o125_7 P) (.node (o189_8 P) .nil .nil) .nil)))))) (.node (boot_o_2 P) (.node (boot_o_4 P) (.node (boot_o_8 P) (.node (o16_2 P) (.node (o32_2 P) (.node (o64_4 P) (.node (o128_7 P) .nil .nil) (.node (o192_8 P) .nil .nil)) (.node (o96_7 P) (.node (o160_8 P) .nil .nil) .nil)) (.node (o48_2 P) (.node (o80_5 P) (.node (o144_8 P) .nil .nil) .nil) (.node (o112_7 P) (.node (o176_8 P) .nil .nil) .nil))) (.node (o24_2 P) (.node (o40_2 P) (.node (o72_4 P) (.node (o136_8 P) .nil .nil) .nil) (.node (o104_7 P) (.node (o168_8 P) .nil .nil) .nil)) (.node (o56_2 P) (.node (o88_6 P) (.node (o152_8 P) .nil .nil) .nil) (.node (o120_7 P) (.node (o184_8 P) .nil .nil) .nil)))) (.node (o12_8 P) (.node (o20_2 P) (.node (o36_2 P) (.node (o68_4 P) (.node (o132_7 P) .nil .nil) .nil) (.node (o100_7 P) (.node (o164_8 P) .nil .nil) .nil)) (.node (o52_2 P) (.node (o84_5 P) (.node (o148_8 P) .nil .nil) .nil) (.node (o116_7 P) (.node (o180_8 P) .nil .nil) .nil))) (.node (o28_2 P) (.node (o44_2 P) (.node (o76_5 P) (.node (o140_8 P) .nil .nil) .nil) (.node (o108_7 P) (.node (o172_8 P) .nil .nil) .nil)) (.node (o60_3 P) (.node (o92_6 P) (.node (o156_8 P) .nil .nil) .nil) (.node (o124_7 P) (.node (o188_8 P) .nil .nil) .nil))))) (.node (boot_o_6 P) (.node (boot_o_10 P) (.node (o18_2 P) (.node (o34_2 P) (.node (o66_4 P) (.node (o130_7 P) .nil .nil) (.node (o194_8 P) .nil .nil)) (.node (o98_7 P) (.node (o162_8 P) .nil .nil) .nil)) (.node (o50_2 P) (.node (o82_5 P) (.node (o146_8 P) .nil .nil) .nil) (.node (o114_7 P) (.node (o178_8 P) .nil .nil) .nil))) (.node (o26_2 P) (.node (o42_2 P) (.node (o74_4 P) (.node (o138_8 P) .nil .nil) .nil) (.node (o106_7 P) (.node (o170_8 P) .nil .nil) .nil)) (.node (o58_3 P) (.node (o90_6 P) (.node (o154_8 P) .nil .nil) .nil) (.node (o122_7 P) (.node (o186_8 P) .nil .nil) .nil)))) (.node (o14_1 P) (.node (o22_2 P) (.node (o38_2 P) (.node (o70_4 P) (.node (o134_8 P) .nil .nil) .nil) (.node (o102_7 P) (.node (o166_8 P) .nil .nil) .nil)) (.node (o54_2 P) (.node (o86_5 P) (.node (o150_8 P) .nil .nil) .nil) (.node (o118_7 P) (.node (o182_8 P) .nil .nil) .nil))) (.node (o30_2 P) (.node (o46_2 P) (.node (o78_5 P) (.node (o142_8 P) .nil .nil) .nil) (.node (o110_7 P) (.node (o174_8 P) .nil .nil) .nil)) (.node (o62_4 P) (.node (o94_7 P) (.node (o158_8 P) .nil .nil) .nil) (.node (o126_7 P) (.node (o190_8 P) .nil .nil) .nil)))))))
noncomputable def stT (T : Params → BT) (n k : Nat) (w : World) (os : OsState) : SharedT := ⟨T w.params, n, lf, #[], ⟨0, 0, 0, 0⟩, k, os⟩
end Mine
end

end
section
open PySem PySem.W PyProof.Rows PySem.Calls
set_option Elab.async false
set_option maxRecDepth 100000
set_option maxHeartbeats 0
noncomputable section
namespace Mine
theorem g1 : ∀ w : World, (fun os => PySem.W.Fast.tw10110043849684766642 PySem.W.Fast.tw14364793385576792824 pg w 11 (some (.ref 6)) 1 346 (stT Ta 15 187 w os) (piecesOf [stm 0, stm 1, stm 2] env0 cE ⟨0, 0, 0, 0⟩ B0)) = fun os => some (.next, stT T3 57 253 w os, cE, ⟨50, 0, 50, 8⟩) := by
  intro w; kernel_rfl
theorem g2ff : ∀ w : World, (fun os => PySem.W.Fast.tw10110043849684766642 PySem.W.Fast.tw14364793385576792824 pg ((w.withFollow "special-get-raises" false).withFollow "comprehension-iter-twice" false) 11 (some (.ref 6)) 1 1253 (stT T3 57 253 ((w.withFollow "special-get-raises" false).withFollow "comprehension-iter-twice" false) os) (piecesOf [stm 3] env0 cE ⟨50, 0, 50, 8⟩ B0)) = fun os => some (.next, stT T4 62 399 ((w.withFollow "special-get-raises" false).withFollow "comprehension-iter-twice" false) os, cE, ⟨51, 0, 51, 18⟩) := by
  intro w; kernel_rfl
theorem g2ft : ∀ w : World, (fun os => PySem.W.Fast.tw10110043849684766642 PySem.W.Fast.tw14364793385576792824 pg ((w.withFollow "special-get-raises" false).withFollow "comprehension-iter-twice" true) 11 (some (.ref 6)) 1 1253 (stT T3 57 253 ((w.withFollow "special-get-raises" false).withFollow "comprehension-iter-twice" true) os) (piecesOf [stm 3] env0 cE ⟨50, 0, 50, 8⟩ B0)) = fun os => some (.next, stT T4 62 399 ((w.withFollow "special-get-raises" false).withFollow "comprehension-iter-twice" true) os, cE, ⟨51, 0, 51, 18⟩) := by
  intro w; kernel_rfl
theorem g2tf : ∀ w : World, (fun os => PySem.W.Fast.tw10110043849684766642 PySem.W.Fast.tw14364793385576792824 pg ((w.withFollow "special-get-raises" true).withFollow "comprehension-iter-twice" false) 11 (some (.ref 6)) 1 1253 (stT T3 57 253 ((w.withFollow "special-get-raises" true).withFollow "comprehension-iter-twice" false) os) (piecesOf [stm 3] env0 cE ⟨50, 0, 50, 8⟩ B0)) = fun os => some (.next, stT T4 62 399 ((w.withFollow "special-get-raises" true).withFollow "comprehension-iter-twice" false) os, cE, ⟨51, 0, 51, 18⟩) := by
  intro w; kernel_rfl
theorem g2tt : ∀ w : World, (fun os => PySem.W.Fast.tw10110043849684766642 PySem.W.Fast.tw14364793385576792824 pg ((w.withFollow "special-get-raises" true).withFollow "comprehension-iter-twice" true) 11 (some (.ref 6)) 1 1253 (stT T3 57 253 ((w.withFollow "special-get-raises" true).withFollow "comprehension-iter-twice" true) os) (piecesOf [stm 3] env0 cE ⟨50, 0, 50, 8⟩ B0)) = fun os => some (.next, stT T4 62 399 ((w.withFollow "special-get-raises" true).withFollow "comprehension-iter-twice" true) os, cE, ⟨51, 0, 51, 18⟩) := by
  intro w; kernel_rfl
theorem g3 : ∀ w : World, (fun os => PySem.W.Fast.tw10110043849684766642 PySem.W.Fast.tw14364793385576792824 pg w 11 (some (.ref 6)) 1 79 (stT T4 62 399 w os) (piecesOf [stm 4, stm 5, stm 6, stm 7] env0 cE ⟨51, 0, 51, 18⟩ B0)) = fun os => some (.next, stT T8 76 419 w os, cE, ⟨65, 0, 65, 8⟩) := by
  intro w; kernel_rfl
theorem g4f : ∀ w : World, (fun os => PySem.W.Fast.tw10110043849684766642 PySem.W.Fast.tw14364793385576792824 pg (w.withFollow "special-get-raises" false) 11 (some (.ref 6)) 1 999 (stT T8 76 419 (w.withFollow "special-get-raises" false) os) (piecesOf [stm 8] env0 cE ⟨65, 0, 65, 8⟩ B0)) = fun os => some (.next, stT T9 87 479 (w.withFollow "special-get-raises" false) os, cE, ⟨66, 0, 66, 6⟩) := by
  intro w; kernel_rfl
theorem g4t : ∀ w : World, (fun os => PySem.W.Fast.tw10110043849684766642 PySem.W.Fast.tw14364793385576792824 pg (w.withFollow "special-get-raises" true) 11 (some (.ref 6)) 1 999 (stT T8 76 419 (w.withFollow "special-get-raises" true) os) (piecesOf [stm 8] env0 cE ⟨65, 0, 65, 8⟩ B0)) = fun os => some (.next, stT T9 87 479 (w.withFollow "special-get-raises" true) os, cE, ⟨66, 0, 66, 6⟩) := by
  intro w; kernel_rfl
theorem g5 : ∀ w : World, (fun os => PySem.W.Fast.tw10110043849684766642 PySem.W.Fast.tw14364793385576792824 pg w 11 (some (.ref 6)) 1 30 (stT T9 87 479 w os) (piecesOf [stm 9] env0 cE ⟨66, 0, 66, 6⟩ B0)) = fun os => some (.next, stT T10 94 486 w os, cE, ⟨67, 0, 68, 30⟩) := by
  intro w; kernel_rfl
theorem g7 : ∀ w : World, (fun os => PySem.W.Fast.tw10110043849684766642 PySem.W.Fast.tw14364793385576792824 pg w 11 (some (.ref 6)) 1 307 (stT T11 133 2437 w os) (piecesOf [stm 11, stm 12, stm 13, stm 14, stm 15, stm 16, stm 17, stm 18, stm 19, stm 20, stm 21] env0 cE ⟨69, 0, 69, 13⟩ B0)) = fun os => some (.next, stT T22 195 2524 w os, cE, ⟨137, 0, 170, 67⟩) := by
  intro w; kernel_rfl
end Mine
end

end
section
open PySem PySem.W PyProof.Rows PySem.Calls
set_option Elab.async false
set_option maxRecDepth 100000
set_option maxHeartbeats 0
noncomputable section
namespace Mine
theorem stm10 : stm 10 = .Assign [.Name "b3_exceptions" ⟨69, 0, 69, 13⟩] (.Dict (dKeys (stm 10)) (dVals (stm 10)) (dPos (stm 10))) ⟨69, 0, (dPos (stm 10)).endLine, (dPos (stm 10)).endCol⟩ := by kernel_rfl
theorem b3ok : (litPairs (dKeys (stm 10)) (dVals (stm 10))).isSome = true := by decide +kernel
theorem b3len : b3L.length = 650 := by decide +kernel
noncomputable def risesA : List (Int × Str) → Int → Bool
  | [], _ => true
  | p :: r, a => decide (a < p.1) && risesA r p.1
noncomputable def risesB (L : List (Int × Str)) : Bool := risesA L (-1)
theorem b3risesB : risesB b3L = true := by decide +kernel
theorem rises_at : ∀ {L : List (Int × Str)} {a : Int}, risesA L a = true → (∀ b ∈ L, a < b.1) ∧ L.Pairwise fun a b => a.1 < b.1
  | [], _, _ => ⟨(fun _ h => nomatch h), .nil⟩
  | p :: r, a, h => by
    have h' := Bool.and_eq_true_iff.mp (show (decide (a < p.1) && risesA r p.1) = true from h)
    have ih := rises_at h'.2
    have h1 := of_decide_eq_true h'.1
    exact ⟨fun b hb => (List.mem_cons.mp hb).elim (fun e => e ▸ h1) (fun hb => Int.lt_trans h1 (ih.1 b hb)), .cons ih.1 ih.2⟩
theorem rises_of {L : List (Int × Str)} (h : risesB L = true) : L.Pairwise fun a b => a.1 < b.1 := (rises_at h).2
theorem hash_small {k : Int} (h0 : 0 ≤ k) (h1 : k < 1000000) : hashInt k = k := by
  have h2 : (k.natAbs : Int) = k := Int.natAbs_of_nonneg h0
  have h3 : k < ((2 ^ 61 - 1 : Nat) : Int) := Int.lt_trans h1 (by decide)
  have h4 : (k == -1) = false := beq_eq_false_iff_ne.mpr fun e => absurd (e ▸ h0) (by decide)
  have h : rawHash k = k := by
    unfold rawHash
    show (if ((if k < 0 then -((k.natAbs : Int) % ((2 ^ 61 - 1 : Nat) : Int)) else (k.natAbs : Int) % ((2 ^ 61 - 1 : Nat) : Int)) == -1) = true then -2 else if k < 0 then -((k.natAbs : Int) % ((2 ^ 61 - 1 : Nat) : Int)) else (k.natAbs : Int) % ((2 ^ 61 - 1 : Nat) : Int)) = k
    rw [h2, Int.emod_eq_of_lt h0 h3, if_neg (Int.not_lt.mpr h0), h4]
    rfl
  unfold hashInt
  rw [h, h4]; rfl
theorem lit_cons {k : Option Expr} {v : Expr} {ks : List (Option Expr)} {vs : List Expr} {L : List (Int × Str)} (h : litPairs (k :: ks) (v :: vs) = some L) :
    ∃ i a b t c d r, k = some (.Constant (.int i) a b) ∧ v = .Constant (.str t) c d ∧ litPairs ks vs = some r ∧ (0 ≤ i ∧ i < 1000000) ∧ L = (i, t) :: r := by
  obtain ⟨⟨i, a, b, e1⟩, -, h⟩ := Option.bind_eq_some_iff.mp (show (litKey k).bind _ = some L from h)
  obtain ⟨⟨t, c, d, e2⟩, -, h⟩ := Option.bind_eq_some_iff.mp h
  obtain ⟨r, e3, h⟩ := Option.bind_eq_some_iff.mp h
  by_cases hi : 0 ≤ i ∧ i < 1000000
  · rw [if_pos hi] at h; exact ⟨i, a, b, t, c, d, r, e1, e2, e3, hi, (Option.some.inj h).symm⟩
  · rw [if_neg hi] at h; exact none_some h
theorem pairs_lit {st : Setting} {env : Env} {pos : Pos} : ∀ {ks : List (Option Expr)} {vs : List Expr} {L : List (Int × Str)}, litPairs ks vs = some L → Pairs st pos (pairTrees ks vs env pos) L
  | [], [], L, h => by rw [← Option.some.inj (show some [] = some L from h)]; exact .nil
  | [], _ :: _, _, h => none_some h
  | _ :: _, [], _, h => none_some h
  | k :: ks, v :: vs, L, h => by
    obtain ⟨i, a, b, t, c, d, r, rfl, rfl, e, hi, rfl⟩ := lit_cons h
    exact .cons ⟨fun s p => rfl, fun s p => rfl, hash_small hi.1 hi.2⟩ (pairs_lit e)
theorem lit_shape' : ∀ {ks : List (Option Expr)} {vs : List Expr} {L : List (Int × Str)}, litPairs ks vs = some L → ks.all (·.isSome) = true ∧ ks.length = vs.length
  | [], [], _, _ => ⟨rfl, rfl⟩
  | [], _ :: _, _, h => none_some h
  | _ :: _, [], _, h => none_some h
  | k :: ks, v :: vs, L, h => by
    obtain ⟨i, a, b, t, c, d, r, rfl, rfl, e, hi, rfl⟩ := lit_cons h
    have := lit_shape' e
    exact ⟨this.1, congrArg (· + 1) this.2⟩
theorem lit_shape {ks : List (Option Expr)} {vs : List Expr} (h : (litPairs ks vs).isSome = true) : ks.all (·.isSome) = true ∧ ks.length = vs.length := by
  obtain ⟨r, e⟩ := Option.isSome_iff_exists.mp h
  exact lit_shape' e
theorem b3pairs {st : Setting} : Pairs st (dPos (stm 10)) (pairTrees (dKeys (stm 10)) (dVals (stm 10)) env0 (dPos (stm 10))) b3L := by
  refine pairs_lit ?_
  unfold b3L
  obtain ⟨r, e⟩ := Option.isSome_iff_exists.mp b3ok
  rw [e]; rfl
theorem run_dict {st : Setting} {pre : List Obj} {os : OsState} {p : PC} (hd : pre.length = 94) :
    runS st (eval (.Dict (dKeys (stm 10)) (dVals (stm 10)) (dPos (stm 10))) env0) (mkS pre 486 os) p = some (.ref 94, mkS (pre ++ b3Obj :: (subsAll 37 537 (b3L.drop 17))) 2436 os, p.a (dPos (stm 10)) 12516) := by
  rw [arm_eval_Dict, zip_pairTrees _ _ _ _ (lit_shape b3ok).1 (lit_shape b3ok).2]
  rw [runS_bind (a := ()) (s' := mkS pre 486 os) (p' := p.a (dPos (stm 10)) 1) rfl]
  have := run_display (st := st) (pos := dPos (stm 10)) (p := p.a (dPos (stm 10)) 1) (pre := pre) (k := 486) (os := os) 37 (by omega) b3pairs (by rw [b3len]) (rises_of b3risesB) (by rw [b3len]; decide)
  rw [hd, b3len] at this
  exact this
end Mine
end

end
section
open PySem PySem.W PyProof.Rows PySem.Calls
set_option Elab.async false
set_option maxRecDepth 100000
set_option maxHeartbeats 0
set_option linter.all false
noncomputable section
namespace Mine
theorem arm_Assign (targets : List Expr) (value : Expr) (pos : Pos) (env : Env) : exec (.Assign targets value pos) env = (do
    standAt pos
    if ← swapsWithSole targets value pos.line env then do
      evalThenUse value env fun v => assignAll v ((assignEach targets env).map (·.2))
      pure .next
    else do
      let v ← eval value env
      assignStores env v (← swappedStores targets value env) ((assignEach targets env).map (·.2))) := rfl
theorem run_tail (w : World) (os : OsState) : runS ⟨pg, w.params⟩ (assignStores env0 (.ref 94) none ((assignEach [.Name "b3_exceptions" ⟨69, 0, 69, 13⟩] env0).map (·.2)))
    (mkS ((T10 w.params).list 94 ++ b3Obj :: (subsAll 37 537 (b3L.drop 17))) 2436 os) ⟨dPos (stm 10), 12517⟩ = some (.next, mkS ((T11 w.params).list 133) 2437 os, ⟨⟨69, 0, 69, 13⟩, 12524⟩) := by
  kernel_rfl
theorem run_st10 (w : World) (os : OsState) : runS ⟨pg, w.params⟩ (execs [stm 10] env0) (mkS ((T10 w.params).list 94) 486 os) ⟨⟨67, 0, 68, 30⟩, 0⟩ = some (.next, mkS ((T11 w.params).list 133) 2437 os, ⟨⟨69, 0, 69, 13⟩, 12524⟩) := by
  have h1 : runS ⟨pg, w.params⟩ (exec (stm 10) env0) (mkS ((T10 w.params).list 94) 486 os) ⟨⟨67, 0, 68, 30⟩, 0⟩ = some (.next, mkS ((T11 w.params).list 133) 2437 os, ⟨⟨69, 0, 69, 13⟩, 12524⟩) := by
    rw [show exec (stm 10) env0 = _ from congrArg (exec · env0) stm10, arm_Assign]
    rw [runS_bind (a := ()) (s' := mkS ((T10 w.params).list 94) 486 os) (p' := ⟨⟨69, 0, (dPos (stm 10)).endLine, (dPos (stm 10)).endCol⟩, 1⟩) rfl]
    rw [show ∀ l, swapsWithSole [.Name "b3_exceptions" ⟨69, 0, 69, 13⟩] (.Dict (dKeys (stm 10)) (dVals (stm 10)) (dPos (stm 10))) l env0 = pure false from fun l => rfl]
    rw [runS_bind (runS_pure _)]
    simp only [Bool.false_eq_true, if_false]
    rw [runS_bind (run_dict (by simp [BT.list]))]
    rw [show swappedStores [.Name "b3_exceptions" ⟨69, 0, 69, 13⟩] (.Dict (dKeys (stm 10)) (dVals (stm 10)) (dPos (stm 10))) env0 = pure none from rfl]
    rw [runS_bind (runS_pure _)]
    exact run_tail w os
  show runS ⟨pg, w.params⟩ (exec (stm 10) env0 >>= _) _ _ = _
  rw [runS_bind h1]
  rfl
theorem g6 (w : World) (os : OsState) : segRun treeTable pg w 11 (some (.ref 6)) 1 12525 (stT T10 94 486 w os).abs (piecesOf [stm 10] env0 cE ⟨67, 0, 68, 30⟩ B0) = some (.next, (stT T11 133 2437 w os).abs, cE, ⟨69, 0, 69, 13⟩) := by
  obtain ⟨n, hc, hn⟩ := runS_seg (pr := pg) (w := w) (ann := some (.ref 6)) (fr := topFrame ⟨0, 0, 0, 0⟩) (run_st10 w os)
  have : n = 12524 := by simpa using hc.symm
  subst this
  have := hn doneF deadEnd id id cE 1 (.next, (stT T11 133 2437 w os).abs, cE, ⟨69, 0, 69, 13⟩) rfl
  exact this
end Mine
end

end
section
open PySem PySem.W PyProof.Rows PySem.Calls
set_option Elab.async false
set_option maxRecDepth 100000
set_option maxHeartbeats 0
set_option linter.all false
noncomputable section
namespace Mine
theorem seg_ok {w : World} {l : List Stmt} {N n k n' k' : Nat} {T T' : Params → BT} {p p' : Pos}
    (h : (fun os => PySem.W.Fast.tw10110043849684766642 PySem.W.Fast.tw14364793385576792824 pg w 11 (some (.ref 6)) 1 N (stT T n k w os) (piecesOf l env0 cE p B0)) = fun os => some (.next, stT T' n' k' w os, cE, p')) (os : OsState) :
    segRun treeTable pg w 11 (some (.ref 6)) 1 N (stT T n k w os).abs (piecesOf l env0 cE p B0) = some (.next, (stT T' n' k' w os).abs, cE, p') := by
  have e := congrFun h os
  rw [← PySem.W.Fast.te10110043849684766642, ← PySem.W.Fast.te14364793385576792824] at e
  exact segRun_of e
theorem r1 (w : World) (os : OsState) : segRun treeTable pg w 11 (some (.ref 6)) 1 346 (stT Ta 15 187 w os).abs (piecesOf [stm 0, stm 1, stm 2] env0 cE ⟨0, 0, 0, 0⟩ B0) = some (.next, (stT T3 57 253 w os).abs, cE, ⟨50, 0, 50, 8⟩) := seg_ok (g1 w) os
theorem r2 (w : World) (os : OsState) : segRun treeTable pg w 11 (some (.ref 6)) 1 1253 (stT T3 57 253 w os).abs (piecesOf [stm 3] env0 cE ⟨50, 0, 50, 8⟩ B0) = some (.next, (stT T4 62 399 w os).abs, cE, ⟨51, 0, 51, 18⟩) := by
  refine byRow2 "comprehension-iter-twice" (P := fun w => segRun treeTable pg w 11 (some (.ref 6)) 1 1253 (stT T3 57 253 w os).abs (piecesOf [stm 3] env0 cE ⟨50, 0, 50, 8⟩ B0) = some (.next, (stT T4 62 399 w os).abs, cE, ⟨51, 0, 51, 18⟩)) (fun w => ?_) (fun w => ?_) w
  · exact byRow2 "special-get-raises" (P := fun w => segRun treeTable pg (w.withFollow "comprehension-iter-twice" false) 11 (some (.ref 6)) 1 1253 (stT T3 57 253 (w.withFollow "comprehension-iter-twice" false) os).abs (piecesOf [stm 3] env0 cE ⟨50, 0, 50, 8⟩ B0) = some (.next, (stT T4 62 399 (w.withFollow "comprehension-iter-twice" false) os).abs, cE, ⟨51, 0, 51, 18⟩)) (fun w => seg_ok (g2ff w) os) (fun w => seg_ok (g2tf w) os) w
  · exact byRow2 "special-get-raises" (P := fun w => segRun treeTable pg (w.withFollow "comprehension-iter-twice" true) 11 (some (.ref 6)) 1 1253 (stT T3 57 253 (w.withFollow "comprehension-iter-twice" true) os).abs (piecesOf [stm 3] env0 cE ⟨50, 0, 50, 8⟩ B0) = some (.next, (stT T4 62 399 (w.withFollow "comprehension-iter-twice" true) os).abs, cE, ⟨51, 0, 51, 18⟩)) (fun w => seg_ok (g2ft w) os) (fun w => seg_ok (g2tt w) os) w
theorem r3 (w : World) (os : OsState) : segRun treeTable pg w 11 (some (.ref 6)) 1 79 (stT T4 62 399 w os).abs (piecesOf [stm 4, stm 5, stm 6, stm 7] env0 cE ⟨51, 0, 51, 18⟩ B0) = some (.next, (stT T8 76 419 w os).abs, cE, ⟨65, 0, 65, 8⟩) := seg_ok (g3 w) os
theorem r4 (w : World) (os : OsState) : segRun treeTable pg w 11 (some (.ref 6)) 1 999 (stT T8 76 419 w os).abs (piecesOf [stm 8] env0 cE ⟨65, 0, 65, 8⟩ B0) = some (.next, (stT T9 87 479 w os).abs, cE, ⟨66, 0, 66, 6⟩) :=
  byRow2 "special-get-raises" (P := fun w => segRun treeTable pg w 11 (some (.ref 6)) 1 999 (stT T8 76 419 w os).abs (piecesOf [stm 8] env0 cE ⟨65, 0, 65, 8⟩ B0) = some (.next, (stT T9 87 479 w os).abs, cE, ⟨66, 0, 66, 6⟩)) (fun w => seg_ok (g4f w) os) (fun w => seg_ok (g4t w) os) w
theorem r5 (w : World) (os : OsState) : segRun treeTable pg w 11 (some (.ref 6)) 1 30 (stT T9 87 479 w os).abs (piecesOf [stm 9] env0 cE ⟨66, 0, 66, 6⟩ B0) = some (.next, (stT T10 94 486 w os).abs, cE, ⟨67, 0, 68, 30⟩) := seg_ok (g5 w) os
theorem r7 (w : World) (os : OsState) : segRun treeTable pg w 11 (some (.ref 6)) 1 307 (stT T11 133 2437 w os).abs (piecesOf [stm 11, stm 12, stm 13, stm 14, stm 15, stm 16, stm 17, stm 18, stm 19, stm 20, stm 21] env0 cE ⟨69, 0, 69, 13⟩ B0) = some (.next, (stT T22 195 2524 w os).abs, cE, ⟨137, 0, 170, 67⟩) := seg_ok (g7 w) os
theorem pre (w : World) (os : OsState) : topGo treeTable pg w 11 (some (.ref 6)) 12 ⟨boot_heap w.params, Array.mk [], boot_drawn, boot_toks, os⟩ (topStub pg) = some ((stT Ta 15 187 w os).abs, ⟨denote treeTable cE, cE, ⟨0,0,0,0⟩, B0⟩) := by
  kernel_rfl
theorem blk (w : World) (os : OsState) : segRun treeTable pg w 11 (some (.ref 6)) 1 1 (stT Ta 15 187 w os).abs (blockOf (behindTheImports pg) env0 cE ⟨0, 0, 0, 0⟩ B0) = some (.next, (stT Ta 15 187 w os).abs, cE, ⟨0, 0, 0, 0⟩) := by
  kernel_rfl

theorem fin_ (w : World) (os : OsState) : topRun treeTable pg w 11 (some (.ref 6)) 2 (stT T22 195 2524 w os).abs ⟨doneF .next, cE, ⟨137, 0, 170, 67⟩, B0⟩ = some (stT T22 195 2524 w os).abs := by
  kernel_rfl
theorem body_split : behindTheImports pg = [stm 0, stm 1, stm 2] ++ ([stm 3] ++ ([stm 4, stm 5, stm 6, stm 7] ++ ([stm 8] ++ ([stm 9] ++ ([stm 10] ++ ([stm 11, stm 12, stm 13, stm 14, stm 15, stm 16, stm 17, stm 18, stm 19, stm 20, stm 21] ++ [])))))) := by
  kernel_rfl
noncomputable def mAll : Nat := 12 + (1 + (346 + (1253 + (79 + (999 + (30 + (12525 + (307 + 2))))))))
theorem run_ (w : World) (os : OsState) : topRun treeTable pg w 11 (some (.ref 6)) mAll ⟨boot_heap w.params, Array.mk [], boot_drawn, boot_toks, os⟩ (topStub pg) = some (stT T22 195 2524 w os).abs := by
  refine go_top (pre w os) (piece_block (blk w os) ?_)
  rw [body_split]
  exact piece_app (r1 w os) (piece_app (r2 w os) (piece_app (r3 w os) (piece_app (r4 w os) (piece_app (r5 w os) (piece_app (g6 w os) (piece_app (r7 w os) (piece_nil (fin_ w os))))))))
end Mine
end

end
section
open PySem PySem.W PyProof.Rows PySem.Calls
set_option Elab.async false
set_option maxRecDepth 100000
set_option maxHeartbeats 0
set_option linter.all false
noncomputable section
namespace Mine
noncomputable def H1 (P : Params) : Heap := absHeap (T22 P) 195 lf
noncomputable def qv : Program := { pg with main := { pg.main with body := [stm 21] } }
noncomputable def looseV : List Str := pg.boundNames.filter fun n => n != (Str.ofString "law")
noncomputable def XtV : Shared → Bool := fun _ => true
theorem imp0 (w : World) : importEnds treeTable (opening pg) w 600 (start (opening pg)).1 (start (opening pg)).2 = some ⟨boot_heap w.params, Array.mk [], boot_drawn, boot_toks, (start (opening pg)).1.os⟩ := by
  kernel_rfl
theorem open0 : ∀ w : World, (fencedOpening treeTable pg w 20000).map (fun s => (s.heap, s.gens, s.drawn, s.toks)) = some (boot_heap w.params, Array.mk [], boot_drawn, boot_toks) :=
  open_cut imp0 (by kernel_rfl) (fun w => by kernel_rfl)
theorem size0 (w : World) : ((boot_heap w.params).isNs mainGlobals && (Array.mk [] : Array GenState).size == 0, (boot_heap w.params).objs.size, (boot_heap w.params).nsMap mainGlobals "__annotations__") = (true, 11, some (.ref 6)) := by
  kernel_rfl
theorem look1 (w : World) (os : OsState) : staticsOk (importedModules pg.main.body) (boot_heap w.params) (H1 w.params) = true := by kernel_rfl
theorem look2 (w : World) (os : OsState) : namesBound pg (H1 w.params) = true := by kernel_rfl
theorem look4 (w : World) (os : OsState) : laidKept (boot_heap w.params) (H1 w.params) = true := by kernel_rfl
noncomputable def sF (w : World) (os : OsState) : Shared := ⟨H1 w.params, Array.mk [], ⟨0, 0, 0, 0⟩, 2524, os⟩

theorem k1 (w : World) (os : OsState) : seen ((recsOf qv).map (·.name)) (ownsOf qv) [] { sF w os with gens := #[] } = expectedOf qv := by kernel_rfl
theorem k2 (w : World) (os : OsState) : (sF w os).heap.bltView = bltViewBooted := by kernel_rfl
theorem k3 (w : World) (os : OsState) : (sF w os).heap.keysOk (looseW qv looseV) ((recsOf qv).map (·.name)) ((litsOf qv).map (·.1)) ((clssOf qv (looseW qv looseV)).map (·.name)) = true := by kernel_rfl
theorem k3b (w : World) (os : OsState) : ((sF w os).heap.accountedOkI (importedModules pg.main.body) && (sF w os).heap.isNs mainGlobals && (sF w os).heap.isNs builtinsNs && tablesOk qv (sF w os).heap && XtV (sF w os) && (if true then (sF w os).gens.size == 0 else !leftWithCleanup (sF w os).gens)) = true := by kernel_rfl
theorem k4 (w : World) (os : OsState) : tabsOk qv (sF w os) = true := by kernel_rfl
theorem k5 (w : World) (os : OsState) : pinSeenD qv (drecsOf qv) (sF w os) = pinGoodD (drecsOf qv) := by kernel_rfl
theorem k6 (w : World) (os : OsState) : plainSeenE qv (looseW qv looseV) (sF w os) = plainGoodE qv (looseW qv looseV) := by kernel_rfl
theorem k7 (w : World) (os : OsState) : plainSeenD qv looseV (sF w os) = plainGoodD qv looseV := by kernel_rfl
theorem k8 (w : World) (os : OsState) : wideSeen qv (sF w os) = wideGood qv := by kernel_rfl
theorem k9 (w : World) (os : OsState) : clsSeenW qv looseV (sF w os) = clsGoodW qv looseV := by kernel_rfl

theorem looksW (w : World) (os : OsState) : openSeen qv looseV (importedModules pg.main.body) XtV true (sF w os) = openGood qv looseV := by
  have a : ((sF w os).heap.keysOk (looseW qv looseV) ((recsOf qv).map (·.name)) ((litsOf qv).map (·.1)) ((clssOf qv (looseW qv looseV)).map (·.name)) && (sF w os).heap.accountedOkI (importedModules pg.main.body) && (sF w os).heap.isNs mainGlobals && (sF w os).heap.isNs builtinsNs && tablesOk qv (sF w os).heap && XtV (sF w os) && (if true then (sF w os).gens.size == 0 else !leftWithCleanup (sF w os).gens)) = true := by
    have h := k3b w os
    rw [k3 w os]
    simpa only [Bool.true_and] using h
  unfold openSeen openGood
  rw [k1, k2, a, k4, k5, k6, k7, k8, k9]
noncomputable def YfV (s : Shared) : Heap := s.heap
noncomputable def YaV (w : World) : Heap := H1 w.params
theorem left : LeftO pg qv looseV XtV YfV YaV 20000 :=
  LeftO.of_pieces (M := mAll) (m₀ := 11) (ann := some (.ref 6)) (H₁ := H1) (gs₁ := Array.mk []) (d₁ := ⟨0, 0, 0, 0⟩) (k₁ := 2524) open0 size0 run_ (by decide) (fun w => by
    funext os
    refine Prod.ext ?_ (Prod.ext (looksW w os) rfl)
    show (staticsOk _ _ _ && namesBound _ _ && gensDone _ && laidKept _ _) = true
    rw [look1 w os, look2 w os, look4 w os]
    rfl)
end Mine
end

end
section
open PySem PySem.W PyProof.Rows PySem.Calls
set_option Elab.async false
set_option maxRecDepth 100000
set_option linter.all false
namespace Mine

/-! pure values and what stands for them -/
inductive PV where
  | none | bool (b : Bool) | int (n : Int) | str (s : List Nat) | list (xs : List PV) | tup (xs : List PV) | obj (a : Addr)

mutual
noncomputable def Rep (H : List Addr) (h : Heap) : PV → Value → Prop
  | .none, v => v = .none
  | .bool b, v => v = .bool b
  | .int n, v => ∃ t, v = .int n t
  | .str l, v => ∃ t, v = .str ⟨l.toArray⟩ t
  | .list xs, v => ∃ a items, v = .ref a ∧ a ∉ H ∧ h.IsList a items ∧ items.size ≤ 65536 ∧ Reps H h xs items.toList
  | .tup xs, v => ∃ a items, v = .ref a ∧ a ∉ H ∧ IsTup h a items ∧ items.size ≤ 65536 ∧ Reps H h xs items.toList
  | .obj a, v => v = .ref a
noncomputable def Reps (H : List Addr) (h : Heap) : List PV → List Value → Prop
  | [], vs => vs = []
  | x :: xs, vs => ∃ v r, vs = v :: r ∧ Rep H h x v ∧ Reps H h xs r
end

/-- every list or tuple that is not hidden is kept -/
noncomputable def SK (H : List Addr) (h h' : Heap) : Prop := ∀ b o, b ∉ H → (∃ xs n, o.data = .seq xs n) → h.get? b = some o → h'.get? b = some o
theorem SK.of_keep {H : List Addr} {h h' : Heap} (k : ∀ b o, h.get? b = some o → h'.get? b = some o) : SK H h h' := fun b o _ _ e => k b o e

mutual
theorem Rep.sk {H : List Addr} {h h' : Heap} (k : SK H h h') : ∀ (p : PV) (v : Value), Rep H h p v → Rep H h' p v
  | .none, _, x => x
  | .bool _, _, x => x
  | .int _, _, x => x
  | .str _, _, x => x
  | .list xs, v, x => by
    obtain ⟨a, items, e, ha, ⟨o, ho, hc, n, hn⟩, hz, hr⟩ := x
    exact ⟨a, items, e, ha, ⟨o, k _ _ ha ⟨_, _, hn⟩ ho, hc, n, hn⟩, hz, Reps.sk k xs _ hr⟩
  | .tup xs, v, x => by
    obtain ⟨a, items, e, ha, ⟨o, ho, hc, n, hn⟩, hz, hr⟩ := x
    exact ⟨a, items, e, ha, ⟨o, k _ _ ha ⟨_, _, hn⟩ ho, hc, n, hn⟩, hz, Reps.sk k xs _ hr⟩
  | .obj _, _, x => x
theorem Reps.sk {H : List Addr} {h h' : Heap} (k : SK H h h') : ∀ (p : List PV) (v : List Value), Reps H h p v → Reps H h' p v
  | [], _, x => x
  | p :: ps, _, x => by
    obtain ⟨v, r, e, h1, h2⟩ := x
    exact ⟨v, r, e, Rep.sk k p v h1, Reps.sk k ps r h2⟩
end
theorem Reps.length {H : List Addr} {h : Heap} : ∀ {p : List PV} {v : List Value}, Reps H h p v → v.length = p.length
  | [], _, x => by rw [show _ = [] from x]; rfl
  | p :: ps, _, x => by
    obtain ⟨v, r, rfl, _, h2⟩ := x
    simp [h2.length]
theorem Reps.append {H : List Addr} {h : Heap} : ∀ {p q : List PV} {v u : List Value}, Reps H h p v → Reps H h q u → Reps H h (p ++ q) (v ++ u)
  | [], _, _, _, x, y => by rw [show _ = [] from x]; exact y
  | p :: ps, _, _, _, x, y => by
    obtain ⟨v, r, rfl, h1, h2⟩ := x
    exact ⟨v, _, rfl, h1, h2.append y⟩
theorem Reps.get {H : List Addr} {h : Heap} : ∀ {p : List PV} {v : List Value} (i : Nat) {x : PV}, Reps H h p v → p[i]? = some x → ∃ y, v[i]? = some y ∧ Rep H h x y
  | [], _, i, x, _, e => by simp at e
  | p :: ps, _, 0, x, r, e => by
    obtain ⟨v, r, rfl, h1, _⟩ := r
    simp at e; subst e; exact ⟨v, rfl, h1⟩
  | p :: ps, _, i + 1, x, r, e => by
    obtain ⟨v, r, rfl, _, h2⟩ := r
    exact h2.get i (by simpa using e)
theorem Reps.get' {H : List Addr} {h : Heap} : ∀ {p : List PV} {v : List Value} (i : Nat) {y : Value}, Reps H h p v → v[i]? = some y → ∃ x, p[i]? = some x ∧ Rep H h x y
  | [], _, i, x, r, e => by rw [show _ = [] from r] at e; simp at e
  | p :: ps, _, 0, x, r, e => by
    obtain ⟨v, r, rfl, h1, _⟩ := r
    simp at e; subst e; exact ⟨p, rfl, h1⟩
  | p :: ps, _, i + 1, x, r, e => by
    obtain ⟨v, r, rfl, _, h2⟩ := r
    exact h2.get' i (by simpa using e)
theorem Reps.take {H : List Addr} {h : Heap} : ∀ {p : List PV} {v : List Value} (i : Nat), Reps H h p v → Reps H h (p.take i) (v.take i)
  | [], _, i, x => by rw [show _ = [] from x]; simp [Reps]
  | p :: ps, _, 0, x => by simp [Reps]
  | p :: ps, _, i + 1, x => by
    obtain ⟨v, r, rfl, h1, h2⟩ := x
    exact ⟨v, _, rfl, h1, h2.take i⟩
theorem Reps.drop {H : List Addr} {h : Heap} : ∀ {p : List PV} {v : List Value} (i : Nat), Reps H h p v → Reps H h (p.drop i) (v.drop i)
  | [], _, i, x => by rw [show _ = [] from x]; simp [Reps]
  | p :: ps, _, 0, x => by simpa using x
  | p :: ps, _, i + 1, x => by
    obtain ⟨v, r, rfl, h1, h2⟩ := x
    simpa using h2.drop i
theorem Reps.set {H : List Addr} {h : Heap} {y : PV} {z : Value} (hy : Rep H h y z) : ∀ {p : List PV} {v : List Value} (i : Nat), Reps H h p v → Reps H h (p.set i y) (v.set i z)
  | [], _, i, x => by rw [show _ = [] from x]; simp [Reps]
  | p :: ps, _, 0, x => by
    obtain ⟨v, r, rfl, h1, h2⟩ := x
    exact ⟨z, _, rfl, hy, h2⟩
  | p :: ps, _, i + 1, x => by
    obtain ⟨v, r, rfl, h1, h2⟩ := x
    exact ⟨v, _, rfl, h1, h2.set hy i⟩
theorem Reps.map_mem {H : List Addr} {h : Heap} : ∀ {p : List PV} {v : List Value} {y : Value}, Reps H h p v → y ∈ v → ∃ x, x ∈ p ∧ Rep H h x y
  | [], _, y, x, m => by rw [show _ = [] from x] at m; simp at m
  | p :: ps, _, y, x, m => by
    obtain ⟨v, r, rfl, h1, h2⟩ := x
    rcases List.mem_cons.mp m with rfl | m
    · exact ⟨p, List.mem_cons_self, h1⟩
    · obtain ⟨z, hz, hr⟩ := h2.map_mem m
      exact ⟨z, List.mem_cons_of_mem _ hz, hr⟩

/-! what stands fixed while the law runs -/
noncomputable def tb : Addr := 184
structure Gd (w : World) (s : Shared) : Prop where
  tbe : ∃ o, s.heap.get? tb = some o
  keep : ∀ b o, b ≠ tb → (H1 w.params).get? b = some o → s.heap.get? b = some o

structure Kp (s s' : Shared) : Prop where
  get : ∀ b o, s.heap.get? b = some o → s'.heap.get? b = some o
  eq : ∃ h' tk, s' = { s with heap := h', toks := tk }
/-- the same but for heap and tokens -/
theorem sameS {s s' s'' : Shared} (a : ∃ h tk, s' = { s with heap := h, toks := tk }) (b : ∃ h tk, s'' = { s' with heap := h, toks := tk }) : ∃ h tk, s'' = { s with heap := h, toks := tk } := by
  obtain ⟨_, _, rfl⟩ := a
  obtain ⟨_, _, rfl⟩ := b
  exact ⟨_, _, rfl⟩
theorem sameU (s : Shared) (h : Heap) (tk : Nat) : ∃ h' tk', { s with heap := h, toks := tk } = { s with heap := h', toks := tk' } := ⟨h, tk, rfl⟩
theorem Kp.of (s : Shared) {h' : Heap} {tk : Nat} (k : ∀ b o, s.heap.get? b = some o → h'.get? b = some o) : Kp s { s with heap := h', toks := tk } := ⟨k, h', tk, rfl⟩
theorem Kp.keeps {s s' : Shared} (k : Kp s s') : Keeps s s' := by obtain ⟨k, h', tk, rfl⟩ := k; exact ⟨h', tk, rfl, k⟩
theorem Kp.refl (s : Shared) : Kp s s := .of s fun _ _ e => e
theorem Kp.tok (s : Shared) (t : Nat) : Kp s { s with toks := t } := .of s fun _ _ e => e
theorem Kp.trans {s s' s'' : Shared} (a : Kp s s') (b : Kp s' s'') : Kp s s'' := by
  obtain ⟨k, h', tk, rfl⟩ := a
  obtain ⟨k', h'', tk', rfl⟩ := b
  exact ⟨fun b o e => k' b o (k b o e), h'', tk', rfl⟩
theorem Kp.push (s : Shared) (o : Obj) (t : Nat) : Kp s { s with heap := s.heap.push o, toks := t } := .of s fun _ _ e => Heap.get?_push_of_some _ e
theorem Gd.keeps {w : World} {s s' : Shared} (g : Gd w s) (k : Kp s s') : Gd w s' :=
  ⟨let ⟨o, e⟩ := g.tbe; ⟨o, k.get _ _ e⟩, fun b o hb e => k.get b o (g.keep b o hb e)⟩

/-- a name stands for a value in a frame -/
noncomputable def Has (env : Env) (h : Heap) (x : Str) (v : Value) : Prop :=
  (x == ("__debug__" : Str)) = false ∧
  ((env.kindOf x = some .local ∧ ∃ m, h.Ns env.locals m ∧ m x = some v) ∨
   (env.kindOf x = some .cell ∧ ∃ c, env.cells.lookup x = some c ∧ h.IsCell c (some v)) ∨
   (env.kindOf x = some .free ∧ (x == ("__classdict__" : Str)) = false ∧ ∃ c, env.cells.lookup x = some c ∧ h.IsCell c (some v)))
theorem Has.keeps {env : Env} {h h' : Heap} {x : Str} {v : Value} (k : ∀ b o, h.get? b = some o → h'.get? b = some o) (y : Has env h x v) : Has env h' x v := by
  refine ⟨y.1, ?_⟩
  rcases y.2 with ⟨a, m, hn, hm⟩ | ⟨a, c, hc, hv⟩ | ⟨a, b, c, hc, hv⟩
  · exact .inl ⟨a, m, hn.keeps k, hm⟩
  · exact .inr (.inl ⟨a, c, hc, hv.keeps k⟩)
  · exact .inr (.inr ⟨a, b, c, hc, hv.keeps k⟩)

/-- where an expression stands: the world, what stands around, the frame, the lists that are hidden, and how deep calls may still go -/
structure Cx where
  w : World
  A : Around
  env : Env
  H : List Addr
  N : Nat
  fix : List (Addr × Obj)

structure Sit (c : Cx) (ρ : List (Str × PV)) (s : Shared) : Prop where
  gd : Gd c.w s
  hid : ∀ a ∈ c.H, ∃ o, s.heap.get? a = some o
  fn : c.env.scope.kind = .function
  gl : c.env.globals = mainNs
  bl : c.env.builtins = builtinsNs
  vars : ∀ e ∈ ρ, ∃ v, Has c.env s.heap e.1 v ∧ Rep c.H s.heap e.2 v
  hh : c.A.handled = none
  ru : c.A.units + 50 * (c.N + 1) < cLine
  rd : c.A.depth + 8 * (c.N + 1) < recursionLimit
  fx : ∀ e ∈ c.fix, s.heap.get? e.1 = some e.2
theorem Sit.keeps {c : Cx} {ρ : List (Str × PV)} {s s' : Shared} (x : Sit c ρ s) (k : Kp s s') : Sit c ρ s' :=
  ⟨x.gd.keeps k, fun a ha => let ⟨o, e⟩ := x.hid a ha; ⟨o, k.get _ _ e⟩, x.fn, x.gl, x.bl, fun e he => let ⟨v, h1, h2⟩ := x.vars e he; ⟨v, h1.keeps k.get, Rep.sk (.of_keep k.get) _ _ h2⟩, x.hh, x.ru, x.rd, fun e he => k.get _ _ (x.fx e he)⟩
theorem Sit.fresh {c : Cx} {ρ : List (Str × PV)} {s : Shared} (x : Sit c ρ s) {a : Addr} (h : s.heap.objs.size ≤ a) : a ∉ c.H := fun m =>
  let ⟨_, e⟩ := x.hid _ m; absurd (Heap.lt_size e) (Nat.not_lt.mpr h)
theorem Rep.kp {H : List Addr} {s s' : Shared} {p : PV} {v : Value} (r : Rep H s.heap p v) (k : Kp s s') : Rep H s'.heap p v := Rep.sk (.of_keep k.get) _ _ r

/-- an expression's value, in every state of a situation -/
structure Ev (c : Cx) (ρ : List (Str × PV)) (e : Expr) (p : PV) : Prop where
  run : ∀ (s : Shared) (Q : Value → Shared → Prop) (E : Value → Shared → Prop), Sit c ρ s → (∀ v s', Kp s s' → Rep c.H s'.heap p v → Q v s') → wpAny (model pg c.w) c.A (eval e c.env) Q E s
/-- a test's answer -/
structure Tr (c : Cx) (ρ : List (Str × PV)) (e : Expr) (b : Bool) : Prop where
  run : ∀ (s : Shared) (Q : Bool → Shared → Prop) (E : Value → Shared → Prop), Sit c ρ s → (∀ s', Kp s s' → Q b s') → wpAny (model pg c.w) c.A (isTrue e c.env (eval e c.env)) Q E s
/-- what an operator makes of two values -/
structure Bo (c : Cx) (ρ : List (Str × PV)) (op : Operator) (p q r : PV) : Prop where
  run : ∀ (s : Shared) (Q : Value → Shared → Prop) (E : Value → Shared → Prop) a b, Sit c ρ s → Rep c.H s.heap p a → Rep c.H s.heap q b → (∀ v s', Kp s s' → Rep c.H s'.heap r v → Q v s') → wpAny (model pg c.w) c.A (binaryOp op a b) Q E s
/-- what a comparison says of two values -/
structure Cm (c : Cx) (ρ : List (Str × PV)) (op : CmpOp) (p q : PV) (r : Bool) : Prop where
  run : ∀ (s : Shared) (Q : Value → Shared → Prop) (E : Value → Shared → Prop) a b, Sit c ρ s → Rep c.H s.heap p a → Rep c.H s.heap q b → (∀ s', Kp s s' → Q (.bool r) s') → wpAny (model pg c.w) c.A (compareOp op a b) Q E s

section
variable {c : Cx} {ρ : List (Str × PV)}

theorem Ev.name {x : Str} {pos : Pos} {p : PV} (m : (x, p) ∈ ρ) : Ev c ρ (.Name x pos) p := .mk fun s Q E S hQ => by
  obtain ⟨v, hx, hr⟩ := S.vars _ m
  refine wpAny_Name ?_ hx.1
  rcases hx.2 with ⟨a, m, hn, hm⟩ | ⟨a, c, hc, hv⟩ | ⟨a, b, c, hc, hv⟩
  · exact wpAny_loadName_local S.fn a hn hm (hQ v s (.refl s) hr)
  · exact wpAny_loadName_cell S.fn a hc hv (hQ v s (.refl s) hr)
  · exact wpAny_loadName_free S.fn a hc hv (hQ v s (.refl s) hr) b

theorem Ev.cint {i : Int} {k : Nat} {pos : Pos} : Ev c ρ (.Constant (.int i) k pos) (.int i) := .mk fun s Q E S hQ => wpAny_Constant_int (hQ _ _ (.tok s _) ⟨_, rfl⟩)
theorem Ev.cstr {x : Str} {k : Nat} {pos : Pos} : Ev c ρ (.Constant (.str x) k pos) (.str x.cps.toList) := .mk fun s Q E S hQ => wpAny_Constant_str (hQ _ _ (.tok s _) ⟨s.toks, by simp⟩)
theorem Ev.cbool {b : Bool} {k : Nat} {pos : Pos} : Ev c ρ (.Constant (.bool b) k pos) (.bool b) := .mk fun s Q E S hQ => wpAny_Constant_bool (hQ _ _ (.refl s) rfl)
theorem Ev.cnone {k : Nat} {pos : Pos} : Ev c ρ (.Constant .none k pos) .none := .mk fun s Q E S hQ => wpAny_Constant_none (hQ _ _ (.refl s) rfl)

theorem Ev.binop {l r : Expr} {op : Operator} {pos : Pos} {p q res : PV} (hl : Ev c ρ l p) (hr : Ev c ρ r q) (hop : Bo c ρ op p q res) : Ev c ρ (.BinOp l op r pos) res := .mk fun s Q E S hQ =>
  wpAny_BinOp (hl.run s _ _ S fun a s₁ k₁ r₁ => hr.run s₁ _ _ (S.keeps k₁) fun b s₂ k₂ r₂ => hop.run s₂ _ _ a b ((S.keeps k₁).keeps k₂) (r₁.kp k₂) r₂ fun v s' k hv => hQ v s' ((k₁.trans k₂).trans k) hv)

theorem Bo.add_int {a b : Int} : Bo c ρ .Add (.int a) (.int b) (.int (a + b)) := .mk fun s Q E x y S hx hy hQ => by
  obtain ⟨t, rfl⟩ := hx; obtain ⟨u, rfl⟩ := hy
  exact PyProof.Rows.add_int (hQ _ _ (.tok s _) ⟨_, rfl⟩)
theorem Bo.sub_int {a b : Int} : Bo c ρ .Sub (.int a) (.int b) (.int (a - b)) := .mk fun s Q E x y S hx hy hQ => by
  obtain ⟨t, rfl⟩ := hx; obtain ⟨u, rfl⟩ := hy
  exact PyProof.Rows.sub_int (hQ _ _ (.tok s _) ⟨_, rfl⟩)
theorem Bo.mod_int {a b : Int} (hb : b ≠ 0) : Bo c ρ .Mod (.int a) (.int b) (.int (a.fmod b)) := .mk fun s Q E x y S hx hy hQ => by
  obtain ⟨t, rfl⟩ := hx; obtain ⟨u, rfl⟩ := hy
  exact PyProof.Rows.mod_int' hb (hQ _ _ (.tok s _) ⟨_, rfl⟩)
theorem noPylong {a b : Int} (h : b.natAbs < 2 ^ 900) : Builtin.divisionGoesByPylong a b = false := by
  unfold Builtin.divisionGoesByPylong
  have : ¬ ((if b == 0 then 0 else b.natAbs.log2 / 30 + 1) > 300) := by
    split
    · omega
    · rename_i hb
      have hb : b.natAbs ≠ 0 := by simpa using hb
      have := (Nat.log2_lt hb).mpr h
      omega
  simp only [Bool.and_eq_false_imp, decide_eq_true_eq]
  intro h
  exact absurd h this
theorem Bo.div_int {a b : Int} (hb : b ≠ 0) (hs : b.natAbs < 2 ^ 900) : Bo c ρ .FloorDiv (.int a) (.int b) (.int (a.fdiv b)) := .mk fun s Q E x y S hx hy hQ => by
  obtain ⟨t, rfl⟩ := hx; obtain ⟨u, rfl⟩ := hy
  exact PyProof.Rows.floordiv_int hb (hQ _ _ (.tok s _) ⟨_, rfl⟩) (.inl (noPylong hs))
theorem Bo.pow_int {a : Int} {b : Nat} (ha : 2 ≤ a) (ha' : a < 2 ^ 10) (hb : b < 2 ^ 20) : Bo c ρ .Pow (.int a) (.int b) (.int (a ^ b)) := .mk fun s Q E x y S hx hy hQ => by
  obtain ⟨t, rfl⟩ := hx; obtain ⟨u, rfl⟩ := hy
  by_cases h0 : b = 0
  · subst h0
    exact AutoIntOps.pow_0 (by simp) (by simp) (hQ _ _ (.tok s _) ⟨_, by rw [Int.pow_zero]⟩)
  · refine AutoIntOps.pow_4 (by omega) (by simpa using h0) (by simp; omega) (by simp; omega) ?_ (by
      have : ((b : Int).toNat) = b := by simp
      rw [this]
      exact hQ _ _ (.tok s _) ⟨_, rfl⟩)
    have h1 : Builtin.Int.intBits a ≤ 10 := by
      unfold Builtin.Int.intBits
      split
      · omega
      · have := (Nat.log2_lt (n := a.natAbs) (k := 10) (by omega)).mpr (by omega)
        omega
    have h2 : (Builtin.Int.intBits a : Int) * b ≤ 10 * b := Int.mul_le_mul_of_nonneg_right (by exact_mod_cast h1) (by omega)
    unfold Builtin.Int.intTooBig
    simp only [decide_eq_true_eq]
    have : (10 : Int) * 2 ^ 20 < bitsLine := by decide
    omega
theorem Bo.add_str {a b : List Nat} (h : a.length + b.length ≤ 65536) : Bo c ρ .Add (.str a) (.str b) (.str (a ++ b)) := .mk fun s Q E x y S hx hy hQ => by
  obtain ⟨t, rfl⟩ := hx; obtain ⟨u, rfl⟩ := hy
  refine PyProof.Rows.add_str (fun t' tk => hQ _ _ (.tok s _) ⟨t', ?_⟩) (by simp [Str.length, sizeLine]; omega)
  show Value.str ⟨a.toArray ++ b.toArray⟩ t' = _
  simp
end
end Mine

end
section
open PySem PySem.W PyProof.Rows PySem.Calls
set_option Elab.async false
set_option maxRecDepth 100000
set_option linter.all false
namespace Mine
section
variable {c : Cx} {ρ : List (Str × PV)}

/-! comparisons -/
noncomputable def sc : PV → Bool
  | .none => true | .bool _ => true | .int _ => true | .str _ => true | _ => false
noncomputable def eqS : PV → PV → Bool
  | .none, .none => true
  | .bool a, .bool b => a == b
  | .bool a, .int b => (if a then 1 else 0) == b
  | .int a, .bool b => a == (if b then 1 else 0)
  | .int a, .int b => a == b
  | .str a, .str b => a == b
  | _, _ => false
theorem str_beq (a b : List Nat) : ((⟨a.toArray⟩ : Str) == ⟨b.toArray⟩) = (a == b) := by
  rw [Bool.eq_iff_iff]; simp
theorem eqS_i (a b : Int) : eqS (.int a) (.int b) = (a == b) := rfl
theorem eqS_t (a b : List Nat) : eqS (.str a) (.str b) = (a == b) := rfl
theorem eqS_b (a b : Bool) : eqS (.bool a) (.bool b) = (a == b) := rfl
inductive ScV : PV → Value → Prop
  | n0 : ScV .none .none
  | b0 (b : Bool) : ScV (.bool b) (.bool b)
  | i0 (n : Int) (t : Tok) : ScV (.int n) (.int n t)
  | s0 (l : List Nat) (t : Tok) : ScV (.str l) (.str ⟨l.toArray⟩ t)
theorem ff {P : Prop} (h : false = true) : P := nomatch h
theorem ScV.of {H : List Addr} {h : Heap} : ∀ {p : PV} {v : Value}, sc p = true → Rep H h p v → ScV p v
  | .none, v, _, r => by cases (show v = .none from r); exact .n0
  | .bool b, v, _, r => by cases (show v = .bool b from r); exact .b0 b
  | .int _, _, _, ⟨_, e⟩ => e ▸ .i0 _ _
  | .str _, _, _, ⟨_, e⟩ => e ▸ .s0 _ _
  | .list _, _, h, _ => ff h
  | .tup _, _, h, _ => ff h
  | .obj _, _, h, _ => ff h
theorem eqAt_sc' {A : Around} {s : Shared} {p q : PV} {a b : Value} (x : ScV p a) (y : ScV q b) : SeqAt.EqAt A s a b (eqS p q) := by
  cases x with
  | n0 => cases y with
    | n0 => exact SeqAt.EqAt.same _
    | b0 => exact SeqAt.EqAt.none_bool _
    | i0 => exact SeqAt.EqAt.none_int _ _
    | s0 => exact SeqAt.EqAt.none_str _ _
  | b0 => cases y with
    | n0 => exact SeqAt.EqAt.bool_none _
    | b0 => exact SeqAt.EqAt.bool_bool _ _
    | i0 => exact SeqAt.EqAt.bool_int _ _ _
    | s0 => exact SeqAt.EqAt.bool_str _ _ _
  | i0 => cases y with
    | n0 => exact SeqAt.EqAt.int_none _ _
    | b0 => exact SeqAt.EqAt.int_bool _ _ _
    | i0 => exact SeqAt.EqAt.int_int _ _ _ _
    | s0 => exact SeqAt.EqAt.int_str _ _ _ _
  | s0 => cases y with
    | n0 => exact SeqAt.EqAt.str_none _ _
    | b0 => exact SeqAt.EqAt.str_bool _ _ _
    | i0 => exact SeqAt.EqAt.str_int _ _ _ _
    | s0 => rw [eqS_t, ← str_beq]; exact SeqAt.EqAt.str_str _ _ _ _
theorem eqAt_sc {A : Around} {s : Shared} {H : List Addr} {p q : PV} {a b : Value} (hp : sc p = true) (hq : sc q = true) (ha : Rep H s.heap p a) (hb : Rep H s.heap q b) : SeqAt.EqAt A s a b (eqS p q) := eqAt_sc' (.of hp ha) (.of hq hb)

theorem Cm.eq_sc {p q : PV} (hp : sc p = true) (hq : sc q = true) : Cm c ρ .Eq p q (eqS p q) := by
  constructor
  intro s Q E a b S ha hb hQ
  replace hQ := hQ s (.refl s)
  have x := ScV.of hp ha
  have y := ScV.of hq hb
  clear hp hq ha hb
  cases x <;> cases y
  · exact EqNone.eq_none_none hQ
  · exact EqNone.eq_none_bool hQ
  · exact EqNone.eq_none_int hQ
  · exact EqNone.eq_none_str hQ
  · exact EqNone.eq_bool_none hQ
  · exact PyProof.Rows.eq_bool hQ
  · exact EqBoolInt.eq_bool_int hQ
  · exact EqMixed.eq_bool_str hQ
  · exact EqNone.eq_int_none hQ
  · exact EqBoolInt.eq_int_bool hQ
  · exact PyProof.Rows.eq_int hQ
  · exact EqMixed.eq_int_str hQ
  · exact EqNone.eq_str_none hQ
  · exact EqMixed.eq_str_bool hQ
  · exact EqMixed.eq_str_int hQ
  · refine PyProof.Rows.eq_str ?_
    rw [str_beq]; exact hQ
theorem Cm.ne_sc {p q : PV} (hp : sc p = true) (hq : sc q = true) : Cm c ρ .NotEq p q (!eqS p q) := by
  constructor
  intro s Q E a b S ha hb hQ
  replace hQ := hQ s (.refl s)
  have x := ScV.of hp ha
  have y := ScV.of hq hb
  clear hp hq ha hb
  cases x <;> cases y
  · exact EqNone.ne_none_none hQ
  · exact EqNone.ne_none_bool hQ
  · exact EqNone.ne_none_int hQ
  · exact EqNone.ne_none_str hQ
  · exact EqNone.ne_bool_none hQ
  · exact PyProof.Rows.ne_bool hQ
  · exact EqBoolInt.ne_bool_int hQ
  · exact EqMixed.ne_bool_str hQ
  · exact EqNone.ne_int_none hQ
  · exact EqBoolInt.ne_int_bool hQ
  · exact PyProof.Rows.ne_int hQ
  · exact EqMixed.ne_int_str hQ
  · exact EqNone.ne_str_none hQ
  · exact EqMixed.ne_str_bool hQ
  · exact EqMixed.ne_str_int hQ
  · refine PyProof.Rows.ne_str ?_
    rw [bne, str_beq]; exact hQ

noncomputable def eqL : List PV → List PV → Bool
  | [], [] => true
  | x :: xs, y :: ys => eqS x y && eqL xs ys
  | _, _ => false
theorem eqL_c (x y : PV) (xs ys : List PV) : eqL (x :: xs) (y :: ys) = (eqS x y && eqL xs ys) := rfl
theorem eqL_n : eqL [] [] = true := rfl
theorem eqL_range : ∀ (xs ys : List PV), xs.length = ys.length → (List.range xs.length).all (fun j => eqS (xs.getD j .none) (ys.getD j .none)) = eqL xs ys
  | [], [], _ => rfl
  | [], y :: ys, h => by simp at h
  | x :: xs, [], h => by simp at h
  | x :: xs, y :: ys, h => by
    have ih := eqL_range xs ys (by simpa using h)
    rw [List.length_cons, List.range_succ_eq_map, List.all_cons, List.all_map]
    simp only [List.getD_cons_zero, Function.comp_def, List.getD_cons_succ]
    rw [ih]; rfl
theorem eqL_length : ∀ (xs ys : List PV), xs.length ≠ ys.length → eqL xs ys = false
  | [], [], h => by simp at h
  | [], y :: ys, _ => rfl
  | x :: xs, [], _ => rfl
  | x :: xs, y :: ys, h => by
    have ih := eqL_length xs ys (by simpa using h)
    show (eqS x y && eqL xs ys) = false
    rw [ih, Bool.and_false]
theorem getD_of_get {xs : List PV} {j : Nat} {x : PV} (h : xs[j]? = some x) : xs.getD j .none = x := by simp [List.getD, h]
theorem list_eqAt' {A : Around} {s : Shared} {H : List Addr} {xs ys : List PV} {u v : List Value} (hx : xs.all sc = true) (hy : ys.all sc = true) (ha : Reps H s.heap xs u) (hb : Reps H s.heap ys v)
    (j : Nat) (h1 : j < u.length) (h2 : j < v.length) : SeqAt.EqAt A s u[j] v[j] (eqS (xs.getD j .none) (ys.getD j .none)) := by
  obtain ⟨x, ex, rx⟩ := ha.get' j (y := u[j]) (by simp)
  obtain ⟨y, ey, ry⟩ := hb.get' j (y := v[j]) (by simp)
  rw [getD_of_get ex, getD_of_get ey]
  exact eqAt_sc (List.all_eq_true.mp hx x (List.mem_of_getElem? ex)) (List.all_eq_true.mp hy y (List.mem_of_getElem? ey)) rx ry
theorem Cm.ne_list {xs ys : List PV} (hx : xs.all sc = true) (hy : ys.all sc = true) : Cm c ρ .NotEq (.list xs) (.list ys) (!eqL xs ys) := by
  constructor
  rintro s Q E a b S ⟨l, its, rfl, _, hl, _, ra⟩ ⟨l', its', rfl, _, hl', _, rb⟩ hQ
  have hu : c.A.units < cLine := by have := S.ru; omega
  have e1 := ra.length; have e2 := rb.length
  simp only [Array.length_toList] at e1 e2
  by_cases h : xs.length = ys.length
  · refine SeqAt.RcNeAt.lists (e := fun j => eqS (xs.getD j .none) (ys.getD j .none)) hl hl' (by omega) hu (fun j h1 h2 => ?_) pg c.w E Q ?_
    · have := list_eqAt' (A := c.A.in1) hx hy ra rb j (by simpa using h1) (by simpa using h2)
      simpa using this
    · rw [e1, eqL_range xs ys h]; exact hQ s (.refl s)
  · refine SeqAt.RcNeAt.lists_lengths hl hl' (by simp; omega) hu pg c.w E Q ?_
    rw [eqL_length xs ys h] at hQ; exact hQ s (.refl s)
/-- a list of anything against the empty list -/
theorem Cm.eq_nil {xs : List PV} : Cm c ρ .Eq (.list xs) (.list []) xs.isEmpty := by
  constructor
  rintro s Q E a b S ⟨l, its, rfl, _, hl, _, ra⟩ ⟨l', its', rfl, _, hl', _, rb⟩ hQ
  have hu : c.A.units < cLine := by have := S.ru; omega
  have e1 := ra.length; have e2 := rb.length
  simp only [Array.length_toList, List.length_nil] at e1 e2
  cases xs with
  | nil =>
    refine SeqAt.eq_listAt (e := fun _ => true) hl hl' (by simp only [List.length_nil] at e1; omega) hu (fun j h1 h2 => by simp only [List.length_nil] at e1; omega) ?_
    simp at e1
    rw [e1]; exact hQ s (.refl s)
  | cons x xs =>
    refine SeqAt.eq_list_lengthsAt hl hl' (by simp at e1 ⊢; omega) hu ?_
    exact hQ s (.refl s)
theorem Cm.lt_int {a b : Int} : Cm c ρ .Lt (.int a) (.int b) (decide (a < b)) := by
  constructor
  rintro s Q E x y S ⟨t, rfl⟩ ⟨u, rfl⟩ hQ
  exact PyProof.Rows.lt_int (hQ s (.refl s))
theorem Cm.gt_int {a b : Int} : Cm c ρ .Gt (.int a) (.int b) (decide (b < a)) := by
  constructor
  rintro s Q E x y S ⟨t, rfl⟩ ⟨u, rfl⟩ hQ
  exact PyProof.Rows.gt_int (hQ s (.refl s))
theorem Cm.le_int {a b : Int} : Cm c ρ .LtE (.int a) (.int b) (decide (a ≤ b)) := by
  constructor
  rintro s Q E x y S ⟨t, rfl⟩ ⟨u, rfl⟩ hQ
  exact PyProof.Rows.le_int (hQ s (.refl s))
theorem Cm.ge_int {a b : Int} : Cm c ρ .GtE (.int a) (.int b) (decide (b ≤ a)) := by
  constructor
  rintro s Q E x y S ⟨t, rfl⟩ ⟨u, rfl⟩ hQ
  exact PyProof.Rows.ge_int (hQ s (.refl s))
noncomputable def memS (x : PV) : List PV → Bool
  | [] => false
  | y :: ys => eqS y x || memS x ys
theorem memS_n (x : PV) : memS x [] = false := rfl
theorem memS_c (x y : PV) (ys : List PV) : memS x (y :: ys) = (eqS y x || memS x ys) := rfl
theorem any_memS {x : PV} {f : Value → Bool} : ∀ {xs : List PV} {u : List Value} {H : List Addr} {h : Heap}, Reps H h xs u → (∀ p v, p ∈ xs → Rep H h p v → f v = eqS p x) → u.any f = memS x xs
  | [], u, H, h, r, _ => by rw [show u = [] from r]; rfl
  | p :: ps, u, H, h, r, hf => by
    obtain ⟨v, r', rfl, h1, h2⟩ := r
    rw [List.any_cons, hf p v List.mem_cons_self h1, any_memS h2 fun p v hp hr => hf p v (List.mem_cons_of_mem _ hp) hr]; rfl

noncomputable def unV : Value → PV
  | .none => .none
  | .bool b => .bool b
  | .int i _ => .int i
  | .str x _ => .str x.cps.toList
  | _ => .obj 0
theorem unV_rep {H : List Addr} {h : Heap} {p : PV} {v : Value} (hp : sc p = true) (r : Rep H h p v) : unV v = p := by
  cases ScV.of hp r <;> rfl
theorem Cm.in_list {x : PV} {xs : List PV} (hx : sc x = true) (hxs : xs.all sc = true) : Cm c ρ .In x (.list xs) (memS x xs) := by
  constructor
  rintro s Q E a b S ha ⟨l, its, rfl, _, hl, _, ra⟩ hQ
  have hf : ∀ p v, p ∈ xs → Rep c.H s.heap p v → eqS (unV v) x = eqS p x := fun p v hp hr => by rw [unV_rep (List.all_eq_true.mp hxs p hp) hr]
  refine SeqAt.in_listAt (fun v => eqS (unV v) x) hl (fun y hy => ?_) ?_
  · obtain ⟨p, hp, hr⟩ := ra.map_mem (Array.mem_toList_iff.mpr hy)
    rw [hf p y hp hr]
    exact eqAt_sc (List.all_eq_true.mp hxs p hp) hx hr ha
  · rw [← Array.any_toList, any_memS ra hf]; exact hQ s (.refl s)
theorem Cm.notin_list {x : PV} {xs : List PV} (hx : sc x = true) (hxs : xs.all sc = true) : Cm c ρ .NotIn x (.list xs) (!memS x xs) := by
  constructor
  rintro s Q E a b S ha ⟨l, its, rfl, _, hl, _, ra⟩ hQ
  have hf : ∀ p v, p ∈ xs → Rep c.H s.heap p v → eqS (unV v) x = eqS p x := fun p v hp hr => by rw [unV_rep (List.all_eq_true.mp hxs p hp) hr]
  refine SeqAt.notIn_listAt (fun v => eqS (unV v) x) hl (fun y hy => ?_) ?_
  · obtain ⟨p, hp, hr⟩ := ra.map_mem (Array.mem_toList_iff.mpr hy)
    rw [hf p y hp hr]
    exact eqAt_sc (List.all_eq_true.mp hxs p hp) hx hr ha
  · rw [← Array.any_toList, any_memS ra hf]; exact hQ s (.refl s)
theorem Cm.in_tup {x : PV} {xs : List PV} (hx : sc x = true) (hxs : xs.all sc = true) : Cm c ρ .In x (.tup xs) (memS x xs) := by
  constructor
  rintro s Q E a b S ha ⟨l, its, rfl, _, hl, _, ra⟩ hQ
  have hf : ∀ p v, p ∈ xs → Rep c.H s.heap p v → eqS (unV v) x = eqS p x := fun p v hp hr => by rw [unV_rep (List.all_eq_true.mp hxs p hp) hr]
  refine SeqAt.in_tupleAt (fun v => eqS (unV v) x) hl (fun y hy => ?_) ?_
  · obtain ⟨p, hp, hr⟩ := ra.map_mem (Array.mem_toList_iff.mpr hy)
    rw [hf p y hp hr]
    exact eqAt_sc (List.all_eq_true.mp hxs p hp) hx hr ha
  · rw [← Array.any_toList, any_memS ra hf]; exact hQ s (.refl s)
noncomputable def S (l : List Nat) : Str := ⟨l.toArray⟩
theorem Cm.in_str {x y : List Nat} : Cm c ρ .In (.str y) (.str x) (Txt.contains (S x) (S y)) := by
  constructor
  rintro s Q E a b _ ⟨t, rfl⟩ ⟨u, rfl⟩ hQ
  exact SB.contains (hQ s (.refl s))
theorem Cm.notin_str {x y : List Nat} : Cm c ρ .NotIn (.str y) (.str x) (!Txt.contains (S x) (S y)) := by
  constructor
  rintro s Q E a b _ ⟨t, rfl⟩ ⟨u, rfl⟩ hQ
  exact SB.notContains (hQ s (.refl s))
/-- is and is not, where one side is a constant that stands once -/
noncomputable def isS : PV → PV → Bool
  | .none, .none => true
  | .bool a, .bool b => a == b
  | _, _ => false
noncomputable def one : PV → Bool
  | .none => true | .bool _ => true | _ => false
theorem isS_b (a b : Bool) : isS (.bool a) (.bool b) = (a == b) := rfl
theorem isS_n : isS .none .none = true := rfl
theorem isS_nb (b : Bool) : isS .none (.bool b) = false := rfl
theorem isS_bn (b : Bool) : isS (.bool b) .none = false := rfl
theorem isnot_sc {p q : PV} {a b : Value} {s : Shared} {A : Around} {w : World} {Q : Value → Shared → Prop} {E : Value → Shared → Prop} (x : ScV p a) (y : ScV q b) (hq : one q = true) (hQ : Q (.bool (!isS p q)) s) :
    wpAny (model pg w) A (compareOp .IsNot a b) Q E s := by
  cases y with
  | n0 => cases x <;> exact wpAny_isNot_plain rfl hQ
  | b0 b =>
    cases x with
    | b0 a => exact wpAny_isNot_plain rfl (by cases a <;> cases b <;> exact hQ)
    | _ => exact wpAny_isNot_plain rfl hQ
  | _ => exact ff hq
theorem one_sc : ∀ {q : PV}, one q = true → sc q = true
  | .none, _ => rfl
  | .bool _, _ => rfl
  | .int _, h => ff h
  | .str _, h => ff h
  | .list _, h => ff h
  | .tup _, h => ff h
  | .obj _, h => ff h
theorem Cm.isnot_one {p q : PV} (hp : sc p = true) (hq : one q = true) : Cm c ρ .IsNot p q (!isS p q) := by
  constructor
  intro s Q E a b S ha hb hQ
  exact isnot_sc (ScV.of hp ha) (ScV.of (one_sc hq) hb) hq (hQ s (.refl s))

theorem Ev.cmp {l r : Expr} {op : CmpOp} {pos : Pos} {p q : PV} {b : Bool} (hl : Ev c ρ l p) (hr : Ev c ρ r q) (h : Cm c ρ op p q b) (hm : behindInMarks op r = false := by kernel_rfl) : Ev c ρ (.Compare l [op] [r] pos) (.bool b) := .mk fun s Q E S hQ =>
  wpAny_Compare1 (hl.run s _ _ S fun a s₁ k₁ r₁ => hr.run s₁ _ _ (S.keeps k₁) fun b s₂ k₂ r₂ => h.run s₂ _ _ a b ((S.keeps k₁).keeps k₂) (r₁.kp k₂) r₂ fun s' k => hQ _ s' ((k₁.trans k₂).trans k) rfl) hm
theorem Tr.cmp {l r : Expr} {op : CmpOp} {pos : Pos} {p q : PV} {b : Bool} (hl : Ev c ρ l p) (hr : Ev c ρ r q) (h : Cm c ρ op p q b) (hm : behindInMarks op r = false := by kernel_rfl) : Tr c ρ (.Compare l [op] [r] pos) b := .mk fun s Q E S hQ =>
  wpAny_isTrue_Compare1 (hl.run s _ _ S fun a s₁ k₁ r₁ => hr.run s₁ _ _ (S.keeps k₁) fun b s₂ k₂ r₂ => h.run s₂ _ _ a b ((S.keeps k₁).keeps k₂) (r₁.kp k₂) r₂ fun s' k => wpAny_truthy_bool (hQ s' ((k₁.trans k₂).trans k))) hm
noncomputable def truth : PV → Bool
  | .none => false
  | .bool b => b
  | .int n => n != 0
  | .str x => !x.isEmpty
  | .list xs => !xs.isEmpty
  | _ => true
theorem truth_i (n : Int) : truth (.int n) = (n != 0) := rfl
theorem truth_len : ∀ {x : List Nat}, ((Str.length ⟨x.toArray⟩ : Int) != 0) = truth (.str x)
  | [] => rfl
  | a :: x => by
    show (((a :: x).toArray.size : Int) != 0) = true
    rw [List.size_toArray, List.length_cons, bne_iff_ne]
    exact Int.ofNat_ne_zero.mpr (Nat.succ_ne_zero _)
noncomputable def shortS : PV → Bool
  | .str x => decide (x.length < 2 ^ 60)
  | _ => true
theorem truthy_sc {p : PV} {v : Value} {s : Shared} {A : Around} {w : World} {Q : Bool → Shared → Prop} {E : Value → Shared → Prop} (x : ScV p v) (hp : shortS p = true) (hQ : ∀ s', Kp s s' → Q (truth p) s') :
    wpAny (model pg w) A (truthy v) Q E s := by
  cases x with
  | n0 => exact truthy_none (hQ s (.refl s))
  | b0 => exact wpAny_truthy_bool (hQ s (.refl s))
  | i0 => exact truthy_int (hQ s (.refl s))
  | s0 l t =>
    have hx : l.length < 2 ^ 60 := of_decide_eq_true hp
    refine P.truthy_str (by show ¬ ((l.toArray.size : Int) ≥ 2 ^ 63); rw [List.size_toArray]; exact Int.not_le.mpr (Int.lt_trans (Int.ofNat_lt.mpr hx) (by decide))) ?_
    rw [truth_len]; exact hQ _ (.tok s _)
theorem Tr.of_ev {e : Expr} {p : PV} (h : Ev c ρ e p) (hp : (sc p && shortS p) = true) (he : isTrue e c.env (eval e c.env) = (do let v ← eval e c.env; standAt e.pos; holding [v] (truthy v)) := by kernel_rfl) : Tr c ρ e (truth p) := .mk fun s Q E S hQ => by
  have hp' := Bool.and_eq_true_iff.mp hp
  exact isTrue_plain (h.run s _ _ S fun v s₁ k₁ r₁ => truthy_sc (ScV.of hp'.1 r₁) hp'.2 fun s' k => hQ s' (k₁.trans k)) he
theorem Tr.not {x : Expr} {pos : Pos} {b : Bool} (h : Tr c ρ x b) : Tr c ρ (.UnaryOp .Not x pos) (!b) := .mk fun s Q E S hQ => isTrue_not (h.run s _ _ S hQ)
theorem Tr.and {x : Expr} {r : List Expr} {pos : Pos} {a b : Bool} (h : Tr c ρ x a) (hr : a = true → Tr c ρ (.BoolOp .And r pos) b) : Tr c ρ (.BoolOp .And (x :: r) pos) (a && b) := .mk fun s Q E S hQ => by
  refine isTrue_and (h.run s _ _ S fun s' k => ?_)
  cases a with
  | false => exact hQ s' k
  | true => exact (hr rfl).run s' _ _ (S.keeps k) fun s'' k' => hQ s'' (k.trans k')
theorem Tr.and_nil {pos : Pos} : Tr c ρ (.BoolOp .And [] pos) true := .mk fun s Q E S hQ => isTrue_and_nil (hQ s (.refl s))
theorem Tr.or {x : Expr} {r : List Expr} {pos : Pos} {a b : Bool} (h : Tr c ρ x a) (hr : a = false → Tr c ρ (.BoolOp .Or r pos) b) : Tr c ρ (.BoolOp .Or (x :: r) pos) (a || b) := .mk fun s Q E S hQ => by
  refine isTrue_or (h.run s _ _ S fun s' k => ?_)
  cases a with
  | true => exact hQ s' k
  | false => exact (hr rfl).run s' _ _ (S.keeps k) fun s'' k' => hQ s'' (k.trans k')
theorem Tr.or_nil {pos : Pos} : Tr c ρ (.BoolOp .Or [] pos) false := .mk fun s Q E S hQ => isTrue_or_nil (hQ s (.refl s))
theorem Ev.ifexp {t a b : Expr} {pos : Pos} {x : Bool} {p : PV} (ht : Tr c ρ t x) (ha : x = true → Ev c ρ a p) (hb : x = false → Ev c ρ b p) : Ev c ρ (.IfExp t a b pos) p := .mk fun s Q E S hQ => by
  refine wpAny_IfExp (ht.run s _ _ S fun s' k => ?_)
  cases x with
  | true => exact (ha rfl).run s' _ _ (S.keeps k) fun v s'' k' => hQ v s'' (k.trans k')
  | false => exact (hb rfl).run s' _ _ (S.keeps k) fun v s'' k' => hQ v s'' (k.trans k')
end
end Mine

end
section
open PySem PySem.W PyProof.Rows PySem.Calls
set_option Elab.async false
set_option maxRecDepth 100000
set_option linter.all false
namespace Mine

theorem seqIdx {k : Int} {n : Nat} (h0 : 0 ≤ k) (h1 : k.toNat < n) : seqIndex? k n = some k.toNat := by
  unfold seqIndex?
  have h : ¬ k < 0 := by omega
  simp only [h, if_false]
  rw [if_pos (by simp only [Bool.and_eq_true, decide_eq_true_eq]; omega)]
theorem h1_ns (P : Params) : (H1 P).isNs mainNs = true := by kernel_rfl
theorem h1_bn (P : Params) : (H1 P).isNs builtinsNs = true := by kernel_rfl
theorem h1_st (P : Params) : (H1 P).isNs cStatics = true := by kernel_rfl
theorem h1_nl (P : Params) : (H1 P).nsMap cStatics "sys.recursionlimit" = none := by kernel_rfl
section
variable {w : World} {s : Shared}
theorem Gd.g (g : Gd w s) : s.heap.Ns mainNs ((H1 w.params).nsMap mainNs) := (Heap.Ns.of_isNs (h1_ns _)).at' fun o e => g.keep _ o (by decide) e
theorem Gd.b (g : Gd w s) : s.heap.Ns builtinsNs ((H1 w.params).nsMap builtinsNs) := (Heap.Ns.of_isNs (h1_bn _)).at' fun o e => g.keep _ o (by decide) e
theorem Gd.nolimit (g : Gd w s) : s.heap.NoLimit := ⟨_, (Heap.Ns.of_isNs (h1_st _)).at' fun o e => g.keep _ o (by decide) e, h1_nl _⟩
end

section
variable {c : Cx} {ρ : List (Str × PV)}

/-- a name that the text does not bind -/
structure Nm (c : Cx) (ρ : List (Str × PV)) (e : Expr) (v : Value) : Prop where
  run : ∀ (s : Shared) (Q : Value → Shared → Prop) (E : Value → Shared → Prop), Sit c ρ s → Q v s → wpAny (model pg c.w) c.A (eval e c.env) Q E s
theorem Nm.glob {x : Str} {pos : Pos} {v : Value} (hk : c.env.kindOf x = some .globalImplicit) (hv : ∀ P, (H1 P).nsMap mainNs x = some v) (hd : (x == ("__debug__" : Str)) = false) : Nm c ρ (.Name x pos) v := .mk fun s Q E S hQ =>
  Name_function_global S.fn hk (loadGlobal_global (by rw [S.gl]; exact S.gd.g) (hv _) hQ) hd
theorem Nm.bltn {x : Str} {pos : Pos} {v : Value} (hk : c.env.kindOf x = some .globalImplicit) (hv : ∀ P, (H1 P).nsMap mainNs x = none) (hb : ∀ P, (H1 P).nsMap builtinsNs x = some v) (hd : (x == ("__debug__" : Str)) = false) : Nm c ρ (.Name x pos) v := .mk fun s Q E S hQ =>
  Name_function_global S.fn hk (loadGlobal_builtin (by rw [S.gl]; exact S.gd.g) (hv _) (by rw [S.bl]; exact S.gd.b) (hb _) hQ) hd

/-- a row of arguments or items -/
structure Evs (c : Cx) (ρ : List (Str × PV)) (es : List Expr) (ps : List PV) : Prop where
  run : ∀ (pos : Pos) (s : Shared) (Q : List Value → Shared → Prop) (E : Value → Shared → Prop), Sit c ρ s → (∀ vs s', Kp s s' → Reps c.H s'.heap ps vs → Q vs s') → wpAny (model pg c.w) c.A (spliced (backTo pos (starEach es c.env))) Q E s
theorem Evs.nil : Evs c ρ [] [] := .mk fun pos s Q E S hQ => spliced_nil (hQ [] s (.refl s) rfl)
theorem Evs.cons {e : Expr} {es : List Expr} {p : PV} {ps : List PV} (h : Ev c ρ e p) (hs : Evs c ρ es ps) (hst : starEach (e :: es) c.env = (false, eval e c.env) :: starEach es c.env := by kernel_rfl) : Evs c ρ (e :: es) (p :: ps) := .mk fun pos s Q E S hQ => by
  rw [hst]
  exact spliced_cons (h.run s _ _ S fun v s₁ k₁ r₁ => hs.run pos s₁ _ _ (S.keeps k₁) fun vs s₂ k₂ r₂ => hQ _ s₂ (k₁.trans k₂) ⟨v, vs, rfl, r₁.kp k₂, r₂⟩)
noncomputable def plainArgs (c : Cx) (es : List Expr) : Prop := ∀ pos, (backTo pos (starEach es c.env)).any (·.1) = false

theorem Ev.list {es : List Expr} {ps : List PV} {pos : Pos} (h : Evs c ρ es ps) (hz : ps.length ≤ 65536) : Ev c ρ (.List es pos) (.list ps) := .mk fun s Q E S hQ =>
  wpAny_List (h.run pos s _ _ S fun vs s₁ k₁ r₁ => ⟨by have := r₁.length; simp [sizeLine]; omega, hQ _ _ (k₁.trans (.push s₁ _ _)) ⟨_, vs.toArray, rfl, (S.keeps k₁).fresh (Nat.le_refl _), ⟨_, Heap.get?_push_size _ rfl, rfl, 0, rfl⟩,
    by have := r₁.length; simp; omega, by simpa using Reps.sk (.of_keep fun b o e => Heap.get?_push_of_some _ e) _ _ r₁⟩⟩)
theorem Ev.tup {es : List Expr} {ps : List PV} {k : Nat} {pos : Pos} (h : Evs c ρ es ps) (hz : ps.length ≤ 65536) : Ev c ρ (.Tuple es k pos) (.tup ps) := .mk fun s Q E S hQ =>
  wpAny_Tuple (h.run pos s _ _ S fun vs s₁ k₁ r₁ => ⟨by have := r₁.length; simp [sizeLine]; omega, hQ _ _ (k₁.trans (.push s₁ _ _)) ⟨_, vs.toArray, rfl, (S.keeps k₁).fresh (Nat.le_refl _), ⟨_, Heap.get?_push_size _ rfl, rfl, 0, rfl⟩,
    by have := r₁.length; simp; omega, by simpa using Reps.sk (.of_keep fun b o e => Heap.get?_push_of_some _ e) _ _ r₁⟩⟩)

/-- what a call of f with such values gives -/
structure Cl (c : Cx) (ρ : List (Str × PV)) (f : Value) (ps : List PV) (r : PV) : Prop where
  run : ∀ (s : Shared) (Q : Value → Shared → Prop) (E : Value → Shared → Prop) vs, Sit c ρ s → Reps c.H s.heap ps vs → (∀ v s', Kp s s' → Rep c.H s'.heap r v → Q v s') → wpAny (model pg c.w) c.A (call f vs) Q E s

theorem evalArgs_row {f : Value} {e : Expr} {es : List Expr} {ps : List PV} {pos : Pos} {s : Shared} {Q : Args → Shared → Prop} {E : Value → Shared → Prop} (h : Evs c ρ (e :: es) ps) (S : Sit c ρ s)
    (hst : starEach (e :: es) c.env = (false, eval e c.env) :: starEach es c.env) (hQ : ∀ vs s', Kp s s' → Reps c.H s'.heap ps vs → Q ⟨vs, []⟩ s') :
    wpAny (model pg c.w) c.A (evalArgs f true (backTo pos (starEach (e :: es) c.env)) []) Q E s := by
  have := h.run pos s (fun vs s' => Q ⟨vs, []⟩ s') E S hQ
  rw [hst] at this ⊢
  exact evalArgs_plain this
theorem Ev.call_bltn {x : Str} {p pos : Pos} {id : String} {e : Expr} {es : List Expr} {ps : List PV} {r : PV} (hx : Nm c ρ (.Name x p) (.builtin id)) (ha : Evs c ρ (e :: es) ps) (hc : Cl c ρ (.builtin id) ps r)
    (hst : starEach (e :: es) c.env = (false, eval e c.env) :: starEach es c.env := by kernel_rfl) (hp : plainArgs c (e :: es) := by intro _; kernel_rfl) : Ev c ρ (.Call (.Name x p) (e :: es) [] pos) r := .mk fun s Q E S hQ =>
  Call_Name rfl (hx.run s _ _ S (Calls.callWith_builtin (hp _) (evalArgs_row ha S hst fun vs s₁ k₁ r₁ => hc.run s₁ _ _ vs (S.keeps k₁) r₁ fun v s' k hv => hQ v s' (k₁.trans k) hv)))
theorem Ev.call_type {x : Str} {p pos : Pos} {T : String} {e : Expr} {es : List Expr} {ps : List PV} {r : PV} (hx : Nm c ρ (.Name x p) (.type T)) (ha : Evs c ρ (e :: es) ps) (hc : Cl c ρ (.type T) ps r)
    (hst : starEach (e :: es) c.env = (false, eval e c.env) :: starEach es c.env := by kernel_rfl) (hp : plainArgs c (e :: es) := by intro _; kernel_rfl) : Ev c ρ (.Call (.Name x p) (e :: es) [] pos) r := .mk fun s Q E S hQ =>
  Call_Name rfl (hx.run s _ _ S (PySem.callWith_type (hp _) (evalArgs_row ha S hst fun vs s₁ k₁ r₁ => hc.run s₁ _ _ vs (S.keeps k₁) r₁ fun v s' k hv => hQ v s' (k₁.trans k) hv)))
theorem Ev.call_def {x : Str} {p pos : Pos} {f : Addr} {fd : FuncData} {e : Expr} {es : List Expr} {ps : List PV} {r : PV} (hx : Nm c ρ (.Name x p) (.ref f)) (ho : ∀ P, ((H1 P).get? f).map (·.data) = some (.func fd)) (hf : f ≠ tb) (ha : Evs c ρ (e :: es) ps) (hc : Cl c ρ (.ref f) ps r)
    (hst : starEach (e :: es) c.env = (false, eval e c.env) :: starEach es c.env := by kernel_rfl) : Ev c ρ (.Call (.Name x p) (e :: es) [] pos) r := .mk fun s Q E S hQ => by
  obtain ⟨o, ho, hd⟩ := Option.map_eq_some_iff.mp (ho c.w.params)
  exact Call_Name rfl (hx.run s _ _ S (callWith_function (o := o) (fd := fd) (evalArgs_row ha S hst fun vs s₁ k₁ r₁ => ⟨⟨(S.keeps k₁).gd.keep _ _ hf ho, hd⟩, hc.run s₁ _ _ vs (S.keeps k₁) r₁ fun v s' k hv => hQ v s' (k₁.trans k) hv⟩)))

/-! subscripts -/
theorem subscripted_ops (slice : Expr) (o i : Value) : ∃ ops, subscripted slice false o i = operate ops (getItem o i) := by
  cases slice with
  | Slice l u st p => cases st <;> exact ⟨_, rfl⟩
  | _ => exact ⟨_, rfl⟩
theorem Ev.item_list {value slice : Expr} {pos : Pos} {xs : List PV} {k : Int} {x : PV} (hv : Ev c ρ value (.list xs)) (hi : Ev c ρ slice (.int k)) (h : 0 ≤ k ∧ xs[k.toNat]? = some x) : Ev c ρ (.Subscript value slice pos) x := .mk fun s Q E S hQ => by
  refine Subscript_ (hv.run s _ _ S fun o s₁ k₁ r₁ => hi.run s₁ _ _ (S.keeps k₁) fun i s₂ k₂ r₂ => ?_)
  obtain ⟨a, its, rfl, hH, hl, hz, ra⟩ := r₁.kp k₂
  obtain ⟨t, rfl⟩ := r₂
  obtain ⟨y, hy, hr⟩ := ra.get _ h.2
  have hlt : k.toNat < its.size := by have := (List.getElem?_eq_some_iff.mp hy).1; simpa using this
  obtain ⟨ops, ho⟩ := subscripted_ops slice (.ref a) (.int k t)
  exact tail_any (ops := ops) hl.typeIs slot_list_getitem.lookup (wpAny_getItem_list hl h.1 (by omega) (by simpa using hy) (hQ y s₂ (k₁.trans k₂) hr)) ho
theorem Ev.item_list_neg {value slice : Expr} {pos : Pos} {xs : List PV} {k : Nat} {x : PV} (hv : Ev c ρ value (.list xs)) (hi : Ev c ρ slice (.int (-(k : Int)))) (h : 1 ≤ k ∧ k ≤ xs.length ∧ xs[xs.length - k]? = some x) : Ev c ρ (.Subscript value slice pos) x := .mk fun s Q E S hQ => by
  refine Subscript_ (hv.run s _ _ S fun o s₁ k₁ r₁ => hi.run s₁ _ _ (S.keeps k₁) fun i s₂ k₂ r₂ => ?_)
  obtain ⟨a, its, rfl, hH, hl, hz, ra⟩ := r₁.kp k₂
  obtain ⟨t, rfl⟩ := r₂
  obtain ⟨y, hy, hr⟩ := ra.get _ h.2.2
  have hlen := ra.length
  simp only [Array.length_toList] at hlen
  obtain ⟨ops, ho⟩ := subscripted_ops slice (.ref a) (.int (-(k : Int)) t)
  exact tail_any (ops := ops) hl.typeIs slot_list_getitem.lookup (wpAny_getItem_list_neg (x := y) hl (by omega) (by omega) (by omega) (by
    rw [show (-(k : Int) + its.size).toNat = xs.length - k by omega]; simpa using hy) (hQ y s₂ (k₁.trans k₂) hr)) ho
theorem Ev.item_tup {value slice : Expr} {pos : Pos} {xs : List PV} {k : Int} {x : PV} (hv : Ev c ρ value (.tup xs)) (hi : Ev c ρ slice (.int k)) (h : 0 ≤ k ∧ xs[k.toNat]? = some x) : Ev c ρ (.Subscript value slice pos) x := .mk fun s Q E S hQ => by
  refine Subscript_ (hv.run s _ _ S fun o s₁ k₁ r₁ => hi.run s₁ _ _ (S.keeps k₁) fun i s₂ k₂ r₂ => ?_)
  obtain ⟨a, its, rfl, hH, hl, hz, ra⟩ := r₁.kp k₂
  obtain ⟨t, rfl⟩ := r₂
  obtain ⟨y, hy, hr⟩ := ra.get _ h.2
  have hlt : k.toNat < its.size := by have := (List.getElem?_eq_some_iff.mp hy).1; simpa using this
  obtain ⟨ops, ho⟩ := subscripted_ops slice (.ref a) (.int k t)
  exact tail_any (ops := ops) hl.typeIs slot_tuple_getitem.lookup (getItem_tuple (j := k.toNat) hl (by omega) (by omega) (seqIdx h.1 hlt) (by simpa using hy) (hQ y s₂ (k₁.trans k₂) hr)) ho
theorem Ev.item_str {value slice : Expr} {pos : Pos} {xs : List Nat} {k : Int} {x : Nat} (hv : Ev c ρ value (.str xs)) (hi : Ev c ρ slice (.int k)) (hz : xs.length < 2 ^ 60) (h : 0 ≤ k ∧ xs[k.toNat]? = some x) : Ev c ρ (.Subscript value slice pos) (.str [x]) := .mk fun s Q E S hQ => by
  refine Subscript_ (hv.run s _ _ S fun o s₁ k₁ r₁ => hi.run s₁ _ _ (S.keeps k₁) fun i s₂ k₂ r₂ => ?_)
  obtain ⟨u, rfl⟩ := r₁
  obtain ⟨t, rfl⟩ := r₂
  have hlt : k.toNat < xs.length := (List.getElem?_eq_some_iff.mp h.2).1
  obtain ⟨ops, ho⟩ := subscripted_ops slice (.str ⟨xs.toArray⟩ u) (.int k t)
  exact tail_any (ops := ops) (typeIs_str _ _ _) F.slot_str_getitem.lookup (P.getItem_str (c := x) (by simp; omega) (by
    rw [seqIdx h.1 (by simpa [Str.length] using hlt)]; simpa using h.2) (hQ _ _ ((k₁.trans k₂).trans (.tok s₂ _)) ⟨_, rfl⟩)) ho

/-! slices -/
noncomputable def cut {α : Type} (xs : List α) (lo hi : Option Int) : List α := (xs.drop (lo.elim 0 (clipAt xs.length))).take (hi.elim xs.length (clipAt xs.length) - lo.elim 0 (clipAt xs.length))
/-- a part of a slice -/
structure Pt (c : Cx) (ρ : List (Str × PV)) (e : Option Expr) (k : Option Int) : Prop where
  run : ∀ (s : Shared) (Q : Value → Shared → Prop) (E : Value → Shared → Prop), Sit c ρ s → (∀ v s' t, Kp s s' → v = partValue (k.map (·, t)) → Q v s') → wpAny (model pg c.w) c.A (evalPart e c.env) Q E s
theorem Pt.none : Pt c ρ none none := .mk fun s Q E S hQ => by
  rw [evalPart_none]; exact wpAny_pure (hQ _ s 0 (.refl s) rfl)
theorem Pt.some {e : Expr} {k : Int} (h : Ev c ρ e (.int k)) : Pt c ρ (some e) (some k) := .mk fun s Q E S hQ => by
  rw [evalPart_some]
  refine h.run s _ _ S fun v s' k r => ?_
  obtain ⟨t, rfl⟩ := r
  exact hQ _ s' t k rfl
theorem Reps.cut {H : List Addr} {h : Heap} {xs : List PV} {vs : List Value} (r : Reps H h xs vs) (lo hi : Option Int) : Reps H h (cut xs lo hi) (cut vs lo hi) := by
  unfold Mine.cut
  rw [r.length]
  exact (r.drop _).take _
theorem isPart_of (k : Option Int) (t : Tok) : IsPart (partValue (k.map (·, t))) k := by cases k <;> constructor
theorem cut_length {α : Type} (xs : List α) (lo hi : Option Int) : (cut xs lo hi).length ≤ xs.length := by
  unfold cut
  rw [List.length_take, List.length_drop]
  exact Nat.le_trans (Nat.min_le_right _ _) (Nat.sub_le _ _)
theorem Ev.slice_list {value : Expr} {lo hi : Option Expr} {p pos : Pos} {xs : List PV} {l u : Option Int} (hv : Ev c ρ value (.list xs)) (hl : Pt c ρ lo l) (hu : Pt c ρ hi u) :
    Ev c ρ (.Subscript value (.Slice lo hi none p) pos) (.list (cut xs l u)) := .mk fun s Q E S hQ => by
  refine Subscript_ (hv.run s _ _ S fun o s₁ k₁ r₁ => ?_)
  refine wpAny_Slice (hl.run s₁ _ _ (S.keeps k₁) fun v₁ s₂ t₁ k₂ e₁ => hu.run s₂ _ _ ((S.keeps k₁).keeps k₂) fun v₂ s₃ t₂ k₃ e₂ => ?_)
  rw [evalPart_none]
  refine wpAny_pure ?_
  subst e₁ e₂
  have S₃ := ((S.keeps k₁).keeps k₂).keeps k₃
  obtain ⟨a, its, rfl, hH, hli, hz, ra⟩ := (r₁.kp k₂).kp k₃
  obtain ⟨ops, ho⟩ := subscripted_ops (.Slice lo hi none p) (.ref a) (.ref s₃.heap.objs.size)
  refine tail_any (ops := ops) (Heap.IsList.typeIs (s := { s₃ with heap := s₃.heap.push _ }) (hli.push _)) slot_list_getitem.lookup
    (wpAny_getItem_list_slice (hli.push _) (Heap.IsSliceOf.new ..) (isPart_of l t₁) (isPart_of u t₂) .none (by simp) ?_ (by simp [sizeLine]; omega)) ho
  have hk : Kp s₃ { s₃ with heap := (s₃.heap.push { cls := .type "slice", data := .fields #[partValue (l.map (·, t₁)), partValue (u.map (·, t₂)), .none] }).push { cls := .type "list", data := .seq (slicePick its l u none) } } :=
    .of s₃ fun b o e => Heap.get?_push_of_some _ (Heap.get?_push_of_some _ e)
  have hcut : (slicePick its l u none).toList = cut its.toList l u := by rw [slicePick_plain]; simp [cut]
  refine hQ _ _ (((k₁.trans k₂).trans k₃).trans hk) ⟨_, slicePick its l u none, rfl, S₃.fresh (by rw [Heap.size_push]; omega), ⟨_, Heap.get?_push_size _ rfl, rfl, 0, rfl⟩, ?_, ?_⟩
  · have := cut_length its.toList l u
    rw [← hcut] at this; simp at this; omega
  · rw [hcut]
    exact Reps.sk (.of_keep hk.get) _ _ (ra.cut l u)
theorem strPick (xs : List Nat) (l u : Option Int) : ((Builtin.Str.strSliceIndices l u 1 xs.length).filterMap (xs.toArray[·]?)) = cut xs l u := by
  have h1 : Builtin.Str.strSliceIndices l u 1 xs.length = sliceRange (((l.elim 0 (clipAt xs.length) : Nat) : Int)) (((u.elim xs.length (clipAt xs.length) : Nat) : Int)) 1 := by
    cases l <;> cases u <;> simp [Builtin.Str.strSliceIndices, clipAt_cast]
  rw [h1, sliceRange_one, pick_run]
  simp [cut]
theorem strPick_all (xs : List Nat) (l u : Option Int) (h : (Builtin.Str.strSliceIndices l u 1 xs.length).length = xs.length) : cut xs l u = xs := by
  have h1 : Builtin.Str.strSliceIndices l u 1 xs.length = sliceRange (((l.elim 0 (clipAt xs.length) : Nat) : Int)) (((u.elim xs.length (clipAt xs.length) : Nat) : Int)) 1 := by
    cases l <;> cases u <;> simp [Builtin.Str.strSliceIndices, clipAt_cast]
  rw [h1, sliceRange_one] at h
  simp at h
  have hu : u.elim xs.length (clipAt xs.length) ≤ xs.length := by
    cases u with
    | none => simp
    | some i => simp [clipAt]; omega
  unfold cut
  by_cases hx : xs.length = 0
  · have : xs = [] := List.eq_nil_of_length_eq_zero hx
    subst this; simp
  · have h2 : l.elim 0 (clipAt xs.length) = 0 := by omega
    have h3 : u.elim xs.length (clipAt xs.length) = xs.length := by omega
    rw [h2, h3]; simp
theorem Ev.slice_str {value : Expr} {lo hi : Option Expr} {p pos : Pos} {xs : List Nat} {l u : Option Int} (hv : Ev c ρ value (.str xs)) (hl : Pt c ρ lo l) (hu : Pt c ρ hi u) (hz : xs.length ≤ 65536) :
    Ev c ρ (.Subscript value (.Slice lo hi none p) pos) (.str (cut xs l u)) := .mk fun s Q E S hQ => by
  refine Subscript_ (hv.run s _ _ S fun o s₁ k₁ r₁ => ?_)
  refine wpAny_Slice (hl.run s₁ _ _ (S.keeps k₁) fun v₁ s₂ t₁ k₂ e₁ => hu.run s₂ _ _ ((S.keeps k₁).keeps k₂) fun v₂ s₃ t₂ k₃ e₂ => ?_)
  rw [evalPart_none]
  refine wpAny_pure ?_
  subst e₁ e₂
  obtain ⟨t, rfl⟩ := r₁
  obtain ⟨ops, ho⟩ := subscripted_ops (.Slice lo hi none p) (.str ⟨xs.toArray⟩ t) (.ref s₃.heap.objs.size)
  refine tail_any (ops := ops) (typeIs_str _ _ _) F.slot_str_getitem.lookup (wpAny_getItem_str_slice (l := l.map (·, t₁)) (u := u.map (·, t₂)) (st := none) ⟨_, Heap.get?_push_size _ rfl, rfl, rfl⟩ rfl ?_) ho
  have hk : Kp s₃ { s₃ with heap := (s₃.heap.push { cls := .type "slice", data := .fields #[partValue (l.map (·, t₁)), partValue (u.map (·, t₂)), .none] }) } :=
    .of s₃ fun b o e => Heap.get?_push_of_some _ e
  have e1 : slicePicked ⟨xs.toArray⟩ (l.map (·, t₁)) (u.map (·, t₂)) none = Builtin.Str.strSliceIndices l u 1 xs.length := by
    unfold slicePicked
    cases l <;> cases u <;> simp [Str.length]
  unfold sliceMade
  rw [e1]
  by_cases hb : (((none : Option (Int × Tok)).map (·.1)).getD 1 == 1 && (Builtin.Str.strSliceIndices l u 1 xs.length).length == Str.length ⟨xs.toArray⟩) = true
  · rw [if_pos hb]
    have hb := (Bool.and_eq_true_iff.mp hb).2
    have hb : (Builtin.Str.strSliceIndices l u 1 xs.length).length = xs.length := by simpa [Str.length] using hb
    exact hQ _ _ (((k₁.trans k₂).trans k₃).trans hk) ⟨t, by rw [strPick_all xs l u hb]⟩
  · rw [if_neg hb]
    rw [strPick]
    refine ⟨?_, hQ _ _ ((((k₁.trans k₂).trans k₃).trans hk).trans (.tok _ _)) ⟨_, rfl⟩⟩
    have := cut_length xs l u
    simp [Str.length, sizeLine]; omega
end
end Mine

end
section
open PySem PySem.W PyProof.Rows PySem.Calls
set_option Elab.async false
set_option maxRecDepth 100000
set_option linter.all false
namespace Mine
section
variable {c : Cx} {ρ : List (Str × PV)}

/-! methods of strs -/
theorem Ev.meth_str {o e : Expr} {es : List Expr} {name : Str} {id : String} {apos pos : Pos} {x : List Nat} {ps : List PV} {r : PV} (slot : Slot "str" name id) (ty : typeOf (.builtin id) = pure (.type "method_descriptor"))
    (ho : Ev c ρ o (.str x)) (ha : Evs c ρ (e :: es) ps) (hc : Cl c ρ (.builtin id) (.str x :: ps) r)
    (hbase : attributeBase o name c.env (eval o c.env) = eval o c.env := by kernel_rfl)
    (hfew : ((backTo pos (starEach (e :: es) c.env)).all (fun x => !x.1) && (backToKw pos (keywordEach [] c.env)).all (fun x => x.1.isSome) && decide ((e :: es).length + ([] : List Keyword).length + (if ([] : List Keyword).isEmpty then 0 else 1) < 30)) = true := by kernel_rfl)
    (hline : (apos.endLine == pos.line) = true := by kernel_rfl)
    (hst : starEach (e :: es) c.env = (false, eval e c.env) :: starEach es c.env := by kernel_rfl) (hp : plainArgs c (e :: es) := by intro _; kernel_rfl) : Ev c ρ (.Call (.Attribute o name apos) (e :: es) [] pos) r := .mk fun s Q E S hQ =>
  wpAny_Call_method_lateS hbase hfew hline (ho.run s _ _ S fun ov s₁ k₁ r₁ => by
    obtain ⟨t, rfl⟩ := r₁
    exact ⟨"str", id, F.plainAttrs_str, slot, ty, typeIs_str _ _ _, (fun _ e => nomatch e),
      Calls.callWith_builtin (hp _) (evalArgs_row ha (S.keeps k₁) hst fun vs s₂ k₂ r₂ => hc.run s₂ _ _ (.str ⟨x.toArray⟩ t :: vs) ((S.keeps k₁).keeps k₂) ⟨_, _, rfl, ⟨t, rfl⟩, r₂⟩ fun v s' k hv => hQ v s' ((k₁.trans k₂).trans k) hv)⟩)
theorem Ev.meth_str0 {o : Expr} {name : Str} {id : String} {apos pos : Pos} {x : List Nat} {r : PV} (slot : Slot "str" name id) (ty : typeOf (.builtin id) = pure (.type "method_descriptor"))
    (ho : Ev c ρ o (.str x)) (hc : Cl c ρ (.builtin id) [.str x] r)
    (hbase : attributeBase o name c.env (eval o c.env) = eval o c.env := by kernel_rfl)
    (hline : (apos.endLine == pos.line) = true := by kernel_rfl) : Ev c ρ (.Call (.Attribute o name apos) [] [] pos) r := .mk fun s Q E S hQ =>
  Call_method0 hbase hline (ho.run s _ _ S fun ov s₁ k₁ r₁ => by
    obtain ⟨t, rfl⟩ := r₁
    exact ⟨"str", id, F.plainAttrs_str, slot, ty, typeIs_str _ _ _, (fun _ e => nomatch e),
      Calls.callWith_builtin rfl (PySem.evalArgs_none (hc.run s₁ _ _ [.str ⟨x.toArray⟩ t] (S.keeps k₁) ⟨_, _, rfl, ⟨t, rfl⟩, rfl⟩ fun v s' k hv => hQ v s' (k₁.trans k) hv))⟩)

theorem Cl.two_str {id : String} {x y : List Nat} {r : PV} (h : ∀ (s : Shared) (Q : Value → Shared → Prop) (E : Value → Shared → Prop) t u, Sit c ρ s → (∀ v s', Kp s s' → Rep c.H s'.heap r v → Q v s') → wpAny (model pg c.w) c.A (call (.builtin id) [.str (S x) t, .str (S y) u]) Q E s) :
    Cl c ρ (.builtin id) [.str x, .str y] r := by
  constructor
  rintro s Q E vs Si ⟨v, _, rfl, ⟨t, rfl⟩, v', _, rfl, ⟨u, rfl⟩, rfl⟩ hQ
  exact h s Q E t u Si hQ
theorem Cl.count {x y : List Nat} : Cl c ρ (.builtin "str.count") [.str x, .str y] (.int (Txt.count (S x) (S y))) := Cl.two_str fun s Q E t u Si hQ => SC.count (hQ _ _ (.tok s _) ⟨_, rfl⟩)
theorem Cl.find {x y : List Nat} : Cl c ρ (.builtin "str.find") [.str x, .str y] (.int (Txt.find (S x) (S y))) := Cl.two_str fun s Q E t u Si hQ => SC.find (hQ _ _ (.tok s _) ⟨_, rfl⟩)
theorem Cl.lower {x : List Nat} (h : x.length ≤ 65536) : Cl c ρ (.builtin "str.lower") [.str x] (.str (Txt.lower (S x)).cps.toList) := by
  constructor
  rintro s Q E vs Si ⟨v, _, rfl, ⟨t, rfl⟩, rfl⟩ hQ
  exact PyProof.Rows.SCL.lower (by simp [Str.length]; omega) fun _ => hQ _ _ (.tok s _) ⟨s.toks, by simp [S]⟩

/-- glued without anything between -/
noncomputable def flat (xs : List (List Nat)) : List Nat := xs.flatten
theorem reps_strs {H : List Addr} {h : Heap} : ∀ {xs : List (List Nat)} {vs : List Value}, Reps H h (xs.map .str) vs → ∃ l : List (Str × Tok), strValues l = vs ∧ l.map (·.1) = xs.map S
  | [], vs, r => by rw [show vs = [] from r]; exact ⟨[], rfl, rfl⟩
  | x :: xs, vs, r => by
    obtain ⟨v, r', rfl, ⟨t, rfl⟩, h2⟩ := r
    obtain ⟨l, rfl, e⟩ := reps_strs h2
    exact ⟨(S x, t) :: l, rfl, by simp [e]⟩
theorem glued_empty : ∀ (xs : List (List Nat)), Txt.join (S []) (xs.map S) = S xs.flatten := by
  have fold : ∀ (xs : List (List Nat)) (acc : List Nat), (xs.map S).foldl (fun acc p => acc ++ (S []).cps ++ p.cps) acc.toArray = (acc ++ xs.flatten).toArray := by
    intro xs
    induction xs with
    | nil => intro acc; simp
    | cons x xs ih => intro acc; simp only [List.map_cons, List.foldl_cons, S]; simpa [S] using ih (acc ++ x)
  intro xs
  cases xs with
  | nil => rfl
  | cons x xs =>
    have := fold xs x
    unfold Txt.join Builtin.Str.glued
    simp only [List.map_cons, List.drop_succ_cons, List.drop_zero, List.headD_cons]
    show (⟨_⟩ : Str) = _
    rw [show (S x).cps = x.toArray from rfl, this]
    simp [S]
theorem joinOk_empty (xs : List (List Nat)) (h : xs.flatten.length ≤ 65536) : JoinOk (S []) (xs.map S) = true := by
  have fold : ∀ (xs : List (List Nat)) (n : Nat), (xs.map S).foldl (fun a (p : Str) => a + p.length + (S []).length) n = n + xs.flatten.length := by
    intro xs
    induction xs with
    | nil => intro n; simp
    | cons x xs ih => intro n; simp only [List.map_cons, List.foldl_cons]; rw [ih]; simp [S, Str.length]; omega
  unfold JoinOk
  rw [List.foldl_toArray, fold]
  simp [Builtin.Str.tooLong, sizeLine] at h ⊢; omega
theorem Cl.join {xs : List (List Nat)} (h : xs.flatten.length ≤ 65536) : Cl c ρ (.builtin "str.join") [.str [], .list (xs.map .str)] (.str xs.flatten) := by
  constructor
  rintro s Q E vs Si ⟨v, _, rfl, ⟨t, rfl⟩, v', _, rfl, ⟨a, its, rfl, _, hl, _, ra⟩, rfl⟩ hQ
  obtain ⟨l, e1, e2⟩ := reps_strs ra
  refine SC.join (texts := xs.map S) (l := l) (by rw [e1]; simpa using hl) e2 (joinOk_empty xs h) fun t' k => ?_
  rw [show (⟨#[]⟩ : Str) = S [] from rfl, glued_empty]
  exact hQ _ _ (.tok s _) ⟨t', rfl⟩

/-! built-in functions -/
theorem Cl.len_str {x : List Nat} (h : x.length ≤ 2 ^ 60) : Cl c ρ (.builtin "len") [.str x] (.int x.length) := by
  constructor
  rintro s Q E vs Si ⟨v, _, rfl, ⟨t, rfl⟩, rfl⟩ hQ
  have e : (Str.length ⟨x.toArray⟩ : Int) = x.length := by simp [Str.length]
  refine PyProof.Rows.len_str (by rw [e]; omega) ?_
  rw [e]
  exact hQ _ _ (.tok s _) ⟨_, rfl⟩
theorem Cl.len_list {xs : List PV} : Cl c ρ (.builtin "len") [.list xs] (.int xs.length) := by
  constructor
  rintro s Q E vs Si ⟨v, _, rfl, ⟨a, its, rfl, _, hl, hz, ra⟩, rfl⟩ hQ
  have e := ra.length
  simp only [Array.length_toList] at e
  refine Calls.call_len_list hl (by omega) ?_
  rw [e]
  exact hQ _ _ (.tok s _) ⟨_, rfl⟩
theorem Cl.chr {i : Int} (h0 : 0 ≤ i) (h1 : i ≤ 1114111) : Cl c ρ (.builtin "chr") [.int i] (.str [i.toNat]) := by
  constructor
  rintro s Q E vs Si ⟨v, _, rfl, ⟨t, rfl⟩, rfl⟩ hQ
  exact P.chr_of_int (by simp; omega) (hQ _ _ (.tok s _) ⟨_, rfl⟩)
theorem Cl.ord {x : Nat} : Cl c ρ (.builtin "ord") [.str [x]] (.int x) := by
  constructor
  rintro s Q E vs Si ⟨v, _, rfl, ⟨t, rfl⟩, rfl⟩ hQ
  exact P.ord_of_char (hQ _ _ (.tok s _) ⟨_, rfl⟩)
theorem Cl.max_two {a b : Int} : Cl c ρ (.builtin "max") [.int a, .int b] (.int (if b > a then b else a)) := by
  constructor
  rintro s Q E vs Si ⟨v, _, rfl, ⟨t, rfl⟩, v', _, rfl, ⟨u, rfl⟩, rfl⟩ hQ
  refine max_two_ints Si.hh fun h' tk k => ?_
  by_cases h : b > a
  · rw [if_pos h]; exact hQ _ _ (.of s k) ⟨u, by rw [if_pos h]⟩
  · rw [if_neg h]; exact hQ _ _ (.of s k) ⟨t, by rw [if_neg h]⟩
theorem reps_ints {H : List Addr} {h : Heap} : ∀ {xs : List Int} {vs : List Value}, Reps H h (xs.map .int) vs → ∃ l : List (Int × Tok), (l.map fun p => Value.int p.1 p.2) = vs ∧ l.map (·.1) = xs
  | [], vs, r => by rw [show vs = [] from r]; exact ⟨[], rfl, rfl⟩
  | x :: xs, vs, r => by
    obtain ⟨v, r', rfl, ⟨t, rfl⟩, h2⟩ := r
    obtain ⟨l, rfl, e⟩ := reps_ints h2
    exact ⟨(x, t) :: l, rfl, by simp [e]⟩
theorem intItems_of {its : Array Value} {l : List (Int × Tok)} (e : (l.map fun p => Value.int p.1 p.2) = its.toList) : its = intItems l.toArray := by
  have : its = its.toList.toArray := by simp
  rw [this, ← e]; simp [intItems]
theorem Cl.sum_list {xs : List Int} : Cl c ρ (.builtin "sum") [.list (xs.map .int)] (.int xs.sum) := by
  constructor
  rintro s Q E vs Si ⟨v, _, rfl, ⟨a, its, rfl, _, hl, hz, ra⟩, rfl⟩ hQ
  obtain ⟨l, e1, e2⟩ := reps_ints ra
  rw [intItems_of e1] at hl
  refine sum_intListG Si.hh hl fun h' tk t' k => ?_
  rw [preSum_eq, List.take_of_length_le (by simp)]
  have : (l.toArray.toList.map (·.1)) = xs := by simpa using e2
  rw [this]
  exact hQ _ _ (.of s k) ⟨t', rfl⟩
/-- M is the greatest of the list -/
theorem Cl.max_list {xs : List Int} {M : Int} (hne : xs ≠ []) (hM : M ∈ xs ∧ ∀ a ∈ xs, a ≤ M) : Cl c ρ (.builtin "max") [.list (xs.map .int)] (.int M) := by
  constructor
  rintro s Q E vs Si ⟨v, _, rfl, ⟨a, its, rfl, _, hl, hz, ra⟩, rfl⟩ hQ
  obtain ⟨l, e1, e2⟩ := reps_ints ra
  rw [intItems_of e1] at hl
  have hlen : l.length = xs.length := by rw [← e2]; simp
  have hpos : 0 < l.length := by rw [hlen]; exact List.length_pos_iff.mpr hne
  refine max_intList Si.hh hl (by simpa using hpos) fun v h' tk hv k => ?_
  obtain ⟨t, rfl⟩ := intItems_at hv
  obtain ⟨h1, h2⟩ := argBest_gt (numAt l.toArray) (l.toArray.size - 1)
  have e3 : l.toArray.toList.map (·.1) = xs := by simpa using e2
  have : numAt l.toArray (argBest (fun i j => decide (numAt l.toArray i > numAt l.toArray j)) (l.toArray.size - 1)) = M := by
    refine Int.le_antisymm (hM.2 _ ?_) ?_
    · rw [numAt_eq, e3]; exact getD_mem (by simp at h1 ⊢; omega)
    · obtain ⟨j, hj, ej⟩ := mem_getD hM.1
      have := h2 j (by simp; omega)
      rw [numAt_eq l.toArray j, e3, ej] at this
      exact this
  rw [this]
  exact hQ _ _ (.of s k) ⟨t, rfl⟩
end
end Mine

end
section
open PySem PySem.W PyProof.Rows PySem.Calls
set_option Elab.async false
set_option maxRecDepth 100000
set_option linter.all false
namespace Mine

/-! what a value stands for is one -/
mutual
noncomputable def noObj : PV → Bool
  | .obj _ => false
  | .list xs => noObjs xs
  | .tup xs => noObjs xs
  | _ => true
noncomputable def noObjs : List PV → Bool
  | [] => true
  | x :: xs => noObj x && noObjs xs
end
mutual
theorem Rep.inj {H : List Addr} {h : Heap} : ∀ (x y : PV) (v : Value), noObj x = true → noObj y = true → Rep H h x v → Rep H h y v → x = y
  | .none, y, v, _, hy, rx, ry => by
    cases y <;> simp only [Rep] at rx ry <;> first | rfl | (subst rx; simp at ry) | (simp [noObj] at hy)
  | .bool a, y, v, _, hy, rx, ry => by
    cases y <;> simp only [Rep] at rx ry <;> subst rx <;> first | (simp at ry; done) | (simp [noObj] at hy; done) | (cases ry; rfl)
  | .int a, y, v, _, hy, rx, ry => by
    obtain ⟨t, rfl⟩ := rx
    cases y <;> simp only [Rep] at ry <;> first | (simp at ry; done) | (simp [noObj] at hy; done) | (obtain ⟨u, e⟩ := ry; cases e; rfl)
  | .str a, y, v, _, hy, rx, ry => by
    obtain ⟨t, rfl⟩ := rx
    cases y <;> simp only [Rep] at ry <;> first | (simp at ry; done) | (simp [noObj] at hy; done) | (obtain ⟨u, e⟩ := ry; simp at e; rw [e.1])
  | .list xs, y, v, hx, hy, rx, ry => by
    obtain ⟨a, its, rfl, _, ⟨o, ho, hc, n, hd⟩, _, ra⟩ := rx
    cases y with
    | list ys =>
      obtain ⟨a', its', e, _, ⟨o', ho', hc', n', hd'⟩, _, ra'⟩ := ry
      cases e
      rw [ho] at ho'; cases ho'
      rw [hd] at hd'; cases hd'
      rw [Reps.inj xs ys _ hx hy ra ra']
    | tup ys =>
      obtain ⟨a', its', e, _, ⟨o', ho', hc', n', hd'⟩, _, ra'⟩ := ry
      cases e
      rw [ho] at ho'; cases ho'
      rw [hc] at hc'; simp at hc'
    | obj b => simp [noObj] at hy
    | none => simp [Rep] at ry
    | bool b => simp [Rep] at ry
    | int n => obtain ⟨_, e⟩ := ry; cases e
    | str l => obtain ⟨_, e⟩ := ry; cases e
  | .tup xs, y, v, hx, hy, rx, ry => by
    obtain ⟨a, its, rfl, _, ⟨o, ho, hc, n, hd⟩, _, ra⟩ := rx
    cases y with
    | tup ys =>
      obtain ⟨a', its', e, _, ⟨o', ho', hc', n', hd'⟩, _, ra'⟩ := ry
      cases e
      rw [ho] at ho'; cases ho'
      rw [hd] at hd'; cases hd'
      rw [Reps.inj xs ys _ hx hy ra ra']
    | list ys =>
      obtain ⟨a', its', e, _, ⟨o', ho', hc', n', hd'⟩, _, ra'⟩ := ry
      cases e
      rw [ho] at ho'; cases ho'
      rw [hc] at hc'; simp at hc'
    | obj b => simp [noObj] at hy
    | none => simp [Rep] at ry
    | bool b => simp [Rep] at ry
    | int n => obtain ⟨_, e⟩ := ry; cases e
    | str l => obtain ⟨_, e⟩ := ry; cases e
  | .obj a, y, v, hx, _, _, _ => by simp [noObj] at hx
theorem Reps.inj {H : List Addr} {h : Heap} : ∀ (xs ys : List PV) (vs : List Value), noObjs xs = true → noObjs ys = true → Reps H h xs vs → Reps H h ys vs → xs = ys
  | [], [], _, _, _, _, _ => rfl
  | [], y :: ys, vs, _, _, rx, ry => by
    obtain ⟨v, r, rfl, _⟩ := ry
    simp [Reps] at rx
  | x :: xs, [], vs, _, _, rx, ry => by
    obtain ⟨v, r, rfl, _⟩ := rx
    simp [Reps] at ry
  | x :: xs, y :: ys, vs, hx, hy, rx, ry => by
    obtain ⟨v, r, rfl, h1, h2⟩ := rx
    obtain ⟨v', r', e, h1', h2'⟩ := ry
    cases e
    simp only [noObjs, Bool.and_eq_true] at hx hy
    rw [Rep.inj x y v hx.1 hy.1 h1 h1', Reps.inj xs ys r hx.2 hy.2 h2 h2']
end
theorem noObj_of_mem : ∀ {xs : List PV} {x : PV}, noObjs xs = true → x ∈ xs → noObj x = true
  | y :: ys, x, h, m => by
    simp only [noObjs, Bool.and_eq_true] at h
    rcases List.mem_cons.mp m with rfl | m
    · exact h.1
    · exact noObj_of_mem h.2 m

/-- a value that needs no heap -/
noncomputable def flt : PV → Bool
  | .list _ => false | .tup _ => false | _ => true
theorem Rep.flat {H H' : List Addr} {h h' : Heap} {p : PV} {v : Value} (hp : flt p = true) (r : Rep H h p v) : Rep H' h' p v := by
  cases p <;> first | exact r | (simp [flt] at hp)

/-- an iterable -/
structure Itr (c : Cx) (b : Bool) (xs : List PV) (s s₂ : Shared) (I : Addr) (fp : List Addr) (P : Nat → Value → Prop) (St : Nat → Heap → Prop) : Prop where
  kp : Kp s s₂
  walks : Walks pg c.w c.A I fp [I] xs.length P St
  st : St 0 s₂.heap
  lt : ∀ b ∈ fp, b < s₂.heap.objs.size
  new : s.heap.get? I = none
  solo : b = true → fp = [I]
  fps : ∀ a ∈ fp, a = I ∨ ∃ o ys n, s₂.heap.get? a = some o ∧ o.data = .seq ys n
  seq : ∀ i h, St i h → ∀ o, h.get? I = some o → ∀ ys n, o.data ≠ .seq ys n
  item : ∀ i v, P i v → ∃ x, xs[i]? = some x ∧ Rep c.H s₂.heap x v
structure It (c : Cx) (ρ : List (Str × PV)) (b : Bool) (e : Expr) (xs : List PV) : Prop where
  run : ∀ (s : Shared) (Q : Value → Shared → Prop) (E : Value → Shared → Prop), Sit c ρ s → (∀ s₂ I fp P St, Itr c b xs s s₂ I fp P St → Q (.ref I) s₂) → wpAny (model pg c.w) c.A (eval e c.env) (fun xv s₁ => wpAny (model pg c.w) c.A (pyIter xv) Q E s₁) E s
section
variable {c : Cx} {ρ : List (Str × PV)}
theorem get_ge {h : Heap} {a : Addr} (e : h.objs.size ≤ a) : h.get? a = none := by
  cases g : h.get? a with
  | none => rfl
  | some o => exact absurd (Heap.lt_size g) (Nat.not_lt.mpr e)
theorem It.list {e : Expr} {xs : List PV} (h : Ev c ρ e (.list xs)) : It c ρ false e xs := .mk fun s Q E S hQ => by
  refine h.run s _ _ S fun v s₁ k₁ r₁ => ?_
  obtain ⟨a, its, rfl, hH, hl, hz, ra⟩ := r₁
  have e1 := ra.length
  simp only [Array.length_toList] at e1
  have hax : a < s₁.heap.objs.size := by obtain ⟨_, e, _⟩ := hl; exact Heap.lt_size e
  refine wpAny_pyIter_list hl (hQ _ s₁.heap.objs.size [s₁.heap.objs.size, a] (fun i v => its[i]? = some v) (fun i h => h.IsListIter s₁.heap.objs.size a i ∧ h.IsList a its) ⟨k₁.trans (.push s₁ _ _), by
    rw [← e1]; exact Walks.list S.hh s₁.heap.objs.size a (Nat.ne_of_lt hax) its, ⟨⟨_, Heap.get?_push_size _ rfl, rfl, rfl⟩, hl.push _⟩, ?_, ?_, fun h => (nomatch h), ?_, ?_, ?_⟩)
  · intro b hb
    show b < (s₁.heap.push _).objs.size
    rw [Heap.size_push]
    rcases List.mem_cons.mp hb with rfl | hb
    · exact Nat.lt_succ_self _
    · rcases List.mem_cons.mp hb with rfl | hb
      · exact Nat.lt_succ_of_lt hax
      · cases hb
  · cases g : s.heap.get? s₁.heap.objs.size with
    | none => rfl
    | some o => exact absurd (Heap.lt_size (k₁.get _ _ g)) (Nat.lt_irrefl _)
  · intro b hb
    rcases List.mem_cons.mp hb with rfl | hb
    · exact .inl rfl
    · rcases List.mem_cons.mp hb with rfl | hb
      · obtain ⟨o, ho, _, n, hd⟩ := hl
        exact .inr ⟨o, _, n, Heap.get?_push_of_some _ ho, hd⟩
      · cases hb
  · rintro i h ⟨⟨o', g, _, d⟩, _⟩ o ho ys n hd
    rw [ho] at g; cases g
    rw [hd] at d; cases d
  · intro i v hv
    obtain ⟨x, hx, hr⟩ := ra.get' i (y := v) (by simpa using hv)
    exact ⟨x, hx, Rep.sk (.of_keep fun b o e => Heap.get?_push_of_some _ e) _ _ hr⟩

theorem It.tup {e : Expr} {xs : List PV} (h : Ev c ρ e (.tup xs)) : It c ρ false e xs := .mk fun s Q E S hQ => by
  refine h.run s _ _ S fun v s₁ k₁ r₁ => ?_
  obtain ⟨a, its, rfl, hH, hl, hz, ra⟩ := r₁
  have e1 := ra.length
  simp only [Array.length_toList] at e1
  have hax : a < s₁.heap.objs.size := by obtain ⟨_, e, _⟩ := hl; exact Heap.lt_size e
  have hl : s₁.heap.IsTuple a its := hl
  refine wpAny_pyIter_tuple hl (hQ _ s₁.heap.objs.size [s₁.heap.objs.size, a] (fun i v => its[i]? = some v) (fun i h => h.IsTupleIter s₁.heap.objs.size a i ∧ h.IsTuple a its) ⟨k₁.trans (.push s₁ _ _), by
    rw [← e1]; exact Walks.tuple S.hh s₁.heap.objs.size a (Nat.ne_of_lt hax) its, ⟨⟨_, Heap.get?_push_size _ rfl, rfl, rfl⟩, hl.push _⟩, ?_, ?_, fun h => (nomatch h), ?_, ?_, ?_⟩)
  · intro b hb
    show b < (s₁.heap.push _).objs.size
    rw [Heap.size_push]
    rcases List.mem_cons.mp hb with rfl | hb
    · exact Nat.lt_succ_self _
    · rcases List.mem_cons.mp hb with rfl | hb
      · exact Nat.lt_succ_of_lt hax
      · cases hb
  · cases g : s.heap.get? s₁.heap.objs.size with
    | none => rfl
    | some o => exact absurd (Heap.lt_size (k₁.get _ _ g)) (Nat.lt_irrefl _)
  · intro b hb
    rcases List.mem_cons.mp hb with rfl | hb
    · exact .inl rfl
    · rcases List.mem_cons.mp hb with rfl | hb
      · obtain ⟨o, ho, _, n, hd⟩ := hl
        exact .inr ⟨o, _, n, Heap.get?_push_of_some _ ho, hd⟩
      · cases hb
  · rintro i h ⟨⟨o', g, _, d⟩, _⟩ o ho ys n hd
    rw [ho] at g; cases g
    rw [hd] at d; cases d
  · intro i v hv
    obtain ⟨x, hx, hr⟩ := ra.get' i (y := v) (by simpa using hv)
    exact ⟨x, hx, Rep.sk (.of_keep fun b o e => Heap.get?_push_of_some _ e) _ _ hr⟩
theorem It.str {b : Bool} {e : Expr} {xs : List Nat} (h : Ev c ρ e (.str xs)) : It c ρ b e (xs.map fun n => .str [n]) := .mk fun s Q E S hQ => by
  refine h.run s _ _ S fun v s₁ k₁ r₁ => ?_
  obtain ⟨t, rfl⟩ := r₁
  have fresh : s.heap.get? s₁.heap.objs.size = none := by
    cases g : s.heap.get? s₁.heap.objs.size with
    | none => rfl
    | some o => exact absurd (Heap.lt_size (k₁.get _ _ g)) (Nat.lt_irrefl _)
  have item : ∀ (h : Heap) i v, SignAt ⟨xs.toArray⟩ i v → ∃ x, (xs.map fun n => PV.str [n])[i]? = some x ∧ Rep c.H h x v := fun h i v hv => by
    obtain ⟨n, u, hn, rfl⟩ := hv
    exact ⟨.str [n], by simpa using hn, u, rfl⟩
  have fp : ∀ (o : Obj), ∀ b ∈ [s₁.heap.objs.size], b < (s₁.heap.push o).objs.size := fun o b hb => by
    rw [Heap.size_push]; rw [List.mem_singleton.mp hb]; exact Nat.lt_succ_self _
  cases ha : (⟨xs.toArray⟩ : Str).cps.all (· < 128)
  · refine wpAny_pyIter_wide ha (hQ _ s₁.heap.objs.size [s₁.heap.objs.size] (SignAt ⟨xs.toArray⟩) (fun i h => h.IsStrIter s₁.heap.objs.size "str_iterator" ⟨xs.toArray⟩ t i) ⟨k₁.trans (.push s₁ _ _), by
      have := Walks.strWide (prog := pg) (w := c.w) (A := c.A) S.hh s₁.heap.objs.size ⟨xs.toArray⟩ t
      simpa using this, ⟨_, Heap.get?_push_size _ rfl, rfl, rfl⟩, fp _, fresh, fun _ => rfl, (fun a ha => .inl (List.mem_singleton.mp ha)), ?_, item _⟩)
    rintro i h ⟨o', g, _, d⟩ o ho ys n hd
    rw [ho] at g; cases g
    rw [hd] at d; cases d
  · refine wpAny_pyIter_ascii ha (hQ _ s₁.heap.objs.size [s₁.heap.objs.size] (SignAt ⟨xs.toArray⟩) (fun i h => h.IsStrIter s₁.heap.objs.size "str_ascii_iterator" ⟨xs.toArray⟩ t i) ⟨k₁.trans (.push s₁ _ _), by
      have := Walks.strAscii (prog := pg) (w := c.w) (A := c.A) S.hh s₁.heap.objs.size ⟨xs.toArray⟩ t
      simpa using this, ⟨_, Heap.get?_push_size _ rfl, rfl, rfl⟩, fp _, fresh, fun _ => rfl, (fun a ha => .inl (List.mem_singleton.mp ha)), ?_, item _⟩)
    rintro i h ⟨o', g, _, d⟩ o ho ys n hd
    rw [ho] at g; cases g
    rw [hd] at d; cases d

noncomputable def rng (lo hi : Int) : List PV := (List.range (hi - lo).toNat).map fun (i : Nat) => PV.int (lo + (i : Int))
theorem walks_bound {prog : Program} {w : World} {A : Around} {I : Addr} {fp wr : List Addr} {n : Nat} {P : Nat → Value → Prop} {St : Nat → Heap → Prop} (W : Walks prog w A I fp wr n P St) : Walks prog w A I fp wr n (fun i v => i < n ∧ P i v) St where
  sub := W.sub
  frame := W.frame
  item := fun i s Q E hi st hQ => W.item i s Q E hi st fun v h' tk hP => hQ v h' tk ⟨hi, hP⟩
  done := W.done
  self := W.self
theorem iter_range {b : Bool} {lo hi : Int} {tl th tv : Tok} {s s₁ : Shared} {Q : Value → Shared → Prop} {E : Value → Shared → Prop} {tk : Nat} {o : Obj} (S : Sit c ρ s) (k₁ : Kp s s₁)
    (h : (-(2 ^ 62) ≤ lo ∧ lo < 2 ^ 62) ∧ (-(2 ^ 62) ≤ hi ∧ hi < 2 ^ 62)) (ho : o = { cls := .type "range", data := .fields #[.int lo tl, .int hi th, .int 1 tv] })
    (hQ : ∀ s₂ I fp P St, Itr c b (rng lo hi) s s₂ I fp P St → Q (.ref I) s₂) :
    wpAny (model pg c.w) c.A (pyIter (.ref s₁.heap.objs.size)) Q E { s₁ with heap := s₁.heap.push o, toks := tk } := by
  subst ho
  refine wpAny_pyIter_range (IsRange.new ..) (small_one h.1.1 h.1.2 h.2.1 h.2.2) ?_
  have hsz : Builtin.Range.rangeSize lo hi 1 = ((hi - lo).toNat : Int) := by rw [rangeSize_one]; split <;> omega
  have k2 : Kp s₁ { s₁ with heap := s₁.heap.push { cls := .type "range", data := .fields #[.int lo tl, .int hi th, .int 1 tv] }, toks := tk } := .push s₁ _ _
  refine hQ _ _ [(s₁.heap.push { cls := .type "range", data := .fields #[.int lo tl, .int hi th, .int 1 tv] }).objs.size] _ _ ⟨(k₁.trans k2).trans (.push _ _ _), by
    have := walks_bound (Walks.range (prog := pg) (w := c.w) (A := c.A) S.hh (s₁.heap.push { cls := .type "range", data := .fields #[.int lo tl, .int hi th, .int 1 tv] }).objs.size lo 1 (hi - lo).toNat)
    have e : (rng lo hi).length = (hi - lo).toNat := by simp [rng]
    rw [e]; exact this, ?_, ?_, ?_, fun _ => rfl, (fun a ha => .inl (List.mem_singleton.mp ha)), ?_, ?_⟩
  · have e1 : (lo + ((0 : Nat) : Int) * 1) = lo := by simp
    have e2 : (((hi - lo).toNat : Int) - ((0 : Nat) : Int)) = Builtin.Range.rangeSize lo hi 1 := by rw [hsz]; simp
    show IsRangeIter _ _ (lo + ((0 : Nat) : Int) * 1) (((hi - lo).toNat : Int) - ((0 : Nat) : Int)) 1
    rw [e1, e2]
    exact Heap.get?_push_size _ rfl
  · intro b hb
    rw [List.mem_singleton.mp hb]
    show (Heap.push _ _).objs.size < (Heap.push _ _).objs.size
    rw [Heap.size_push (Heap.push _ _)]; exact Nat.lt_succ_self _
  · cases g : s.heap.get? (s₁.heap.push { cls := .type "range", data := .fields #[.int lo tl, .int hi th, .int 1 tv] }).objs.size with
    | none => rfl
    | some o =>
      have h1 := Heap.lt_size (k₁.get _ _ g)
      rw [Heap.size_push] at h1
      exact absurd (Nat.lt_of_succ_lt h1) (Nat.lt_irrefl _)
  · intro i h g o ho ys n hd
    have g : h.get? _ = some _ := g
    rw [ho] at g; cases g
    cases hd
  · rintro i v ⟨hi, t, rfl⟩
    exact ⟨.int (lo + (i : Int)), by simp [rng, hi], t, by simp⟩
theorem It.range1 {b : Bool} {x : Str} {p pos : Pos} {e : Expr} {hi : Int} (hx : Nm c ρ (.Name x p) (.type "range")) (he : Ev c ρ e (.int hi)) (h : -(2 ^ 62) ≤ hi ∧ hi < 2 ^ 62)
    (hst : starEach [e] c.env = [(false, eval e c.env)] := by kernel_rfl) : It c ρ b (.Call (.Name x p) [e] [] pos) (rng 0 hi) := .mk fun s Q E S hQ => by
  refine PyProof.Rows.Call_Name1 (hx.run s _ _ S ?_) hst
  refine PySem.callWith_type rfl (Calls.evalArgs_plain (Calls.spliced_cons (he.run s _ _ S fun v s₁ k₁ r₁ => Calls.spliced_nil ?_)))
  obtain ⟨t, rfl⟩ := r₁
  exact call_range_1 (iter_range S k₁ ⟨by omega, h⟩ rfl hQ)
theorem It.range2 {b : Bool} {x : Str} {p pos : Pos} {e₁ e₂ : Expr} {lo hi : Int} (hx : Nm c ρ (.Name x p) (.type "range")) (he₁ : Ev c ρ e₁ (.int lo)) (he₂ : Ev c ρ e₂ (.int hi)) (h : (-(2 ^ 62) ≤ lo ∧ lo < 2 ^ 62) ∧ (-(2 ^ 62) ≤ hi ∧ hi < 2 ^ 62))
    (hst : starEach [e₁, e₂] c.env = [(false, eval e₁ c.env), (false, eval e₂ c.env)] := by kernel_rfl) : It c ρ b (.Call (.Name x p) [e₁, e₂] [] pos) (rng lo hi) := .mk fun s Q E S hQ => by
  refine PyProof.Rows.Call_Name2 (hx.run s _ _ S ?_) hst
  refine PySem.callWith_type rfl (Calls.evalArgs_plain (Calls.spliced_cons (he₁.run s _ _ S fun v s₁ k₁ r₁ => Calls.spliced_cons (he₂.run s₁ _ _ (S.keeps k₁) fun v₂ s₂ k₂ r₂ => Calls.spliced_nil ?_))))
  obtain ⟨t, rfl⟩ := r₁
  obtain ⟨u, rfl⟩ := r₂
  exact call_range_2 (iter_range S (k₁.trans k₂) h rfl hQ)
end
end Mine

end
section
open PySem PySem.W PyProof.Rows PySem.Calls
set_option Elab.async false
set_option maxRecDepth 100000
set_option linter.all false
namespace Mine

noncomputable def closOf (env : Env) : List (Str × NameKind) → List (Str × Addr) → List (Str × Addr)
  | [], acc => acc
  | (n, k) :: r, acc => if k == .free then closOf env r ((n, (env.cells.lookup n).getD 0) :: acc) else closOf env r acc
noncomputable def closOk (env : Env) (names : List (Str × NameKind)) : Bool := names.all fun x => !(x.2 == .free) || (env.cells.lookup x.1).isSome
theorem closureFor_eq (scope : Scope) (env : Env) (h : closOk env scope.names = true) : closureFor scope env = pure (closOf env scope.names []) := by
  unfold closureFor
  have key : ∀ (names : List (Str × NameKind)) (acc : List (Str × Addr)), closOk env names = true →
      (forIn (m := Sem) names acc fun x r => match x with
        | (name, kind) => if (kind == .free) = true then do let a ← cellOf env name; pure (ForInStep.yield ((name, a) :: r)) else pure (ForInStep.yield r)) = pure (closOf env names acc) := by
    intro names
    induction names with
    | nil => intro acc _; rfl
    | cons x r ih =>
      intro acc hx
      obtain ⟨n, k⟩ := x
      simp only [closOk, List.all_cons, Bool.and_eq_true] at hx
      rw [List.forIn_cons]
      dsimp only
      unfold closOf
      by_cases hk : (k == NameKind.free) = true
      · rw [if_pos hk, if_pos hk]
        rw [hk] at hx
        simp only [Bool.not_true, Bool.false_or] at hx
        obtain ⟨a, ha⟩ := Option.isSome_iff_exists.mp hx.1
        rw [ha]
        have e : cellOf env n = pure a := by unfold cellOf; rw [ha]
        rw [e]
        exact ih _ hx.2
      · rw [if_neg hk, if_neg hk]
        exact ih _ hx.2
  have := key scope.names [] h
  first
    | exact this
    | (simp only [bind_pure_comp, map_pure] at *; exact this)
    | (show (forIn (m := Sem) scope.names [] _ >>= fun cs => pure cs) = _
       rw [bind_pure]; exact this)

theorem closOf_lookup (env : Env) : ∀ (names : List (Str × NameKind)) (acc : List (Str × Addr)) (y : Str), (∀ e ∈ acc, e.2 = (env.cells.lookup e.1).getD 0) →
    ((y, NameKind.free) ∈ names ∨ ∃ e ∈ acc, e.1 = y) → (closOf env names acc).lookup y = some ((env.cells.lookup y).getD 0)
  | [], acc, y, hacc, h => by
    obtain ⟨e, he, rfl⟩ : ∃ e ∈ acc, e.1 = y := by simpa using h
    clear h
    unfold closOf
    induction acc with
    | nil => cases he
    | cons z r ih =>
      rw [List.lookup_cons]
      cases hz : e.1 == z.1 with
      | true =>
        have : e.1 = z.1 := by simpa using hz
        show some z.2 = _
        rw [hacc z List.mem_cons_self, this]
      | false =>
        rcases List.mem_cons.mp he with rfl | he
        · simp at hz
        · exact ih (fun e he => hacc e (List.mem_cons_of_mem _ he)) he
  | (n, k) :: r, acc, y, hacc, h => by
    unfold closOf
    by_cases hk : (k == NameKind.free) = true
    · rw [if_pos hk]
      refine closOf_lookup env r _ y (fun e he => ?_) ?_
      · rcases List.mem_cons.mp he with rfl | he
        · rfl
        · exact hacc e he
      · rcases h with h | ⟨e, he, h⟩
        · rcases List.mem_cons.mp h with h | h
          · cases h; exact .inr ⟨_, List.mem_cons_self, rfl⟩
          · exact .inl h
        · exact .inr ⟨e, List.mem_cons_of_mem _ he, h⟩
    · rw [if_neg hk]
      refine closOf_lookup env r acc y hacc ?_
      rcases h with h | h
      · rcases List.mem_cons.mp h with h | h
        · cases h; exact absurd rfl hk
        · exact .inl h
      · exact .inr h
theorem lookup_relabel_free {env : Env} : ∀ {names : List (Str × NameKind)} {x : Str}, names.lookup x = some .free →
    (names.map fun (n, k) => if (k == NameKind.free && env.scope.kind == .function && env.kindOf n == some .cell) then (n, NameKind.cell) else (n, k)).lookup x =
      some (if (env.scope.kind == .function && env.kindOf x == some .cell) = true then .cell else .free)
  | [], _, h => by simp at h
  | (n, k) :: r, x, h => by
    have ih := @lookup_relabel_free env r x
    show List.lookup x ((if (k == NameKind.free && env.scope.kind == .function && env.kindOf n == some .cell) = true then (n, NameKind.cell) else (n, k)) :: _) = _
    cases hx : x == n with
    | true =>
      simp only [List.lookup_cons, hx] at h
      have e : x = n := by simpa using hx
      cases h
      subst e
      by_cases hc : (env.scope.kind == .function && env.kindOf x == some .cell) = true
      · have hc' : (NameKind.free == NameKind.free && env.scope.kind == .function && env.kindOf x == some .cell) = true := by simpa using hc
        rw [if_pos hc', if_pos hc]; simp [List.lookup_cons]
      · have hc' : ¬ (NameKind.free == NameKind.free && env.scope.kind == .function && env.kindOf x == some .cell) = true := by simpa using hc
        rw [if_neg hc', if_neg hc]; simp [List.lookup_cons]
    | false =>
      simp only [List.lookup_cons, hx] at h
      by_cases hc : (k == NameKind.free && env.scope.kind == .function && env.kindOf n == some .cell) = true
      · rw [if_pos hc]; simp only [List.lookup_cons, hx]; exact ih h
      · rw [if_neg hc]; simp only [List.lookup_cons, hx]; exact ih h
theorem mem_of_lookup' {α : Type} : ∀ {l : List (Str × α)} {n : Str} {c : α}, l.lookup n = some c → (n, c) ∈ l := mem_of_lookup

/-- may a comprehension see this name of the frame around it -/
noncomputable def capOk (env : Env) (scope : Scope) (y : Str) : Bool := (scope.names.lookup y == some .free) && (env.kindOf y == some .cell || env.kindOf y == some .free) && !(y == ("__classdict__" : Str))

/-- tests of a comprehension -/
structure Trs (c : Cx) (ρ : List (Str × PV)) (ifs : List Expr) (b : Bool) : Prop where
  run : ∀ (s : Shared) (Q : Bool → Shared → Prop) (E : Value → Shared → Prop), Sit c ρ s → (∀ s', Kp s s' → Q b s') →
    wpAny (model pg c.w) c.A (forIn ifs true fun t r => if r = true then do let ok ← isTrue t c.env (eval t c.env); pure (ForInStep.yield ok) else pure (ForInStep.yield r)) Q E s
section
variable {c : Cx} {ρ : List (Str × PV)}
theorem Trs.nil : Trs c ρ [] true := .mk fun s Q E S hQ => wpAny_tests_nil (hQ s (.refl s))
theorem Trs.one {t : Expr} {b : Bool} (h : Tr c ρ t b) : Trs c ρ [t] b := .mk fun s Q E S hQ => wpAny_tests_one (h.run s _ _ S hQ)

/-- the frame of a comprehension -/
noncomputable abbrev Cx.comp (c : Cx) (scope : Scope) (C : Addr) : Cx := { c with env := compEnvC scope (closOf c.env scope.names []) C c.env }

theorem comp_sit {scope : Scope} {x : Str} {p : PV} {v : Value} {ρ' : List (Str × PV)} {xs : List PV} {s s₂ s₃ : Shared} {I C : Addr} {fp : List Addr} {P : Nat → Value → Prop} {St : Nat → Heap → Prop} {m : Str → Option Value}
    (S : Sit c ρ s) {bb : Bool} (T : Itr c bb xs s s₂ I fp P St) (hok : closOk c.env scope.names = true) (hkind : scope.kind = .function) (hx : scope.names.lookup x = some .local) (hd : (x == ("__debug__" : Str)) = false)
    (hsub : ∀ e ∈ ρ', e ∈ ρ) (hcap : (ρ'.map (·.1)).all (capOk c.env scope) = true)
    (hv : Rep c.H s₂.heap p v) (hn : s₃.heap.Ns C m) (hm : m x = some v) (hk : ∀ b o, b ∉ [I] → s₂.heap.get? b = some o → s₃.heap.get? b = some o) : Sit (c.comp scope C) ((x, p) :: ρ') s₃ := by
  have k2 := T.kp.get
  have hI : ∀ b o, s.heap.get? b = some o → s₃.heap.get? b = some o := fun b o e => hk b o (fun hb => by rw [List.mem_singleton.mp hb, T.new] at e; cases e) (k2 b o e)
  have hsk : SK c.H s₂.heap s₃.heap := fun b o _ ⟨ys, n, hd⟩ e => hk b o (fun hb => by rw [List.mem_singleton.mp hb] at e; exact T.seq 0 _ T.st o e ys n hd) e
  refine ⟨⟨let ⟨o, e⟩ := S.gd.tbe; ⟨o, hI _ _ e⟩, fun b o hb e => hI b o (S.gd.keep b o hb e)⟩, fun a ha => let ⟨o, e⟩ := S.hid a ha; ⟨o, hI a o e⟩, by simp [Cx.comp, compEnvC, relabel, hkind], S.gl, S.bl, fun e he => ?_, S.hh, S.ru, S.rd, fun e he => hI _ _ (S.fx e he)⟩
  rcases List.mem_cons.mp he with rfl | he
  · exact ⟨v, ⟨hd, .inl ⟨lookup_relabel_local hx, m, hn, hm⟩⟩, Rep.sk hsk _ _ hv⟩
  · obtain ⟨v', hh, hr⟩ := S.vars e (hsub e he)
    have hc := List.all_eq_true.mp hcap e.1 (List.mem_map.mpr ⟨e, he, rfl⟩)
    simp only [capOk, Bool.and_eq_true, Bool.or_eq_true, beq_iff_eq, Bool.not_eq_true'] at hc
    obtain ⟨⟨hfree, hkd⟩, hcd⟩ := hc
    refine ⟨v', ⟨hh.1, ?_⟩, Rep.sk (.of_keep hI) _ _ hr⟩
    have hkind' : (c.comp scope C).env.kindOf e.1 = some (if (c.env.scope.kind == .function && c.env.kindOf e.1 == some .cell) = true then .cell else .free) := lookup_relabel_free hfree
    have hlk : ∀ a, c.env.cells.lookup e.1 = some a → (c.comp scope C).env.cells.lookup e.1 = some a := fun a ha => by
      show (closOf c.env scope.names []).lookup e.1 = _
      rw [closOf_lookup c.env scope.names [] e.1 (by simp) (.inl (mem_of_lookup' hfree)), ha]; rfl
    rcases hh.2 with ⟨hl, _⟩ | ⟨hl, a, ha, hv⟩ | ⟨hl, hn', a, ha, hv⟩
    · rw [hl] at hkd; simp at hkd
    · rw [hl, S.fn] at hkind'
      exact .inr (.inl ⟨by simpa using hkind', a, hlk a ha, hv.keeps hI⟩)
    · rw [hl, S.fn] at hkind'
      exact .inr (.inr ⟨by simpa using hkind', hn', a, hlk a ha, hv.keeps hI⟩)

theorem reps_of_get {H : List Addr} {h : Heap} : ∀ {xs : List PV} {vs : List Value}, vs.length = xs.length → (∀ (j : Nat) (v : Value), vs[j]? = some v → ∃ x, xs[j]? = some x ∧ Rep H h x v) → Reps H h xs vs
  | [], [], _, _ => rfl
  | [], v :: vs, h, _ => by simp at h
  | x :: xs, [], h, _ => by simp at h
  | x :: xs, v :: vs, h, hg => by
    obtain ⟨x', hx, hr⟩ := hg 0 v rfl
    simp at hx; subst hx
    exact ⟨v, vs, rfl, hr, reps_of_get (by simpa using h) fun j u hj => by simpa using hg (j + 1) u (by simpa using hj)⟩
theorem comp_out {H : List Addr} {h : Heap} {p : Value → Bool} {F : Value → Value → Prop} {q : PV → Bool} {f : PV → PV} : ∀ {xs : List PV} {vs us : List Value}, Reps H h xs vs → (∀ y v, y ∈ xs → Rep H h y v → p v = q y) →
    (∀ y v u, y ∈ xs → Rep H h y v → F v u → flt (f y) = true ∧ Rep H h (f y) u) → Paired F (vs.filter p) us → (((xs.filter q).map f).all flt = true) ∧ Reps H h ((xs.filter q).map f) us
  | [], vs, us, r, _, _, hF => by
    rw [show vs = [] from r] at hF
    cases hF
    exact ⟨rfl, rfl⟩
  | x :: xs, vs, us, r, hp, hf, hF => by
    obtain ⟨v, vs', rfl, h1, h2⟩ := r
    have hpv := hp x v List.mem_cons_self h1
    cases hqx : q x with
    | false =>
      rw [hqx] at hpv
      rw [List.filter_cons_of_neg (by simp [hpv])] at hF
      rw [List.filter_cons_of_neg (by simp [hqx])]
      exact comp_out h2 (fun y v hy => hp y v (List.mem_cons_of_mem _ hy)) (fun y v u hy => hf y v u (List.mem_cons_of_mem _ hy)) hF
    | true =>
      rw [hqx] at hpv
      rw [List.filter_cons_of_pos hpv] at hF
      rw [List.filter_cons_of_pos hqx]
      cases hF with
      | cons h3 h4 =>
        obtain ⟨g1, g2⟩ := hf x v _ List.mem_cons_self h1 h3
        obtain ⟨g3, g4⟩ := comp_out h2 (fun y v hy => hp y v (List.mem_cons_of_mem _ hy)) (fun y v u hy => hf y v u (List.mem_cons_of_mem _ hy)) h4
        exact ⟨by simp only [List.map_cons, List.all_cons, g1, g3, Bool.and_self], _, _, rfl, g2, g4⟩
theorem reps_flat {H H' : List Addr} {h h' : Heap} : ∀ {xs : List PV} {vs : List Value}, xs.all flt = true → Reps H h xs vs → Reps H' h' xs vs
  | [], _, _, r => r
  | x :: xs, _, hx, r => by
    obtain ⟨v, vs, rfl, h1, h2⟩ := r
    simp only [List.all_cons, Bool.and_eq_true] at hx
    exact ⟨v, vs, rfl, h1.flat hx.1, reps_flat hx.2 h2⟩

theorem Ev.comp {elt iter : Expr} {x : Str} {px : Pos} {ifs : List Expr} {scope : Scope} {pos : Pos} {ρ' : List (Str × PV)} {xs : List PV} (q : PV → Bool) (f : PV → PV)
    {bb : Bool} (hit : It c ρ bb iter xs) (hok : closOk c.env scope.names = true) (hcell : scope.names.all (fun y => !(y.2 == .cell)) = true) (hkind : scope.kind = .function)
    (hnames : scope.names.all (fun y => !(y.2 == .local) || (scope.names.lookup y.1 == some .local)) = true) (hx : scope.names.lookup x = some .local) (hd : (x == ("__debug__" : Str)) = false)
    (hsub : ∀ e ∈ ρ', e ∈ ρ) (hcap : (ρ'.map (·.1)).all (capOk c.env scope) = true) (hno : noObjs xs = true) (hsz : xs.length ≤ 65536)
    (hq : ∀ y, y ∈ xs → ∀ C, Trs (c.comp scope C) ((x, y) :: ρ') ifs (q y))
    (hf : ∀ y, y ∈ xs → q y = true → flt (f y) = true ∧ ∀ C, Ev (c.comp scope C) ((x, y) :: ρ') elt (f y))
    (hs : ∀ v, foldedSetIterable iter c.env v = pure v := by intro _; kernel_rfl) :
    Ev c ρ (.ListComp elt [⟨.Name x px, iter, ifs, 0⟩] scope pos) (.list ((xs.filter q).map f)) := .mk fun s Q E S hQ => by
  classical
  have hcell' : ∀ y ∈ scope.names, y.2 ≠ .cell := fun y hy e => by
    have := List.all_eq_true.mp hcell y hy
    rw [e] at this; simp at this
  have hnames' : ∀ y ∈ scope.names, y.2 = .local → scope.names.lookup y.1 = some .local := fun y hy e => by
    have := List.all_eq_true.mp hnames y hy
    rw [e] at this
    simpa using this
  rw [eval_ListComp]
  refine wpAny_comprehension_free (use := none) rfl hs (closureFor_eq scope c.env hok) hkind hnames' (hit.run s _ _ S fun s₂ I fp P St T => ?_)
  have uniq : ∀ y z v, y ∈ xs → z ∈ xs → Rep c.H s₂.heap y v → Rep c.H s₂.heap z v → y = z := fun y z v hy hz ry rz => Rep.inj y z v (noObj_of_mem hno hy) (noObj_of_mem hno hz) ry rz
  let p : Value → Bool := fun v => decide (∃ y, y ∈ xs ∧ Rep c.H s₂.heap y v ∧ q y = true)
  let F : Value → Value → Prop := fun v u => ∃ y, y ∈ xs ∧ Rep c.H s₂.heap y v ∧ flt (f y) = true ∧ Rep c.H s₂.heap (f y) u
  have hp : ∀ y v, y ∈ xs → Rep c.H s₂.heap y v → p v = q y := fun y v hy r => by
    cases hqy : q y with
    | true => exact decide_eq_true ⟨y, hy, r, hqy⟩
    | false =>
      refine decide_eq_false fun ⟨z, hz, rz, hqz⟩ => ?_
      rw [uniq y z v hy hz r rz, hqz] at hqy; cases hqy
  refine comp_block_walkC (RR := fun acc C => compPost (model pg c.w) c.A E none Q acc C) T.walks (by simp [sizeLine]; omega) p F hcell' hkind hx T.st T.lt ⟨?_, ?_⟩ ?_
  · intro C i v s₃ m₃ E' hC hP hn hm hk _
    obtain ⟨y, hy, hr⟩ := T.item i v hP
    have hmem := List.mem_of_getElem? hy
    refine (hq y hmem C).run s₃ _ E' (comp_sit S T hok hkind hx hd hsub hcap hr hn hm hk) fun s' k => ⟨(hp y v hmem hr).symm, k.keeps⟩
  · intro C i v s₃ m₃ E' hC hP hpv hn hm hk _
    obtain ⟨y, hy, hr⟩ := T.item i v hP
    have hmem := List.mem_of_getElem? hy
    rw [hp y v hmem hr] at hpv
    obtain ⟨h1, h2⟩ := hf y hmem hpv
    exact (h2 C).run s₃ _ E' (comp_sit S T hok hkind hx hd hsub hcap hr hn hm hk) fun u s' k hu => ⟨⟨y, hmem, hr, h1, hu.flat h1⟩, k.keeps⟩
  · intro D C h' tk m' ys vs hD hC hDC hn hl hpl hlen hP hF hk
    have keep : ∀ h'', Heap.SameBut C h' h'' → ∀ b o, s.heap.get? b = some o → h''.get? b = some o := fun h'' hs'' b o e => by
      have e2 := T.kp.get b o e
      refine hs''.extBut b o (by rintro rfl; rw [hC] at e2; cases e2) (hk b o (fun hb => by rw [List.mem_singleton.mp hb, T.new] at e; cases e) e2)
    have hxv : Reps c.H s₂.heap xs vs := reps_of_get hlen fun j v hv => T.item j v (hP j v hv)
    have hys := comp_out (p := p) (F := F) (q := q) (f := f) hxv (fun y v hy hr => hp y v hy hr) (fun y v u hy hr hF => by
      obtain ⟨z, hz, rz, hfl, ru⟩ := hF
      rw [uniq y z v hy hz hr rz]; exact ⟨hfl, ru⟩) hF
    refine ⟨m', hn, fun h'' hs'' => hQ _ _ ?_ ?_⟩
    · obtain ⟨k, h₂, tk₂, rfl⟩ := T.kp
      exact .of s (keep h'' hs'')
    · refine ⟨D, ys, rfl, fun hm => ?_, hl.extBut hs''.extBut hDC, ?_, reps_flat hys.1 hys.2⟩
      · obtain ⟨o, e⟩ := S.hid D hm
        rw [T.kp.get _ _ e] at hD; cases hD
      · have h1 := hys.2.length
        have h2 : ((xs.filter q).map f).length ≤ xs.length := by simpa using List.length_filter_le q xs
        simp only [Array.length_toList] at h1
        omega
end
end Mine

end
section
open PySem PySem.W PyProof.Rows PySem.Calls
set_option Elab.async false
set_option maxRecDepth 100000
set_option linter.all false
namespace Mine

/-- a list of the frame's own that is being written: the name, the address, the items -/
structure Mu where
  x : Str
  D : Addr
  pl : Bool
  xs : List PV
noncomputable def Cx.hide (c : Cx) (μ : List Mu) : Cx := { c with H := μ.map (·.D) ++ c.H }
noncomputable def own (c : Cx) (μ : List Mu) (b : Addr) : Prop := b = c.env.locals ∨ (∃ n, c.env.cells.lookup n = some b) ∨ b ∈ μ.map (·.D)
noncomputable def muList (μ : List Mu) : List (Str × PV) := μ.map fun e => (e.x, .list e.xs)

theorem PlainL.at {h h' : Heap} {a : Addr} {its : Array Value} (x : PlainL h a its) (k : ∀ o, h.get? a = some o → h'.get? a = some o) : PlainL h' a its := let ⟨o, n, e, r⟩ := x; ⟨o, n, k o e, r⟩
/-- a state in the course of a call's body -/
structure Act (c : Cx) (K : Shared) (μ : List Mu) (ρ : List (Str × PV)) (s : Shared) : Prop where
  sit : Sit (c.hide μ) ρ s
  mus : ∀ e ∈ μ, ∃ its, s.heap.IsList e.D its ∧ (e.pl = true → PlainL s.heap e.D its) ∧ its.size ≤ 65536 ∧ Reps (c.hide μ).H s.heap e.xs its.toList
  ns : ∃ m, s.heap.Ns c.env.locals m
  cell : ∀ n a, c.env.cells.lookup n = some a → ∃ v, s.heap.IsCell a v
  apart : c.env.cells.Pairwise fun x y => x.2 ≠ y.2
  above : ∀ n a, (n, a) ∈ c.env.cells → c.env.locals < a
  h1 : ∀ b, own c μ b → (H1 c.w.params).get? b = none ∧ b ≠ tb
  keep : ∀ b o, ¬ own c μ b → K.heap.get? b = some o → s.heap.get? b = some o
  same : ∃ h tk, s = { K with heap := h, toks := tk }
  fo : ∀ e ∈ c.fix, ¬ own c μ e.1

theorem Act.kp {c : Cx} {K : Shared} {μ : List Mu} {ρ : List (Str × PV)} {s s' : Shared} (x : Act c K μ ρ s) (k : Kp s s') : Act c K μ ρ s' :=
  ⟨x.sit.keeps k, fun e he => let ⟨its, h1, h2, h3, h4⟩ := x.mus e he; ⟨its, h1.at fun o e => k.get _ _ e, fun hp => PlainL.at (h2 hp) fun o e => k.get _ _ e, h3, Reps.sk (.of_keep k.get) _ _ h4⟩, let ⟨m, hm⟩ := x.ns; ⟨m, hm.keeps k.get⟩,
    fun n a h => let ⟨v, hv⟩ := x.cell n a h; ⟨v, hv.keeps k.get⟩, x.apart, x.above, x.h1, fun b o hb e => k.get _ _ (x.keep b o hb e), sameS x.same k.eq, x.fo⟩
mutual
theorem Rep.less {H H' : List Addr} {h : Heap} (hs : ∀ a, a ∈ H → a ∈ H') : ∀ (p : PV) (v : Value), Rep H' h p v → Rep H h p v
  | .none, _, x => x
  | .bool _, _, x => x
  | .int _, _, x => x
  | .str _, _, x => x
  | .list xs, v, x => by
    obtain ⟨a, items, e, ha, ho, hz, hr⟩ := x
    exact ⟨a, items, e, fun m => ha (hs a m), ho, hz, Reps.less hs xs _ hr⟩
  | .tup xs, v, x => by
    obtain ⟨a, items, e, ha, ho, hz, hr⟩ := x
    exact ⟨a, items, e, fun m => ha (hs a m), ho, hz, Reps.less hs xs _ hr⟩
  | .obj _, _, x => x
theorem Reps.less {H H' : List Addr} {h : Heap} (hs : ∀ a, a ∈ H → a ∈ H') : ∀ (p : List PV) (v : List Value), Reps H' h p v → Reps H h p v
  | [], _, x => x
  | p :: ps, _, x => by
    obtain ⟨v, r, e, h1, h2⟩ := x
    exact ⟨v, r, e, Rep.less hs p v h1, Reps.less hs ps r h2⟩
end
/-- what an expression of the frame may see: the lists that are being written, as they stand, and the rest -/
theorem Act.view {c : Cx} {K : Shared} {μ : List Mu} {ρ : List (Str × PV)} {s : Shared} (x : Act c K μ ρ s) (hH : c.H = []) (hμ : ∀ e ∈ μ, (e.x, PV.obj e.D) ∈ ρ) : Sit c (muList μ ++ ρ) s := by
  have S := x.sit
  have hs : ∀ a, a ∈ c.H → a ∈ (c.hide μ).H := fun a ha => List.mem_append_right _ ha
  refine ⟨S.gd, fun a ha => S.hid a (hs a ha), S.fn, S.gl, S.bl, fun e he => ?_, S.hh, S.ru, S.rd, S.fx⟩
  rcases List.mem_append.mp he with he | he
  · obtain ⟨e', he', rfl⟩ := List.mem_map.mp he
    obtain ⟨v, hv, hr⟩ := S.vars (e'.x, .obj e'.D) (hμ e' he')
    obtain ⟨its, hl, _, hz, ra⟩ := x.mus e' he'
    refine ⟨v, hv, e'.D, its, hr, by rw [hH]; simp, hl, hz, Reps.less hs _ _ ra⟩
  · obtain ⟨v, hv, hr⟩ := S.vars e he
    exact ⟨v, hv, Rep.less hs _ _ hr⟩
theorem Ns.uniq {h : Heap} {a : Addr} {m m' : Str → Option Value} (x : h.Ns a m) (y : h.Ns a m') (n : Str) : m n = m' n := by
  obtain ⟨o, es, ep, g, d, _, f⟩ := x
  obtain ⟨o', es', ep', g', d', _, f'⟩ := y
  rw [g] at g'; cases g'
  rw [d] at d'; cases d'
  rw [← f, ← f']
noncomputable def stOk (env : Env) (x : Str) : Bool := (env.kindOf x == some .local || (env.kindOf x == some .cell && (env.cells.lookup x).isSome)) && !(x == ("__debug__" : Str))

theorem Act.changed {c : Cx} {K : Shared} {μ : List Mu} {ρ : List (Str × PV)} {s : Shared} (x : Act c K μ ρ s) {a : Addr} {h' : Heap} {tk : Nat} {r : List (Str × PV)} (ha : own c [] a) (hs : Heap.SameBut a s.heap h')
    (hseq : ∀ o, s.heap.get? a = some o → ∀ ys n, o.data ≠ .seq ys n) (hex : ∃ o, h'.get? a = some o) (hns : ∃ m, h'.Ns c.env.locals m) (hcell : ∀ n b, c.env.cells.lookup n = some b → ∃ v, h'.IsCell b v)
    (hv : ∀ e ∈ r, ∃ v, Has c.env h' e.1 v ∧ Rep (c.hide μ).H s.heap e.2 v) : Act c K μ r { s with heap := h', toks := tk } := by
  have hk : ∀ b o, b ≠ a → s.heap.get? b = some o → h'.get? b = some o := fun b o hb e => (hs.2 b hb).trans e
  have hsk : SK (c.hide μ).H s.heap h' := fun b o _ ⟨ys, n, hd⟩ e => hk b o (fun hb => by subst hb; exact hseq o e ys n hd) e
  have hown : own c μ a := by rcases ha with h | h | h; exact .inl h; exact .inr (.inl h); simp at h
  have hD : ∀ e ∈ μ, e.D ≠ a := fun e he heq => by
    obtain ⟨its, ⟨o, hl, _, n, hd⟩, _⟩ := x.mus e he
    rw [heq] at hl
    exact hseq _ hl _ _ hd
  refine ⟨⟨⟨let ⟨o, e⟩ := x.sit.gd.tbe; ⟨o, hk _ _ (x.h1 a hown).2.symm e⟩, fun b o hb e => hk b o (fun hba => ?_) (x.sit.gd.keep b o hb e)⟩, fun b hb => ?_, x.sit.fn, x.sit.gl, x.sit.bl, fun e he => ?_, x.sit.hh, x.sit.ru, x.sit.rd, fun e he => hk _ _ (fun h => x.fo e he (h ▸ hown)) (x.sit.fx e he)⟩, fun e he => ?_, hns, hcell, x.apart, x.above, x.h1, fun b o hb e => hk b o (fun hba => hb (hba ▸ hown)) (x.keep b o hb e), ?_, x.fo⟩
  · rw [hba, show (H1 (c.hide μ).w.params).get? a = none from (x.h1 a hown).1] at e; cases e
  · obtain ⟨o, e⟩ := x.sit.hid b hb
    by_cases hba : b = a
    · rw [hba]; exact hex
    · exact ⟨o, hk b o hba e⟩
  · obtain ⟨v, h1, h2⟩ := hv e he
    exact ⟨v, h1, Rep.sk hsk _ _ h2⟩
  · obtain ⟨its, h1, h2, h3, h4⟩ := x.mus e he
    exact ⟨its, h1.at fun o e' => hk _ o (hD e he) e', fun hp => PlainL.at (h2 hp) fun o e' => hk _ o (hD e he) e', h3, Reps.sk hsk _ _ h4⟩
  · exact sameS x.same (sameU _ _ _)

theorem Act.store {c : Cx} {K : Shared} {μ : List Mu} {ρ r : List (Str × PV)} {s : Shared} {x : Str} {p : PV} {v : Value} {Q : Unit → Shared → Prop} {E : Value → Shared → Prop} (X : Act c K μ ρ s) (hr : Rep (c.hide μ).H s.heap p v)
    (hok : stOk c.env x = true) (hsub : ∀ e ∈ r, e ∈ ρ) (hx : (r.map (·.1)).contains x = false) (hQ : ∀ s', Act c K μ ((x, p) :: r) s' → Q () s') :
    wpAny (model pg c.w) c.A (storeName c.env x v) Q E s := by
  simp only [stOk, Bool.and_eq_true, Bool.or_eq_true, beq_iff_eq, Bool.not_eq_true'] at hok
  obtain ⟨hkind, hdbg⟩ := hok
  obtain ⟨m, hn⟩ := X.ns
  have hfn : c.env.scope.kind = .function := X.sit.fn
  have hne : ∀ e ∈ r, e.1 ≠ x := fun e he h => by
    have : (r.map (·.1)).contains x = true := List.contains_iff_mem.mpr (List.mem_map.mpr ⟨e, he, h⟩)
    rw [hx] at this; cases this
  have hold : ∀ e ∈ r, e ∈ ρ := hsub
  rcases hkind with hl | ⟨hl, hsome⟩
  · refine wpAny_storeName_local hl hn (fun h' hn' hs' => hQ _ ?_) (by rw [hfn]; rfl)
    refine X.changed (.inl rfl) hs' ?_ ?_ ⟨_, hn'⟩ ?_ ?_
    · intro o ho ys k hd
      obtain ⟨o', es, ep, g, d, _⟩ := hn
      rw [ho] at g; cases g
      rw [hd] at d; cases d
    · obtain ⟨o', es, ep, g, _⟩ := hn'; exact ⟨o', g⟩
    · intro n b hb
      obtain ⟨v, hv⟩ := X.cell n b hb
      exact ⟨v, hv.sameBut hs' (Nat.ne_of_gt (X.above n b (mem_of_lookup hb)))⟩
    · intro e he
      have : e = (x, p) ∨ e ∈ r := List.mem_cons.mp he
      rcases this with rfl | he
      · exact ⟨v, ⟨hdbg, .inl ⟨hl, _, hn', by simp⟩⟩, hr⟩
      · obtain ⟨u, hu, hru⟩ := X.sit.vars e (hold e he)
        refine ⟨u, ⟨hu.1, ?_⟩, hru⟩
        rcases hu.2 with ⟨h1, m₂, hn₂, hm⟩ | ⟨h1, a, ha, hc⟩ | ⟨h1, h2, a, ha, hc⟩
        · exact .inl ⟨h1, _, hn', by simp only [if_neg (hne e he)]; rw [Ns.uniq hn hn₂]; exact hm⟩
        · exact .inr (.inl ⟨h1, a, ha, hc.sameBut hs' (Nat.ne_of_gt (X.above _ a (mem_of_lookup ha)))⟩)
        · exact .inr (.inr ⟨h1, h2, a, ha, hc.sameBut hs' (Nat.ne_of_gt (X.above _ a (mem_of_lookup ha)))⟩)
  · obtain ⟨a, ha⟩ := Option.isSome_iff_exists.mp hsome
    obtain ⟨v₀, hv₀⟩ := X.cell x a ha
    have hLa := X.above x a (mem_of_lookup ha)
    refine wpAny_storeName_cell hfn hl ha hv₀ fun h' hc' hs' => hQ _ ?_
    refine X.changed (.inr (.inl ⟨x, ha⟩)) hs' ?_ ?_ ⟨m, hn.sameBut hs' (Nat.ne_of_lt hLa)⟩ ?_ ?_
    · intro o ho ys k hd
      obtain ⟨o', g, d⟩ := hv₀
      rw [ho] at g; cases g
      rw [hd] at d; cases d
    · obtain ⟨o', g, _⟩ := hc'; exact ⟨o', g⟩
    · intro n b hb
      by_cases hba : b = a
      · rw [hba]; exact ⟨_, hc'⟩
      · obtain ⟨v, hv⟩ := X.cell n b hb
        exact ⟨v, hv.sameBut hs' hba⟩
    · intro e he
      have : e = (x, p) ∨ e ∈ r := List.mem_cons.mp he
      rcases this with rfl | he
      · exact ⟨v, ⟨hdbg, .inr (.inl ⟨hl, a, ha, hc'⟩)⟩, hr⟩
      · obtain ⟨u, hu, hru⟩ := X.sit.vars e (hold e he)
        refine ⟨u, ⟨hu.1, ?_⟩, hru⟩
        have hother : ∀ b, c.env.cells.lookup e.1 = some b → b ≠ a := fun b hb hba => hne e he (name_of_addr X.apart (mem_of_lookup (hba ▸ hb)) (mem_of_lookup ha))
        rcases hu.2 with ⟨h1, m₂, hn₂, hm⟩ | ⟨h1, b, hb, hc⟩ | ⟨h1, h2, b, hb, hc⟩
        · exact .inl ⟨h1, m₂, hn₂.sameBut hs' (Nat.ne_of_lt hLa), hm⟩
        · exact .inr (.inl ⟨h1, b, hb, hc.sameBut hs' (hother b hb)⟩)
        · exact .inr (.inr ⟨h1, h2, b, hb, hc.sameBut hs' (hother b hb)⟩)
end Mine

end
section
open PySem PySem.W PyProof.Rows PySem.Calls
set_option Elab.async false
set_option maxRecDepth 100000
set_option linter.all false
namespace Mine

/-- a row of statements, and what holds behind it -/
structure Bd (c : Cx) (K : Shared) (μ : List Mu) (ρ : List (Str × PV)) (body : List Stmt) (Q : Flow → Shared → Prop) : Prop where
  run : ∀ (s : Shared) (E : Value → Shared → Prop), Act c K μ ρ s → wpAny (model pg c.w) c.A (execs body c.env) Q E s
noncomputable def cont (c : Cx) (rest : List Stmt) (Q : Flow → Shared → Prop) : Flow → Shared → Prop := fun f s' => match f with
  | .next => ∀ E : Value → Shared → Prop, wpAny (model pg c.w) c.A (execs rest c.env) Q E s'
  | f => Q f s'
/-- what may be stored besides the lists that are being written -/
noncomputable def sto (p : PV) (μ : List Mu) : Bool := flt p || μ.isEmpty

section
variable {c : Cx} {K : Shared} {μ : List Mu} {ρ : List (Str × PV)} {Q : Flow → Shared → Prop}

theorem Bd.mono {body : List Stmt} {Q' : Flow → Shared → Prop} (h : Bd c K μ ρ body Q) (hq : ∀ f s, Q f s → Q' f s) : Bd c K μ ρ body Q' := .mk fun s E X => wpAny_mono (h.run s E X) hq fun _ _ e => e
theorem Bd.nil (h : ∀ s, Act c K μ ρ s → Q .next s) : Bd c K μ ρ [] Q := .mk fun s E X => wpAny_execs_nil (h s X)
/-- a statement, then the rest -/
theorem Bd.seq {st : Stmt} {rest : List Stmt} (h : ∀ s E, Act c K μ ρ s → wpAny (model pg c.w) c.A (exec st c.env) (cont c rest Q) E s) : Bd c K μ ρ (st :: rest) Q := .mk fun s E X =>
  wpAny_execs_cons (wpAny_mono (h s E X) (fun f s' hq => by
    cases f with
    | next => exact hq E
    | _ => exact hq) fun _ _ e => e)
theorem Rep.stored {c : Cx} {μ : List Mu} {h : Heap} {p : PV} {v : Value} (hp : sto p μ = true) (r : Rep c.H h p v) : Rep (c.hide μ).H h p v := by
  simp only [sto, Bool.or_eq_true, List.isEmpty_iff] at hp
  rcases hp with hp | rfl
  · exact r.flat hp
  · exact r

theorem Bd.assign {x : Str} {px : Pos} {e : Expr} {pos : Pos} {rest : List Stmt} {p : PV} {r : List (Str × PV)} (hH : c.H = []) (hμ : ∀ e ∈ μ, (e.x, PV.obj e.D) ∈ ρ) (he : Ev c (muList μ ++ ρ) e p) (hp : sto p μ = true) (hok : stOk c.env x = true) (hsub : ∀ e ∈ r, e ∈ ρ)
    (hx : (r.map (·.1)).contains x = false) (k : Bd c K μ ((x, p) :: r) rest Q) (hs : swapsWith e (some (.Name x px)) pos.line c.env = pure false := by kernel_rfl) : Bd c K μ ρ (.Assign [.Name x px] e pos :: rest) Q :=
  Bd.seq fun s E X => wpAny_Assign_Name (he.run s _ _ (X.view hH hμ) fun v s₁ k₁ r₁ => (X.kp k₁).store (r₁.stored hp) hok hsub hx fun s' X' E' => k.run s' E' X') hs
theorem Bd.let {x : Str} {px : Pos} {e : Expr} {pos : Pos} {rest : List Stmt} {p : PV} (hH : c.H = []) (hμ : ∀ e ∈ μ, (e.x, PV.obj e.D) ∈ ρ) (hok : stOk c.env x = true) (hx : (ρ.map (·.1)).contains x = false) (hs : swapsWith e (some (.Name x px)) pos.line c.env = pure false)
    (he : Ev c (muList μ ++ ρ) e p) (hp : sto p μ = true) (k : Bd c K μ ((x, p) :: ρ) rest Q) : Bd c K μ ρ (.Assign [.Name x px] e pos :: rest) Q :=
  Bd.assign hH hμ he hp hok (fun _ h => h) hx k hs
theorem Bd.ret {e : Expr} {pos : Pos} {rest : List Stmt} {p : PV} (hH : c.H = []) (hμ : ∀ e ∈ μ, (e.x, PV.obj e.D) ∈ ρ) (he : Ev c (muList μ ++ ρ) e p) (k : ∀ v s, Act c K μ ρ s → Rep c.H s.heap p v → Q (.ret v) s) : Bd c K μ ρ (.Return (some e) pos :: rest) Q :=
  Bd.seq fun s E X => wpAny_Return_some (he.run s _ _ (X.view hH hμ) fun v s₁ k₁ r₁ => k v s₁ (X.kp k₁) r₁)
theorem Bd.ite {t : Expr} {body orelse : List Stmt} {pos : Pos} {rest : List Stmt} {b : Bool} (hH : c.H = []) (hμ : ∀ e ∈ μ, (e.x, PV.obj e.D) ∈ ρ) (ht : Tr c (muList μ ++ ρ) t b) (h1 : b = true → Bd c K μ ρ body (cont c rest Q)) (h2 : b = false → Bd c K μ ρ orelse (cont c rest Q)) :
    Bd c K μ ρ (.If t body orelse pos :: rest) Q :=
  Bd.seq fun s E X => wpAny_If (ht.run s _ _ (X.view hH hμ) fun s₁ k₁ => by
    cases b with
    | true => exact (h1 rfl).run s₁ E (X.kp k₁)
    | false => exact (h2 rfl).run s₁ E (X.kp k₁))
/-- at the end of a suite, the rest -/
theorem Bd.cont {rest : List Stmt} (h : Bd c K μ ρ rest Q) : Bd c K μ ρ [] (cont c rest Q) := Bd.nil fun s X E => h.run s E X

/-- from a later state back to the base -/
theorem Act.rebase {K' : Shared} {μ' : List Mu} {ρ' : List (Str × PV)} {s : Shared} (x : Act c K' μ' ρ' s) (y : Act c K μ ρ K') (hμ : μ'.map (·.D) = μ.map (·.D)) : Act c K μ' ρ' s :=
  ⟨x.sit, x.mus, x.ns, x.cell, x.apart, x.above, x.h1, fun b o hb e => x.keep b o hb (y.keep b o (by unfold own at hb ⊢; rwa [← hμ]) e), sameS y.same x.same, x.fo⟩
theorem Act.weak {r : List (Str × PV)} {s : Shared} (x : Act c K μ ρ s) (hsub : ∀ e ∈ r, e ∈ ρ) : Act c K μ r s :=
  ⟨⟨x.sit.gd, x.sit.hid, x.sit.fn, x.sit.gl, x.sit.bl, fun e he => x.sit.vars e (hsub e he), x.sit.hh, x.sit.ru, x.sit.rd, x.sit.fx⟩, x.mus, x.ns, x.cell, x.apart, x.above, x.h1, x.keep, x.same, x.fo⟩
/-- to stand on the present state -/
theorem Act.here {s : Shared} (x : Act c K μ ρ s) : Act c s μ ρ s := ⟨x.sit, x.mus, x.ns, x.cell, x.apart, x.above, x.h1, fun _ _ _ e => e, ⟨s.heap, s.toks, rfl⟩, x.fo⟩


theorem Act.iter {I : Addr} {s : Shared} {h' : Heap} {tk : Nat} (x : Act c K μ ρ s) (hH : c.H = []) (hI : ¬ own c μ I) (hK : K.heap.get? I = none) (h1 : (H1 c.w.params).get? I = none ∧ I ≠ tb) (hfx : ∀ e ∈ c.fix, e.1 ≠ I)
    (hseq : ∀ o, s.heap.get? I = some o → ∀ ys n, o.data ≠ .seq ys n) (k : ∀ b o, b ∉ [I] → s.heap.get? b = some o → h'.get? b = some o) : Act c K μ ρ { s with heap := h', toks := tk } := by
  have hk : ∀ b o, b ≠ I → s.heap.get? b = some o → h'.get? b = some o := fun b o hb e => k b o (fun hm => hb (List.mem_singleton.mp hm)) e
  have hsk : SK (c.hide μ).H s.heap h' := fun b o _ ⟨ys, n, hd⟩ e => hk b o (fun hb => by subst hb; exact hseq o e ys n hd) e
  have hL : c.env.locals ≠ I := fun e => hI (.inl e.symm)
  have hC : ∀ n a, c.env.cells.lookup n = some a → a ≠ I := fun n a h e => hI (.inr (.inl ⟨n, e ▸ h⟩))
  have hD : ∀ e ∈ μ, e.D ≠ I := fun e he h => hI (.inr (.inr (List.mem_map.mpr ⟨e, he, h⟩)))
  have hcell : ∀ n a v, c.env.cells.lookup n = some a → s.heap.IsCell a v → h'.IsCell a v := fun n a v h ⟨o, ho, hd⟩ => ⟨o, hk a o (hC n a h) ho, hd⟩
  refine ⟨⟨⟨let ⟨o, e⟩ := x.sit.gd.tbe; ⟨o, hk _ _ h1.2.symm e⟩, fun b o hb e => hk b o (fun hba => ?_) (x.sit.gd.keep b o hb e)⟩, fun b hb => ?_, x.sit.fn, x.sit.gl, x.sit.bl, fun e he => ?_, x.sit.hh, x.sit.ru, x.sit.rd, fun e he => hk _ _ (hfx e he) (x.sit.fx e he)⟩, fun e he => ?_, ?_, fun n a h => ?_, x.apart, x.above, x.h1, fun b o hb e => ?_, ?_, x.fo⟩
  · rw [hba, show (H1 (c.hide μ).w.params).get? I = none from h1.1] at e; cases e
  · obtain ⟨o, e⟩ := x.sit.hid b hb
    refine ⟨o, hk b o (fun hbI => ?_) e⟩
    rcases List.mem_append.mp hb with hb | hb
    · exact hI (.inr (.inr (hbI ▸ hb)))
    · rw [hH] at hb; cases hb
  · obtain ⟨v, h1, h2⟩ := x.sit.vars e he
    refine ⟨v, ⟨h1.1, ?_⟩, Rep.sk hsk _ _ h2⟩
    rcases h1.2 with ⟨g1, m, hn, hm⟩ | ⟨g1, a, ha, hc⟩ | ⟨g1, g2, a, ha, hc⟩
    · exact .inl ⟨g1, m, hn.at' fun o e => hk _ o hL e, hm⟩
    · exact .inr (.inl ⟨g1, a, ha, hcell _ _ _ ha hc⟩)
    · exact .inr (.inr ⟨g1, g2, a, ha, hcell _ _ _ ha hc⟩)
  · obtain ⟨its, g1, g2, g3, g4⟩ := x.mus e he
    exact ⟨its, g1.at fun o e' => hk _ o (hD e he) e', fun hp => PlainL.at (g2 hp) fun o e' => hk _ o (hD e he) e', g3, Reps.sk hsk _ _ g4⟩
  · obtain ⟨m, hm⟩ := x.ns
    exact ⟨m, hm.at' fun o e => hk _ o hL e⟩
  · obtain ⟨v, hv⟩ := x.cell n a h
    exact ⟨v, hcell _ _ _ h hv⟩
  · refine hk b o (fun hb => ?_) (x.keep b o hb e)
    rw [hb, hK] at e; cases e
  · exact sameS x.same (sameU _ _ _)

/-- a for loop over known items. σ: what is carried; Inv i t: what is known of it ahead of turn i; μo, ρo: how the frame stands -/
theorem Bd.for {σ : Type} {bb : Bool} {x : Str} {px pos : Pos} {iter : Expr} {body rest : List Stmt} {xs : List PV} (Inv : Nat → σ → Prop) (μo : σ → List Mu) (ρo : σ → List (Str × PV)) (t₀ : σ) (hH : c.H = []) (hμ : ∀ e ∈ μ, (e.x, PV.obj e.D) ∈ ρ) 
    (hit : It c (muList μ ++ ρ) bb iter xs) (hbb : bb = true ∨ μ = []) (h0 : Inv 0 t₀) (hμ0 : μo t₀ = μ) (hρ0 : ∀ e ∈ ρo t₀, e ∈ ρ) (hD : ∀ t, (μo t).map (·.D) = μ.map (·.D))
    (hok : stOk c.env x = true) (hx : ∀ t, ((ρo t).map (·.1)).contains x = false) (hst : ∀ y ∈ xs, sto y μ = true)
    (turn : ∀ i y t K', xs[i]? = some y → Inv i t → Bd c K' (μo t) ((x, y) :: ρo t) body (fun f s' => match f with
      | .next | .cont => ∃ t', Inv (i + 1) t' ∧ Act c K' (μo t') (ρo t') s'
      | .brk => False
      | .ret v => ∃ t' ρ', Act c K' (μo t') ρ' s' ∧ (Act c K (μo t') ρ' s' → Q (.ret v) s')))
    (fin : ∀ t, Inv xs.length t → Bd c K (μo t) (ρo t) rest Q)
    (hs : ∀ v, foldedSetIterable iter c.env v = pure v := by intro _; kernel_rfl) : Bd c K μ ρ (.For (.Name x px) iter body [] pos :: rest) Q := Bd.seq fun s E X => by
  refine wpAny_For (hit.run s _ _ (X.view hH hμ) fun s₂ I fp P St T => ?_) hs
  have hown : ∀ t b, own c (μo t) b ↔ own c μ b := fun t b => by unfold own; rw [hD t]
  have hIown : ¬ own c μ I := by
    rintro (h | ⟨n, h⟩ | h)
    · obtain ⟨m, o, es, ep, g, _⟩ := X.ns
      rw [← h, T.new] at g; cases g
    · obtain ⟨v, o, g, _⟩ := X.cell n I h
      rw [T.new] at g; cases g
    · obtain ⟨e, he, rfl⟩ := List.mem_map.mp h
      obtain ⟨its, ⟨o, g, _⟩, _⟩ := X.mus e he
      rw [T.new] at g; cases g
  have hfp : ∀ a ∈ fp, ¬ own c μ a := by
    intro a ha
    rcases T.fps a ha with rfl | ⟨o, ys, n, ho, hd⟩
    · exact hIown
    · rintro (h | ⟨n', h⟩ | h)
      · obtain ⟨m, o', es, ep, g, d, _⟩ := X.ns
        rw [h] at ho
        rw [T.kp.get _ _ g] at ho; cases ho
        rw [hd] at d; cases d
      · obtain ⟨v, o', g, d⟩ := X.cell n' a h
        rw [T.kp.get _ _ g] at ho; cases ho
        rw [hd] at d; cases d
      · rcases hbb with hbb | rfl
        · have : a = I := by have := T.solo hbb; rw [this] at ha; exact List.mem_singleton.mp ha
          subst this; exact hIown (.inr (.inr h))
        · simp at h
  have hKI : K.heap.get? I = none := by
    cases g : K.heap.get? I with
    | none => rfl
    | some o =>
      have := X.keep I o hIown g
      rw [T.new] at this; cases this
  have hItb : I ≠ tb := fun h => by
    obtain ⟨o, e⟩ := X.sit.gd.tbe
    rw [← h, T.new] at e; cases e
  have h1I' : (H1 c.w.params).get? I = none := by
    cases g : (H1 c.w.params).get? I with
    | none => rfl
    | some o =>
      have := X.sit.gd.keep I o hItb g
      rw [show s.heap.get? I = none from T.new] at this; cases this
  have h1I : (H1 c.w.params).get? I = none ∧ I ≠ tb := ⟨h1I', hItb⟩
  have hfxI : ∀ e ∈ c.fix, e.1 ≠ I := fun e he h => by
    have := X.sit.fx e he
    rw [h, show s.heap.get? I = none from T.new] at this; cases this
  have X₂ : Act c K (μo t₀) (ρo t₀) s₂ := by rw [hμ0]; exact (X.kp T.kp).weak hρ0
  have hseqOwn : ∀ b o ys n, μ = [] → s₂.heap.get? b = some o → o.data = .seq ys n → ¬ own c μ b := by
    rintro b o ys n rfl ho hd (h | ⟨n', h⟩ | h)
    · obtain ⟨m, o', es, ep, g, d, _⟩ := X.ns
      rw [h] at ho
      rw [T.kp.get _ _ g] at ho; cases ho
      rw [hd] at d; cases d
    · obtain ⟨v, o', g, d⟩ := X.cell n' b h
      rw [T.kp.get _ _ g] at ho; cases ho
      rw [hd] at d; cases d
    · simp at h
  refine codeAny_forLoop (fun k s' => ∃ i t, Inv i t ∧ i ≤ xs.length ∧ k = xs.length + 1 - i ∧ St i s'.heap ∧ Act c K (μo t) (ρo t) s' ∧ (∀ b o, ¬ own c μ b → b ≠ I → s₂.heap.get? b = some o → s'.heap.get? b = some o)) ?_ (xs.length + 1)
    ⟨0, t₀, h0, Nat.zero_le _, rfl, T.st, X₂, fun _ _ _ _ e => e⟩
  rintro k s' ⟨i, t, hInv, hi, rfl, hst', X', hkp⟩
  have hIt : ¬ own c (μo t) I := fun h => hIown ((hown t I).mp h)
  by_cases hlt : i < xs.length
  · refine T.walks.item i _ _ _ hlt hst' fun v h' tk hP hst1 hk => ?_
    obtain ⟨y, hy, hr⟩ := T.item i v hP
    have X₁ := X'.iter (tk := tk) hH hIt hKI h1I hfxI (T.seq i _ hst') hk
    have hkp1 : ∀ b o, ¬ own c μ b → b ≠ I → s₂.heap.get? b = some o → h'.get? b = some o := fun b o hb hbI e => hk b o (fun hm => hbI (List.mem_singleton.mp hm)) (hkp b o hb hbI e)
    have hry : Rep (c.hide (μo t)).H h' y v := by
      have hsy := hst y (List.mem_of_getElem? hy)
      simp only [sto, Bool.or_eq_true, List.isEmpty_iff] at hsy
      rcases hsy with hsy | hμ
      · exact hr.flat hsy
      · have hD0 : (μo t).map (·.D) = [] := by rw [hD t, hμ]; rfl
        have : (c.hide (μo t)).H = c.H := by unfold Cx.hide; rw [hD0]; rfl
        rw [this]
        refine Rep.sk (fun b o _ ⟨ys, n, hd⟩ e => hkp1 b o (hseqOwn b o ys n hμ e hd) (fun hbI => ?_) e) _ _ hr
        subst hbI
        exact T.seq 0 _ T.st o e ys n hd
    refine wpAny_assign_Name (X₁.here.store hry hok (fun e he => he) (hx t) fun s₃ X₃ => ?_)
    have next : ∀ s₄ t', Inv (i + 1) t' → Act c { s' with heap := h', toks := tk } (μo t') (ρo t') s₄ → ∃ m, m < xs.length + 1 - i ∧ ∃ i t, Inv i t ∧ i ≤ xs.length ∧ m = xs.length + 1 - i ∧ St i s₄.heap ∧ Act c K (μo t) (ρo t) s₄ ∧
        (∀ b o, ¬ own c μ b → b ≠ I → s₂.heap.get? b = some o → s₄.heap.get? b = some o) := fun s₄ t' hInv' X₄ =>
      ⟨xs.length + 1 - (i + 1), by omega, i + 1, t', hInv', hlt, rfl, T.walks.frame _ _ _ hst1 fun b hb o e => X₄.keep b o (fun h => hfp b hb ((hown t' b).mp h)) e, X₄.rebase X₁ (by rw [hD t', hD t]),
        fun b o hb hbI e => X₄.keep b o (fun h => hb ((hown t' b).mp h)) (hkp1 b o hb hbI e)⟩
    refine wpAny_mono ((turn i y t _ hy hInv).run s₃ _ X₃) (fun f s₄ hq => ?_) fun _ _ e => e
    cases f with
    | next => obtain ⟨t', hInv', X₄⟩ := hq; exact next s₄ t' hInv' X₄
    | cont => obtain ⟨t', hInv', X₄⟩ := hq; exact next s₄ t' hInv' X₄
    | brk => exact hq.elim
    | ret v =>
      obtain ⟨t', ρ', X₄, hQ⟩ := hq
      exact hQ (X₄.rebase X₁ (by rw [hD t', hD t]))
  · obtain rfl : i = xs.length := by omega
    refine T.walks.done _ _ _ hst' fun h' tk hk => wpAny_execs_nil ?_
    have X₁ := X'.iter (tk := tk) hH hIt hKI h1I hfxI (T.seq _ _ hst') hk
    exact fun E' => (fin t hInv).run _ E' X₁
end
end Mine

end
section
open PySem PySem.W PyProof.Rows PySem.Calls
set_option Elab.async false
set_option maxRecDepth 100000
set_option linter.all false
namespace Mine
section
variable {c : Cx} {ρ : List (Str × PV)}

noncomputable def Cx.call (c : Cx) (fd : FuncData) (L f : Addr) : Cx := ⟨c.w, c.A.deeper (callEnvC fd L f), callEnvC fd L f, [], c.N - 1, c.fix⟩

theorem bindL_not {kindOf : Str → Option NameKind} {n : Str} : ∀ (l : List (Str × Value)) (m : Str → Option Value), (∀ e ∈ l, e.1 ≠ n) → bindL kindOf l m n = m n
  | [], _, _ => rfl
  | (k, v) :: r, m, h => by
    unfold bindL
    rw [bindL_not r _ fun e he => h e (List.mem_cons_of_mem _ he)]
    split
    · simp only [if_neg (Ne.symm (h (k, v) List.mem_cons_self))]
    · rfl
theorem bindC_not {kindOf : Str → Option NameKind} {n : Str} : ∀ (l : List (Str × Value)) (m : Str → Option Value), (∀ e ∈ l, e.1 ≠ n) → bindC kindOf l m n = m n
  | [], _, _ => rfl
  | (k, v) :: r, m, h => by
    unfold bindC
    rw [bindC_not r _ fun e he => h e (List.mem_cons_of_mem _ he)]
    split
    · rfl
    · simp only [if_neg (Ne.symm (h (k, v) List.mem_cons_self))]
theorem bindL_at {kindOf : Str → Option NameKind} : ∀ (l : List (Str × Value)) (m : Str → Option Value) (n : Str) (v : Value), (l.map (·.1)).Nodup → (n, v) ∈ l → kindOf n = some .local → bindL kindOf l m n = some v
  | (k, u) :: r, m, n, v, hd, hm, hl => by
    simp only [List.map_cons, List.nodup_cons] at hd
    unfold bindL
    rcases List.mem_cons.mp hm with e | hm
    · cases e
      rw [if_pos hl, bindL_not r _ fun e he h => hd.1 (by rw [← h]; exact List.mem_map.mpr ⟨e, he, rfl⟩)]
      simp
    · exact bindL_at r _ n v hd.2 hm hl
theorem bindC_at {kindOf : Str → Option NameKind} : ∀ (l : List (Str × Value)) (m : Str → Option Value) (n : Str) (v : Value), (l.map (·.1)).Nodup → (n, v) ∈ l → ¬ kindOf n = some .local → bindC kindOf l m n = some v
  | [], _, _, _, _, hm, _ => (List.not_mem_nil hm).elim
  | (k, u) :: r, m, n, v, hd, hm, hl => by
    simp only [List.map_cons, List.nodup_cons] at hd
    unfold bindC
    rcases List.mem_cons.mp hm with e | hm
    · cases e
      rw [if_neg hl, bindC_not r _ fun e he h => hd.1 (by rw [← h]; exact List.mem_map.mpr ⟨e, he, rfl⟩)]
      simp
    · exact bindC_at r _ n v hd.2 hm hl

theorem cellsFrom_some {x : Str} : ∀ (names : List (Str × NameKind)) (k : Nat) (acc : List (Str × Addr)), ((x, NameKind.cell) ∈ names ∨ (acc.lookup x).isSome = true) → ((cellsFrom k names acc).lookup x).isSome = true
  | [], _, _, h => by simpa [cellsFrom] using h
  | (n, kd) :: r, k, acc, h => by
    unfold cellsFrom
    by_cases hk : (kd == NameKind.cell) = true
    · rw [if_pos hk]
      refine cellsFrom_some r _ _ ?_
      rcases h with h | h
      · rcases List.mem_cons.mp h with h | h
        · cases h; exact .inr (by simp [List.lookup_cons])
        · exact .inl h
      · refine .inr ?_
        rw [List.lookup_cons]
        cases hx : x == n with
        | true => rfl
        | false => exact h
    · rw [if_neg hk]
      refine cellsFrom_some r _ _ ?_
      rcases h with h | h
      · rcases List.mem_cons.mp h with h | h
        · cases h; exact absurd rfl hk
        · exact .inl h
      · exact .inr h
noncomputable def parOk (scope : Scope) (x : Str) : Bool := ((scope.names.lookup x == some .local) || (scope.names.lookup x == some .cell)) && !(x == ("__debug__" : Str))
noncomputable def codeOk (q : Str) : Option Obj → Bool
  | some ⟨_, _, .fields vs, _⟩ => (match (vs[1]? : Option Value) with | some (Value.str q' _) => q' == q | _ => false)
  | _ => false
/-- what the body of a def must do -/
noncomputable def FnBody (c : Cx) (fd : FuncData) (f : Addr) (body : List Stmt) (ρ₀ : List (Str × PV)) (r : PV) : Prop :=
  ∀ (L : Addr) (K : Shared), Bd (c.call fd L f) K [] ρ₀ body (fun fl s' => ∃ μ ρ', (∀ e ∈ μ, K.heap.get? e.D = none) ∧ Act (c.call fd L f) K μ ρ' s' ∧ Rep [] s'.heap r (match fl with | .ret v => v | _ => .none))

theorem zip_reps {H : List Addr} {h : Heap} : ∀ {names : List Str} {ps : List PV} {vs : List Value} {e : Str × PV}, Reps H h ps vs → e ∈ names.zip ps → ∃ v, (e.1, v) ∈ names.zip vs ∧ Rep H h e.2 v
  | [], _, _, e, _, m => by simp at m
  | n :: ns, [], _, e, _, m => by simp at m
  | n :: ns, p :: ps, vs, e, r, m => by
    obtain ⟨v, vs', rfl, h1, h2⟩ := r
    rcases List.mem_cons.mp m with rfl | m
    · exact ⟨v, List.mem_cons_self, h1⟩
    · obtain ⟨u, hu, hr⟩ := zip_reps h2 m
      exact ⟨u, List.mem_cons_of_mem _ hu, hr⟩

theorem bind1 {fd : FuncData} {names : List Str} (hn : names.length = 1) (h : ∀ a, bindArgs fd ⟨[a], []⟩ = pure (names.zip [a])) : ∀ vs : List Value, vs.length = names.length → bindArgs fd ⟨vs, []⟩ = pure (names.zip vs) := fun vs e => by
  rw [hn] at e
  match vs, e with
  | [_], _ => exact h _
theorem bind2 {fd : FuncData} {names : List Str} (hn : names.length = 2) (h : ∀ a b, bindArgs fd ⟨[a, b], []⟩ = pure (names.zip [a, b])) : ∀ vs : List Value, vs.length = names.length → bindArgs fd ⟨vs, []⟩ = pure (names.zip vs) := fun vs e => by
  rw [hn] at e
  match vs, e with
  | [_, _], _ => exact h _ _
theorem bind3 {fd : FuncData} {names : List Str} (hn : names.length = 3) (h : ∀ a b c, bindArgs fd ⟨[a, b, c], []⟩ = pure (names.zip [a, b, c])) : ∀ vs : List Value, vs.length = names.length → bindArgs fd ⟨vs, []⟩ = pure (names.zip vs) := fun vs e => by
  rw [hn] at e
  match vs, e with
  | [_, _, _], _ => exact h _ _ _
theorem Cl.of_body {f : Addr} {fd : FuncData} {body : List Stmt} {names : List Str} {ps : List PV} {r : PV} {cd : Addr} {n : Nat} (hH : c.H = []) (hN : c.N = n + 1)
    (ho : ∀ P, ((H1 P).get? f).map (·.data) = some (.func fd)) (hf : f ≠ tb) (hc1 : fd.code = .ref cd) (hc2 : ∀ P, codeOk fd.qualname ((H1 P).get? cd) = true) (hc3 : cd ≠ tb)
    (hbody : fd.body = .stmts body) (hclo : fd.closure = []) (hgl : fd.globals = mainNs) (hbl : fd.builtins = builtinsNs)
    (hlen : ps.length = names.length) (hbind : ∀ vs : List Value, vs.length = names.length → bindArgs fd ⟨vs, []⟩ = pure (names.zip vs))
    (hkinds : names.all (parOk fd.scope) = true) (hnd : names.Nodup)
    (hb : FnBody c fd f body (names.zip ps) r)
    (hco : fd.scope.isCoroutine = false := by rfl) (hgen : fd.scope.isGenerator = false := by rfl) (hk : fd.scope.kind = .function := by rfl) : Cl c ρ (.ref f) ps r := .mk fun s Q E vs S hr hQ => by
  obtain ⟨o, ho, hd⟩ := Option.map_eq_some_iff.mp (ho c.w.params)
  obtain ⟨oc, cvs, ct, hc2, hc4, hc5⟩ : ∃ oc cvs ct, (H1 c.w.params).get? cd = some oc ∧ oc.data = .fields cvs ∧ cvs[1]? = some (.str fd.qualname ct) := by
    have h := hc2 c.w.params
    unfold codeOk at h
    split at h
    · rename_i vs _ e
      split at h
      · rename_i q' t e'
        exact ⟨_, vs, t, e, rfl, by rw [e']; rw [show q' = fd.qualname by simpa using h]⟩
      · cases h
    · cases h
  have hkinds : ∀ x ∈ names, (fd.scope.names.lookup x = some .local ∨ (fd.scope.names.lookup x = some .cell ∧ ∀ k, ((cellsFrom k fd.scope.names []).lookup x).isSome = true)) ∧ (x == ("__debug__" : Str)) = false := fun x hx => by
    have h := List.all_eq_true.mp hkinds x hx
    simp only [parOk, Bool.and_eq_true, Bool.or_eq_true, beq_iff_eq, Bool.not_eq_true'] at h
    exact ⟨h.1.imp id fun e => ⟨e, fun k => cellsFrom_some _ _ _ (.inl (mem_of_lookup e))⟩, h.2⟩
  have hroom : c.A.depth < recursionLimit := by have := S.rd; omega
  have hlv : vs.length = names.length := hr.length.trans hlen
  refine wpAny_call (codeAny_call_cells (binds := names.zip vs) (body := body) hroom (S.gd.keep _ _ hf ho) hd S.gd.nolimit ⟨cd, oc, cvs, ct, hc1, S.gd.keep _ _ hc3 hc2, hc4, hc5⟩ hbody (hbind vs hlv) hclo ?_ ?_ hco hgen hk)
  · intro x hx
    have hx' := (hkinds x.1 (List.of_mem_zip hx).1).1
    rcases hx' with h | ⟨h, h'⟩
    · exact .inl h
    · exact .inr ⟨h, h' _⟩
  · intro s₁ X
    have hnz : ((names.zip vs).map (·.1)) = names := by rw [List.map_fst_zip (by omega)]
    have hA : Act (c.call fd s.heap.objs.size f) s [] (names.zip ps) s₁ := by
      have hk1 : Kp s s₁ := ⟨fun b o e => X.toInCall.keep b o e, X.toInCall.same⟩
      have hcells : ∀ n a, (callEnvC fd s.heap.objs.size f).cells.lookup n = some a → s.heap.objs.size < a := fun n a h => X.above n a (mem_of_lookup h)
      have hownsz : ∀ b, own (c.call fd s.heap.objs.size f) [] b → s.heap.objs.size ≤ b := by
        rintro b (rfl | ⟨n', h⟩ | h)
        · exact Nat.le_refl _
        · exact Nat.le_of_lt (hcells n' b h)
        · simp at h
      refine ⟨⟨S.gd.keeps hk1, fun a ha => by simp [Cx.hide, Cx.call] at ha, hk, hgl, hbl, fun e he => ?_, S.hh, ?_, ?_, fun e he => hk1.get _ _ (S.fx e he)⟩, fun e he => by simp at he, ⟨_, X.toInCall.ns⟩, fun n a h => ⟨_, X.cell n a h⟩, X.apart, X.above, fun b hb => ?_, fun b o _ e => X.toInCall.keep b o e, X.toInCall.same, fun e he hown => by
        have h1 := hownsz _ hown
        have h2 := Heap.lt_size (S.fx e he)
        exact absurd h2 (Nat.not_lt.mpr h1)⟩
      · have he' : e ∈ names.zip ps := he
        obtain ⟨v, hv, hrv⟩ := zip_reps hr he'
        have hxn := (List.of_mem_zip he').1
        obtain ⟨hkd, hdb⟩ := hkinds e.1 hxn
        refine ⟨v, ⟨hdb, ?_⟩, ?_⟩
        · rcases hkd with h | ⟨h, h'⟩
          · exact .inl ⟨h, _, X.toInCall.ns, bindL_at _ _ _ _ (by rw [hnz]; exact hnd) hv h⟩
          · obtain ⟨a, ha⟩ := Option.isSome_iff_exists.mp (h' (s.heap.objs.size + 1))
            have hkc : (callEnvC fd s.heap.objs.size f).kindOf e.1 = some .cell := h
            have := X.cell e.1 a ha
            rw [bindC_at _ _ _ v (by rw [hnz]; exact hnd) hv (by rw [hkc]; decide)] at this
            exact .inr (.inl ⟨hkc, a, ha, this⟩)
        · rw [hH] at hrv
          exact hrv.kp hk1
      · have := S.ru; rw [hN] at this
        show c.A.units + 3 + 50 * (c.N - 1 + 1) < cLine
        rw [hN]; omega
      · have := S.rd; rw [hN] at this
        show c.A.depth + 1 + 8 * (c.N - 1 + 1) < recursionLimit
        rw [hN]; omega
      · have hge := hownsz b hb
        have hnone : s.heap.get? b = none := get_ge hge
        have htb : b ≠ tb := fun h => by
          obtain ⟨o, e⟩ := S.gd.tbe
          rw [← h, hnone] at e; cases e
        refine ⟨?_, htb⟩
        cases g : (H1 c.w.params).get? b with
        | none => exact g
        | some o' =>
          have := S.gd.keep b o' htb g
          rw [hnone] at this; cases this
    refine wpAny_mono ((hb s.heap.objs.size s).run s₁ _ hA) (fun fl s' hq => ?_) fun _ _ e => e
    obtain ⟨μ, ρ', hμ, X', hrep⟩ := hq
    refine hQ _ s' ?_ (by rw [hH]; exact hrep)
    obtain ⟨h', tk', hs'⟩ := X'.same
    refine ⟨fun b o e => X'.keep b o (fun hown => ?_) e, h', tk', hs'⟩
    rcases hown with h | ⟨n', h⟩ | h
    · rw [h] at e
      exact absurd (Heap.lt_size e) (Nat.lt_irrefl _)
    · have := X.above n' b (mem_of_lookup h)
      have h2 := Heap.lt_size e
      exact absurd (Nat.lt_trans this h2) (Nat.lt_irrefl _)
    · obtain ⟨e', he', rfl⟩ := List.mem_map.mp h
      rw [hμ e' he'] at e; cases e
end
end Mine

end
section
open PySem PySem.W PyProof.Rows PySem.Calls
set_option Elab.async false
set_option maxRecDepth 100000
set_option linter.all false
namespace Mine
section
variable {c : Cx} {ρ : List (Str × PV)} {pos : Pos}
noncomputable def isGl (c : Cx) (x : Str) : Prop := c.env.kindOf x = some .globalImplicit
theorem nm_len (hk : isGl c (Str.ofString "len")) : Nm c ρ (.Name (Str.ofString "len") pos) (.builtin "len") := .bltn hk (by intro P; kernel_rfl) (by intro P; kernel_rfl) (by kernel_rfl)
theorem nm_chr (hk : isGl c (Str.ofString "chr")) : Nm c ρ (.Name (Str.ofString "chr") pos) (.builtin "chr") := .bltn hk (by intro P; kernel_rfl) (by intro P; kernel_rfl) (by kernel_rfl)
theorem nm_ord (hk : isGl c (Str.ofString "ord")) : Nm c ρ (.Name (Str.ofString "ord") pos) (.builtin "ord") := .bltn hk (by intro P; kernel_rfl) (by intro P; kernel_rfl) (by kernel_rfl)
theorem nm_max (hk : isGl c (Str.ofString "max")) : Nm c ρ (.Name (Str.ofString "max") pos) (.builtin "max") := .bltn hk (by intro P; kernel_rfl) (by intro P; kernel_rfl) (by kernel_rfl)
theorem nm_sum (hk : isGl c (Str.ofString "sum")) : Nm c ρ (.Name (Str.ofString "sum") pos) (.builtin "sum") := .bltn hk (by intro P; kernel_rfl) (by intro P; kernel_rfl) (by kernel_rfl)
theorem nm_range (hk : isGl c (Str.ofString "range")) : Nm c ρ (.Name (Str.ofString "range") pos) (.type "range") := .bltn hk (by intro P; kernel_rfl) (by intro P; kernel_rfl) (by kernel_rfl)
theorem nm_list (hk : isGl c (Str.ofString "list")) : Nm c ρ (.Name (Str.ofString "list") pos) (.type "list") := .bltn hk (by intro P; kernel_rfl) (by intro P; kernel_rfl) (by kernel_rfl)
theorem nm_map (hk : isGl c (Str.ofString "map")) : Nm c ρ (.Name (Str.ofString "map") pos) (.type "map") := .bltn hk (by intro P; kernel_rfl) (by intro P; kernel_rfl) (by kernel_rfl)
theorem nm_isinstance (hk : isGl c (Str.ofString "isinstance")) : Nm c ρ (.Name (Str.ofString "isinstance") pos) (.builtin "isinstance") := .bltn hk (by intro P; kernel_rfl) (by intro P; kernel_rfl) (by kernel_rfl)
end

section
variable {c : Cx} {K : Shared} {ρ : List (Str × PV)} {Q : Flow → Shared → Prop}
/-- the same rules where no list is being written -/
theorem B0.let {x : Str} {px : Pos} {e : Expr} {pos : Pos} {rest : List Stmt} {p : PV} (hH : c.H = []) (hok : stOk c.env x = true) (hx : (ρ.map (·.1)).contains x = false) (hs : swapsWith e (some (.Name x px)) pos.line c.env = pure false)
    (he : Ev c ρ e p) (k : Bd c K [] ((x, p) :: ρ) rest Q) : Bd c K [] ρ (.Assign [.Name x px] e pos :: rest) Q :=
  Bd.assign (r := ρ) hH (fun _ h => nomatch h) he (by simp [sto]) hok (fun _ h => h) hx k hs
theorem B0.set {x : Str} {px : Pos} {e : Expr} {pos : Pos} {rest : List Stmt} {p : PV} (r : List (Str × PV)) (hH : c.H = []) (hok : stOk c.env x = true) (hx : (r.map (·.1)).contains x = false) (hs : swapsWith e (some (.Name x px)) pos.line c.env = pure false) (hsub : ∀ e ∈ r, e ∈ ρ)
    (he : Ev c ρ e p) (k : Bd c K [] ((x, p) :: r) rest Q) : Bd c K [] ρ (.Assign [.Name x px] e pos :: rest) Q :=
  Bd.assign (r := r) hH (fun _ h => nomatch h) he (by simp [sto]) hok hsub hx k hs
theorem B0.ret {e : Expr} {pos : Pos} {rest : List Stmt} {p : PV} (hH : c.H = []) (he : Ev c ρ e p) (k : ∀ v s, Act c K [] ρ s → Rep [] s.heap p v → Q (.ret v) s) : Bd c K [] ρ (.Return (some e) pos :: rest) Q :=
  Bd.ret hH (fun _ h => nomatch h) he fun v s X r => k v s X (by rw [hH] at r; exact r)
theorem B0.ite {t : Expr} {body orelse : List Stmt} {pos : Pos} {rest : List Stmt} {b : Bool} (hH : c.H = []) (ht : Tr c ρ t b) (h1 : b = true → Bd c K [] ρ body (cont c rest Q)) (h2 : b = false → Bd c K [] ρ orelse (cont c rest Q)) :
    Bd c K [] ρ (.If t body orelse pos :: rest) Q := Bd.ite hH (fun _ h => nomatch h) ht h1 h2
/-- what a function's body gives back -/
noncomputable def Back (c : Cx) (K : Shared) (r : PV) (fl : Flow) (s' : Shared) : Prop := ∃ μ ρ', (∀ e ∈ μ, K.heap.get? e.D = none) ∧ Act c K μ ρ' s' ∧ Rep [] s'.heap r (match fl with | .ret v => v | _ => .none)
theorem B0.fin {e : Expr} {pos : Pos} {rest : List Stmt} {p : PV} (hH : c.H = []) (he : Ev c ρ e p) : Bd c K [] ρ (.Return (some e) pos :: rest) (Back c K p) :=
  B0.ret hH he fun v s X r => ⟨[], ρ, fun e he => by simp at he, X, r⟩
theorem B0.finC {e : Expr} {pos : Pos} {rest rest' : List Stmt} {p : PV} (hH : c.H = []) (he : Ev c ρ e p) : Bd c K [] ρ (.Return (some e) pos :: rest) (cont c rest' (Back c K p)) :=
  B0.ret hH he fun v s X r => ⟨[], ρ, fun e he => by simp at he, X, r⟩
end
theorem Cl.fn {c : Cx} {ρ ρ₀ : List (Str × PV)} {f : Addr} {fd : FuncData} {body : List Stmt} {names : List Str} {ps : List PV} {r : PV} {cd : Addr} {n : Nat} (hH : c.H = []) (hN : c.N = n + 1)
    (ho : ∀ P, ((H1 P).get? f).map (·.data) = some (.func fd)) (hf : f ≠ tb) (hc1 : fd.code = .ref cd) (hc2 : ∀ P, codeOk fd.qualname ((H1 P).get? cd) = true) (hc3 : cd ≠ tb)
    (hbody : fd.body = .stmts body) (hclo : fd.closure = []) (hgl : fd.globals = mainNs) (hbl : fd.builtins = builtinsNs)
    (hlen : ps.length = names.length) (hbind : ∀ vs : List Value, vs.length = names.length → bindArgs fd ⟨vs, []⟩ = pure (names.zip vs))
    (hkinds : names.all (parOk fd.scope) = true) (hnd : names.Nodup) (hco : fd.scope.isCoroutine = false) (hgen : fd.scope.isGenerator = false) (hk : fd.scope.kind = .function) (hρ : names.zip ps = ρ₀)
    (hb : ∀ (L : Addr) (K : Shared), Bd (c.call fd L f) K [] ρ₀ body (Back (c.call fd L f) K r)) : Cl c ρ (.ref f) ps r :=
  Cl.of_body hH hN ho hf hc1 hc2 hc3 hbody hclo hgl hbl hlen hbind hkinds hnd (by rw [hρ]; exact hb) hco hgen hk

section
variable {c : Cx} {ρ : List (Str × PV)}
theorem Bo.mod_pos {a b : Int} (hb : 0 < b) : Bo c ρ .Mod (.int a) (.int b) (.int (a % b)) := by
  have := Bo.mod_int (c := c) (ρ := ρ) (a := a) (b := b) (by omega)
  rwa [Int.fmod_eq_emod_of_nonneg a (by omega)] at this
theorem Bo.div_pos {a b : Int} (hb : 0 < b ∧ b.natAbs < 2 ^ 900) : Bo c ρ .FloorDiv (.int a) (.int b) (.int (a / b)) := by
  have := Bo.div_int (c := c) (ρ := ρ) (a := a) (b := b) (by omega) hb.2
  rwa [Int.fdiv_eq_ediv_of_nonneg a (by omega)] at this
theorem Ev.eq {e : Expr} {p q : PV} (h : Ev c ρ e p) (hpq : p = q) : Ev c ρ e q := hpq ▸ h
theorem Tr.eq {e : Expr} {p q : Bool} (h : Tr c ρ e p) (hpq : p = q) : Tr c ρ e q := hpq ▸ h
theorem get_ints (L : List Int) (i : Nat) (h : i < L.length) : (L.map PV.int)[i]? = some (.int (L.getD i 0)) := by
  simp [h, List.getD]
theorem Ev.ifint {t a b : Expr} {pos : Pos} {x : Bool} {p q : Int} (ht : Tr c ρ t x) (ha : x = true → Ev c ρ a (.int p)) (hb : x = false → Ev c ρ b (.int q)) : Ev c ρ (.IfExp t a b pos) (.int (if x then p else q)) := by
  apply Ev.ifexp ht
  · rintro rfl; exact ha rfl
  · rintro rfl; exact hb rfl
theorem Ev.ifstr {t a b : Expr} {pos : Pos} {x : Bool} {p q : List Nat} (ht : Tr c ρ t x) (ha : x = true → Ev c ρ a (.str p)) (hb : x = false → Ev c ρ b (.str q)) : Ev c ρ (.IfExp t a b pos) (.str (if x then p else q)) := by
  apply Ev.ifexp ht
  · rintro rfl; exact ha rfl
  · rintro rfl; exact hb rfl
end
end Mine

end
section
open PySem PySem.W PyProof.Rows PySem.Calls
set_option Elab.async false
set_option maxRecDepth 100000
set_option linter.all false
namespace Mine
mutual
theorem Rep.avoid {H : List Addr} {h : Heap} {D : Addr} (hD : h.get? D = none) : ∀ (p : PV) (v : Value), Rep H h p v → Rep (D :: H) h p v
  | .none, _, x => x
  | .bool _, _, x => x
  | .int _, _, x => x
  | .str _, _, x => x
  | .list xs, v, x => by
    obtain ⟨a, items, e, ha, ⟨o, ho, hr⟩, hz, hs⟩ := x
    refine ⟨a, items, e, fun m => ?_, ⟨o, ho, hr⟩, hz, Reps.avoid hD xs _ hs⟩
    rcases List.mem_cons.mp m with rfl | m
    · rw [hD] at ho; cases ho
    · exact ha m
  | .tup xs, v, x => by
    obtain ⟨a, items, e, ha, ⟨o, ho, hr⟩, hz, hs⟩ := x
    refine ⟨a, items, e, fun m => ?_, ⟨o, ho, hr⟩, hz, Reps.avoid hD xs _ hs⟩
    rcases List.mem_cons.mp m with rfl | m
    · rw [hD] at ho; cases ho
    · exact ha m
  | .obj _, _, x => x
theorem Reps.avoid {H : List Addr} {h : Heap} {D : Addr} (hD : h.get? D = none) : ∀ (p : List PV) (v : List Value), Reps H h p v → Reps (D :: H) h p v
  | [], _, x => x
  | p :: ps, _, x => by
    obtain ⟨v, r, e, h1, h2⟩ := x
    exact ⟨v, r, e, Rep.avoid hD p v h1, Reps.avoid hD ps r h2⟩
end
section
variable {c : Cx} {K : Shared} {ρ : List (Str × PV)} {Q : Flow → Shared → Prop}

/-- a list display that is going to be written -/
theorem Bd.letM (pl : Bool) {x : Str} {px pos' : Pos} {es : List Expr} {pos : Pos} {rest : List Stmt} {ps : List PV} (hH : c.H = []) (hok : stOk c.env x = true) (hx : (ρ.map (·.1)).contains x = false) (hs : swapsWith (.List es pos') (some (.Name x px)) pos.line c.env = pure false)
    (he : Evs c ρ es ps) (hz : ps.length ≤ 65536) (k : ∀ D, K.heap.get? D = none → Bd c K [⟨x, D, pl, ps⟩] ((x, .obj D) :: ρ) rest Q) : Bd c K [] ρ (.Assign [.Name x px] (.List es pos') pos :: rest) Q :=
  Bd.seq fun s E X => wpAny_Assign_Name (wpAny_List (he.run pos' s _ _ (X.view hH (fun _ h => nomatch h)) fun vs s₁ k₁ r₁ => ⟨by have := r₁.length; simp [sizeLine]; omega, by
    have X₁ := X.kp k₁
    have hnone : s₁.heap.get? s₁.heap.objs.size = none := get_ge (Nat.le_refl _)
    have hfresh : ∀ b o, s₁.heap.get? b = some o → b ≠ s₁.heap.objs.size := fun b o e h => by rw [h, hnone] at e; cases e
    have hpush : ∀ b o, s₁.heap.get? b = some o → (s₁.heap.push { cls := .type "list", data := .seq vs.toArray }).get? b = some o := fun b o e => Heap.get?_push_of_some _ e
    have hKD : K.heap.get? s₁.heap.objs.size = none := by
      cases g : K.heap.get? s₁.heap.objs.size with
      | none => rfl
      | some o =>
        by_cases hown : own c [] s₁.heap.objs.size
        · rcases hown with h | ⟨n', h⟩ | h
          · obtain ⟨m, o, es, ep, g, _⟩ := X₁.ns
            rw [← h, hnone] at g; cases g
          · obtain ⟨v, o, g, _⟩ := X₁.cell n' _ h
            rw [hnone] at g; cases g
          · simp at h
        · have := X₁.keep _ o hown g
          rw [hnone] at this; cases this
    have htb : s₁.heap.objs.size ≠ tb := fun h => by
      obtain ⟨o, e⟩ := X₁.sit.gd.tbe
      rw [← h, hnone] at e; cases e
    have hk2 : Kp s₁ { s₁ with heap := s₁.heap.push { cls := .type "list", data := .seq vs.toArray } } := .of s₁ hpush
    have X₂ := X₁.kp hk2
    have hcH : (c.hide []).H = [] := by unfold Cx.hide; rw [hH]; rfl
    have X₃ : Act c K [⟨x, s₁.heap.objs.size, pl, ps⟩] ρ { s₁ with heap := s₁.heap.push { cls := .type "list", data := .seq vs.toArray } } := by
      refine ⟨⟨X₂.sit.gd, fun a ha => ?_, X₂.sit.fn, X₂.sit.gl, X₂.sit.bl, fun e he => ?_, X₂.sit.hh, X₂.sit.ru, X₂.sit.rd, X₂.sit.fx⟩, fun e he => ?_, X₂.ns, X₂.cell, X₂.apart, X₂.above, fun b hb => ?_, fun b o hb e => X₂.keep b o (fun h => hb ?_) e, X₂.same, fun e he hown => by
        rcases hown with h | h | h
        · exact X₂.fo e he (.inl h)
        · exact X₂.fo e he (.inr (.inl h))
        · have h : e.1 = s₁.heap.objs.size := by simpa using h
          exact hfresh _ _ (X₁.sit.fx e he) h⟩
      · have ha : a = s₁.heap.objs.size := by
          have : a ∈ [s₁.heap.objs.size] ++ c.H := ha
          rw [hH] at this; simpa using this
        rw [ha]; exact ⟨_, Heap.get?_push_size _ rfl⟩
      · obtain ⟨v, h1, h2⟩ := X₁.sit.vars e he
        refine ⟨v, h1.keeps hpush, ?_⟩
        rw [hcH] at h2
        have := Rep.avoid hnone _ _ h2
        have e1 : (c.hide [⟨x, s₁.heap.objs.size, pl, ps⟩]).H = [s₁.heap.objs.size] := by unfold Cx.hide; rw [hH]; rfl
        rw [e1]
        exact Rep.sk (.of_keep hpush) _ _ this
      · rcases List.mem_singleton.mp he with rfl
        refine ⟨vs.toArray, ⟨_, Heap.get?_push_size _ rfl, rfl, 0, rfl⟩, fun _ => ⟨_, 0, Heap.get?_push_size _ rfl, rfl, rfl, rfl⟩, by have := r₁.length; simp; omega, ?_⟩
        have e1 : (c.hide [⟨x, s₁.heap.objs.size, pl, ps⟩]).H = [s₁.heap.objs.size] := by unfold Cx.hide; rw [hH]; rfl
        rw [e1]
        rw [hH] at r₁
        simpa using Reps.sk (.of_keep hpush) _ _ (Reps.avoid hnone _ _ r₁)
      · rcases hb with h | h | h
        · exact X₂.h1 b (.inl h)
        · exact X₂.h1 b (.inr (.inl h))
        · have hb' : b = s₁.heap.objs.size := by simpa using h
          subst hb'
          refine ⟨?_, htb⟩
          cases g : (H1 c.w.params).get? s₁.heap.objs.size with
          | none => rfl
          | some o =>
            have := X₁.sit.gd.keep _ o htb g
            rw [hnone] at this; cases this
      · rcases h with h | h | h
        · exact .inl h
        · exact .inr (.inl h)
        · simp at h
    refine X₃.store (p := .obj s₁.heap.objs.size) rfl hok (fun _ h => h) hx fun s' X' E' => (k _ hKD).run s' E' X'⟩)) hs

theorem Act.mutate {x : Str} {D : Addr} {pl pl' : Bool} {xs ys : List PV} {s : Shared} {h' : Heap} {tk : Nat} {its : Array Value} (X : Act c K [⟨x, D, pl, xs⟩] ρ s) (hl : h'.IsList D its) (hp : pl' = true → PlainL h' D its) (hz : its.size ≤ 65536)
    (hr : Reps (c.hide [⟨x, D, pl, xs⟩]).H s.heap ys its.toList) (hs : Heap.SameBut D s.heap h') : Act c K [⟨x, D, pl', ys⟩] ρ { s with heap := h', toks := tk } := by
  have hk : ∀ b o, b ≠ D → s.heap.get? b = some o → h'.get? b = some o := fun b o hb e => (hs.2 b hb).trans e
  have hDH : D ∈ (c.hide [⟨x, D, pl, xs⟩]).H := by unfold Cx.hide; simp
  have hsk : SK (c.hide [⟨x, D, pl, xs⟩]).H s.heap h' := fun b o hb _ e => hk b o (fun h => hb (h ▸ hDH)) e
  have hcell : ∀ a v, s.heap.IsCell a v → a ≠ D := fun a v ⟨o, g, d⟩ h => by
    obtain ⟨its₀, ⟨o', g', _, n, d'⟩, _⟩ := X.mus _ List.mem_cons_self
    rw [h] at g
    rw [show s.heap.get? D = some o' from g'] at g; cases g
    rw [d] at d'; cases d'
  have hns : ∀ m, s.heap.Ns c.env.locals m → c.env.locals ≠ D := fun m ⟨o, es, ep, g, d, _⟩ h => by
    obtain ⟨its₀, ⟨o', g', _, n, d'⟩, _⟩ := X.mus _ List.mem_cons_self
    rw [h] at g
    rw [show s.heap.get? D = some o' from g'] at g; cases g
    rw [d] at d'; cases d'
  have hown : own c [⟨x, D, pl, xs⟩] D := .inr (.inr (by simp))
  refine ⟨⟨⟨let ⟨o, e⟩ := X.sit.gd.tbe; ⟨o, hk _ _ (X.h1 D hown).2.symm e⟩, fun b o hb e => hk b o (fun hba => ?_) (X.sit.gd.keep b o hb e)⟩, fun b hb => ?_, X.sit.fn, X.sit.gl, X.sit.bl, fun e he => ?_, X.sit.hh, X.sit.ru, X.sit.rd, fun e he => hk _ _ (fun h => X.fo e he (h ▸ hown)) (X.sit.fx e he)⟩, fun e he => ?_, ?_, fun n a h => ?_, X.apart, X.above, X.h1, fun b o hb e => ?_, ?_, X.fo⟩
  · have e' : (H1 c.w.params).get? D = some o := hba ▸ e
    rw [(X.h1 D hown).1] at e'; cases e'
  · by_cases hbD : b = D
    · obtain ⟨o, e, _⟩ := hl; exact ⟨o, hbD ▸ e⟩
    · obtain ⟨o, e⟩ := X.sit.hid b hb
      exact ⟨o, hk b o hbD e⟩
  · obtain ⟨v, h1, h2⟩ := X.sit.vars e he
    refine ⟨v, ⟨h1.1, ?_⟩, Rep.sk hsk _ _ h2⟩
    rcases h1.2 with ⟨g1, m, hn, hm⟩ | ⟨g1, a, ha, hc⟩ | ⟨g1, g2, a, ha, hc⟩
    · exact .inl ⟨g1, m, hn.at' fun o e => hk _ o (hns m hn) e, hm⟩
    · exact .inr (.inl ⟨g1, a, ha, hc.sameBut hs (hcell _ _ hc)⟩)
    · exact .inr (.inr ⟨g1, g2, a, ha, hc.sameBut hs (hcell _ _ hc)⟩)
  · rcases List.mem_singleton.mp he with rfl
    exact ⟨its, hl, hp, hz, Reps.sk hsk _ _ hr⟩
  · obtain ⟨m, hm⟩ := X.ns
    exact ⟨m, hm.at' fun o e => hk _ o (hns m hm) e⟩
  · obtain ⟨v, hv⟩ := X.cell n a h
    exact ⟨v, hv.sameBut hs (hcell _ _ hv)⟩
  · exact hk b o (fun h => hb (h ▸ hown)) (X.keep b o hb e)
  · exact sameS X.same (sameU _ _ _)
theorem Act.evD {x : Str} {pos : Pos} {D : Addr} {pl : Bool} {xs : List PV} {s : Shared} {Q : Value → Shared → Prop} {E : Value → Shared → Prop} (X : Act c K [⟨x, D, pl, xs⟩] ρ s) (hm : (x, PV.obj D) ∈ ρ) (h : Q (.ref D) s) : wpAny (model pg c.w) c.A (eval (.Name x pos) c.env) Q E s := by
  have e : Ev (c.hide [⟨x, D, pl, xs⟩]) ρ (.Name x pos) (.obj D) := Ev.name hm
  obtain ⟨v, hx, hr⟩ := X.sit.vars _ hm
  rw [show v = .ref D from hr] at hx
  refine wpAny_Name ?_ hx.1
  rcases hx.2 with ⟨a, m, hn, hm⟩ | ⟨a, c', hc, hv⟩ | ⟨a, b, c', hc, hv⟩
  · exact wpAny_loadName_local X.sit.fn a hn hm h
  · exact wpAny_loadName_cell X.sit.fn a hc hv h
  · exact wpAny_loadName_free X.sit.fn a hc hv h b
theorem Bd.setM {x : Str} {xp : Pos} {D : Addr} {pl : Bool} {xs : List PV} {i value : Expr} {spos pos : Pos} {rest : List Stmt} {k : Int} {p : PV} (hH : c.H = []) (hm : (x, PV.obj D) ∈ ρ) (hs : swapsWith value (some (.Subscript (.Name x xp) i spos)) pos.line c.env = pure false)
    (hv : Ev c ((x, .list xs) :: ρ) value p) (hp : flt p = true) (hi : Ev c ((x, .list xs) :: ρ) i (.int k)) (hk : 0 ≤ k ∧ k < xs.length) (kk : Bd c K [⟨x, D, false, xs.set k.toNat p⟩] ρ rest Q) :
    Bd c K [⟨x, D, pl, xs⟩] ρ (.Assign [.Subscript (.Name x xp) i spos] value pos :: rest) Q := Bd.seq fun s E X => by
  have hμ : ∀ e ∈ [(⟨x, D, pl, xs⟩ : Mu)], (e.x, PV.obj e.D) ∈ ρ := fun e he => by rw [List.mem_singleton.mp he]; exact hm
  refine wpAny_Assign_Subscript (hv.run s _ _ (X.view hH hμ) fun v s₁ k₁ r₁ => ?_) hs
  have X₁ := X.kp k₁
  refine X₁.evD hm (hi.run s₁ _ _ (X₁.view hH hμ) fun iv s₂ k₂ r₂ => ?_)
  obtain ⟨t, rfl⟩ := r₂
  have X₂ := X₁.kp k₂
  obtain ⟨its, hl, _, hz, ra⟩ := X₂.mus _ List.mem_cons_self
  have hlen := ra.length
  simp only [Array.length_toList] at hlen
  have h2 := hk.2
  refine wpAny_setItem_list hl hk.1 (by omega) (by omega) fun h' hl' hs' => ?_
  have r₁' : Rep (c.hide [⟨x, D, pl, xs⟩]).H s₂.heap p v := r₁.flat hp
  exact fun E' => kk.run _ E' (X₂.mutate (pl' := false) hl' (fun h => nomatch h) (by simpa using hz) (by simpa using ra.set r₁' k.toNat) hs')
theorem wpAny_setItem_neg {prog : Program} {w : World} {A : Around} {E : Value → Shared → Prop} {s : Shared} {l : Addr} {items : Array Value} {k : Int} {t : Tok} {v : Value} {Q : Unit → Shared → Prop} (hl : s.heap.IsList l items)
    (h0 : k < 0) (h1 : -(items.size : Int) ≤ k) (hfit : -(2 ^ 63) ≤ k)
    (hQ : ∀ h', h'.IsList l (items.setIfInBounds (k + items.size).toNat v) → Heap.SameBut l s.heap h' → Q () { s with heap := h' }) :
    wpAny (model prog w) A (setItem (.ref l) (.int k t) v) Q E s := by
  obtain ⟨o, ho, hc, ne, hd⟩ := id hl
  unfold setItem
  try with_reducible refine wpAny_holding ?_
  first | refine wpAny_bind (wpAny_pure ?_) | skip
  refine wpAny_bind (wpAny_sequenceKey hl.typeIs (by decide) ?_)
  refine wpAny_bind (wpAny_callSpecial?_slot (name := Str.ofString "__setitem__") hl.typeIs slot_list_setitem
    (wpAny_call_entry slot_list_setitem hl.typeIs entry_list_setitem ?_ (args_list_setitem _ _ _)))
  show wpAny _ _ (Builtin.List.listSubscript? (.int k t) >>= _) _ _ s
  refine wpAny_bind (wpAny_listSubscript_int (fitsIndex_neg h0 hfit) ?_)
  clear hfit
  have hidx := seqIndex_neg h0 h1
  obtain ⟨j, rfl⟩ : ∃ j : Nat, k = Int.negSucc j := by
    cases k with
    | ofNat n => exact absurd h0 (Int.not_lt.mpr (Int.natCast_nonneg n))
    | negSucc n => exact ⟨n, rfl⟩
  have hlt : (Int.negSucc j + items.size).toNat < items.size := by omega
  have hx' : items[(Int.negSucc j + items.size).toNat]? = some items[(Int.negSucc j + items.size).toNat] := Array.getElem?_eq_getElem hlt
  show wpAny _ _ ((Builtin.List.listItems (.ref l) >>= fun xs => pure ((seqIndex? (Int.negSucc j) xs.size).bind fun i => xs[i]?.map (i, ·))) >>= _) _ _ s
  refine wpAny_bind (wpAny_bind ?_)
  show wpAny _ _ (seqItems? (.ref l) >>= _) _ _ s
  refine wpAny_bind (wpAny_seqItems ho hd (wpAny_pure (wpAny_pure ?_)))
  rw [hidx]
  simp only [Option.bind_some, hx', Option.map_some]
  show wpAny _ _ (setSeqItemAt l _ v >>= _) _ _ s
  obtain ⟨n', hd'⟩ := Obj.data_mapSeq hd (·.setIfInBounds (Int.negSucc j + items.size).toNat v)
  have hfin : (s.heap.update l (Obj.mapSeq (·.setIfInBounds (Int.negSucc j + items.size).toNat v))).IsList l (items.setIfInBounds (Int.negSucc j + items.size).toNat v) :=
    ⟨_, Heap.get?_update_self _ ho (Obj.isFreed_of_seq hd'), (Obj.cls_mapSeq ..).trans hc, n', hd'⟩
  refine wpAny_bind (wpAny_setSeqItemAt ho hd ?_)
  first
    | exact wpAny_bind (wpAny_pure (wpAny_pure ⟨.none, rfl, wpAny_pure (hQ _ hfin (Heap.SameBut.update ..))⟩))
    | exact wpAny_pure ⟨.none, rfl, wpAny_pure (hQ _ hfin (Heap.SameBut.update ..))⟩
theorem Bd.setN {x : Str} {xp : Pos} {D : Addr} {pl : Bool} {xs : List PV} {i value : Expr} {spos pos : Pos} {rest : List Stmt} {k : Nat} {p : PV} (hH : c.H = []) (hm : (x, PV.obj D) ∈ ρ) (hs : swapsWith value (some (.Subscript (.Name x xp) i spos)) pos.line c.env = pure false)
    (hv : Ev c ((x, .list xs) :: ρ) value p) (hp : flt p = true) (hi : Ev c ((x, .list xs) :: ρ) i (.int (-(k : Int)))) (hk : 1 ≤ k ∧ k ≤ xs.length) (kk : Bd c K [⟨x, D, false, xs.set (xs.length - k) p⟩] ρ rest Q) :
    Bd c K [⟨x, D, pl, xs⟩] ρ (.Assign [.Subscript (.Name x xp) i spos] value pos :: rest) Q := Bd.seq fun s E X => by
  have hμ : ∀ e ∈ [(⟨x, D, pl, xs⟩ : Mu)], (e.x, PV.obj e.D) ∈ ρ := fun e he => by rw [List.mem_singleton.mp he]; exact hm
  refine wpAny_Assign_Subscript (hv.run s _ _ (X.view hH hμ) fun v s₁ k₁ r₁ => ?_) hs
  have X₁ := X.kp k₁
  refine X₁.evD hm (hi.run s₁ _ _ (X₁.view hH hμ) fun iv s₂ k₂ r₂ => ?_)
  obtain ⟨t, rfl⟩ := r₂
  have X₂ := X₁.kp k₂
  obtain ⟨its, hl, _, hz, ra⟩ := X₂.mus _ List.mem_cons_self
  have hlen := ra.length
  simp only [Array.length_toList] at hlen
  have h1 := hk.1
  have h2 := hk.2
  refine wpAny_setItem_neg hl (by omega) (by omega) (by omega) fun h' hl' hs' => ?_
  have r₁' : Rep (c.hide [⟨x, D, pl, xs⟩]).H s₂.heap p v := r₁.flat hp
  rw [show (-(k : Int) + its.size).toNat = xs.length - k by omega] at hl'
  exact fun E' => kk.run _ E' (X₂.mutate (pl' := false) hl' (fun h => nomatch h) (by simpa using hz) (by simpa using ra.set r₁' (xs.length - k)) hs')
theorem Bd.appM {x : Str} {xp apos pos pos' : Pos} {D : Addr} {xs : List PV} {e : Expr} {rest : List Stmt} {p : PV} (hH : c.H = []) (hm : (x, PV.obj D) ∈ ρ) (hline : (apos.endLine == pos.line) = true) (htr : ∀ pos, backTo pos (starEach [e] c.env) = [(false, eval e c.env)]) (hint : interactive c.env = false)
    (he : Ev c ((x, .list xs) :: ρ) e p) (hp : flt p = true) (hz : xs.length + 1 ≤ 65536) (kk : Bd c K [⟨x, D, true, xs ++ [p]⟩] ρ rest Q) :
    Bd c K [⟨x, D, true, xs⟩] ρ (.Expr (.Call (.Attribute (.Name x xp) (Str.ofString "append") apos) [e] [] pos) pos' :: rest) Q := Bd.seq fun s E X => by
  have hμ : ∀ e ∈ [(⟨x, D, true, xs⟩ : Mu)], (e.x, PV.obj e.D) ∈ ρ := fun e he => by rw [List.mem_singleton.mp he]; exact hm
  refine wpAny_Expr (wpAny_Call_append rfl (by rw [htr]; rfl) hline (htr _) (X.evD hm ?_)) hint
  obtain ⟨its, hl, hpl, hz', ra⟩ := X.mus _ List.mem_cons_self
  refine ⟨D, its, rfl, hpl rfl, he.run s _ _ (X.view hH hμ) fun v s₁ k₁ r₁ => ?_⟩
  have X₁ := X.kp k₁
  obtain ⟨its, hl, hpl, hz', ra⟩ := X₁.mus _ List.mem_cons_self
  have hlen := ra.length
  simp only [Array.length_toList] at hlen
  refine list_append_plainL (hpl rfl) (fun h' hl' hs' => ?_) (by simp [sizeLine]; omega)
  have r₁' : Rep (c.hide [⟨x, D, true, xs⟩]).H s₁.heap p v := r₁.flat hp
  exact fun E' => kk.run _ E' (X₁.mutate (pl' := true) hl'.isList (fun _ => hl') (by simp; omega) (by simpa using ra.append (show Reps _ _ [p] [v] from ⟨v, [], rfl, r₁', rfl⟩)) hs')

theorem mu1 {x : Str} {D : Addr} {pl : Bool} {xs : List PV} (hm : (x, PV.obj D) ∈ ρ) : ∀ e ∈ [(⟨x, D, pl, xs⟩ : Mu)], (e.x, PV.obj e.D) ∈ ρ := fun e he => by rw [List.mem_singleton.mp he]; exact hm
variable {x : Str} {D : Addr} {pl : Bool} {xs : List PV}
theorem B1.ret {e : Expr} {pos : Pos} {rest : List Stmt} {p : PV} (hH : c.H = []) (hm : (x, PV.obj D) ∈ ρ) (he : Ev c ((x, .list xs) :: ρ) e p) (k : ∀ v s, Act c K [⟨x, D, pl, xs⟩] ρ s → Rep [] s.heap p v → Q (.ret v) s) : Bd c K [⟨x, D, pl, xs⟩] ρ (.Return (some e) pos :: rest) Q :=
  Bd.ret hH (mu1 hm) he fun v s X r => k v s X (by rw [hH] at r; exact r)
theorem B1.fin {e : Expr} {pos : Pos} {rest : List Stmt} {p : PV} (hH : c.H = []) (hm : (x, PV.obj D) ∈ ρ) (hD : K.heap.get? D = none) (he : Ev c ((x, .list xs) :: ρ) e p) : Bd c K [⟨x, D, pl, xs⟩] ρ (.Return (some e) pos :: rest) (Back c K p) :=
  B1.ret hH hm he fun v s X r => ⟨_, _, fun e he => by rw [List.mem_singleton.mp he]; exact hD, X, r⟩
theorem B1.ite {t : Expr} {body orelse : List Stmt} {pos : Pos} {rest : List Stmt} {b : Bool} (hH : c.H = []) (hm : (x, PV.obj D) ∈ ρ) (ht : Tr c ((x, .list xs) :: ρ) t b) (h1 : b = true → Bd c K [⟨x, D, pl, xs⟩] ρ body (cont c rest Q)) (h2 : b = false → Bd c K [⟨x, D, pl, xs⟩] ρ orelse (cont c rest Q)) :
    Bd c K [⟨x, D, pl, xs⟩] ρ (.If t body orelse pos :: rest) Q := Bd.ite hH (mu1 hm) ht h1 h2
theorem B1.set {y : Str} {px : Pos} {e : Expr} {pos : Pos} {rest : List Stmt} {p : PV} (r : List (Str × PV)) (hH : c.H = []) (hm : (x, PV.obj D) ∈ ρ) (hok : stOk c.env y = true) (hy : (r.map (·.1)).contains y = false) (hs : swapsWith e (some (.Name y px)) pos.line c.env = pure false) (hsub : ∀ e ∈ r, e ∈ ρ)
    (he : Ev c ((x, .list xs) :: ρ) e p) (hp : flt p = true) (k : Bd c K [⟨x, D, pl, xs⟩] ((y, p) :: r) rest Q) : Bd c K [⟨x, D, pl, xs⟩] ρ (.Assign [.Name y px] e pos :: rest) Q :=
  Bd.assign (r := r) hH (mu1 hm) he (by simp [sto, hp]) hok hsub hy k hs
theorem B1.for {σ : Type} {y : Str} {px pos : Pos} {iter : Expr} {body rest : List Stmt} {ys : List PV} (Inv : Nat → σ → Prop) (xo : σ → List PV) (ρo : σ → List (Str × PV)) (t₀ : σ) (hH : c.H = []) (hm : (x, PV.obj D) ∈ ρ)
    (hs : ∀ v, foldedSetIterable iter c.env v = pure v) (hok : stOk c.env y = true) (hit : It c ((x, .list xs) :: ρ) true iter ys) (h0 : Inv 0 t₀) (hx0 : xo t₀ = xs) (hρ0 : ∀ e ∈ ρo t₀, e ∈ ρ)
    (hx : ∀ t, ((ρo t).map (·.1)).contains y = false) (hst : ∀ z ∈ ys, flt z = true)
    (turn : ∀ i z t K', ys[i]? = some z → Inv i t → Bd c K' [⟨x, D, pl, xo t⟩] ((y, z) :: ρo t) body (fun f s' => match f with
      | .next | .cont => ∃ t', Inv (i + 1) t' ∧ Act c K' [⟨x, D, pl, xo t'⟩] (ρo t') s'
      | .brk => False
      | .ret v => ∃ t' ρ', Act c K' [⟨x, D, pl, xo t'⟩] ρ' s' ∧ (Act c K [⟨x, D, pl, xo t'⟩] ρ' s' → Q (.ret v) s')))
    (fin : ∀ t, Inv ys.length t → Bd c K [⟨x, D, pl, xo t⟩] (ρo t) rest Q) : Bd c K [⟨x, D, pl, xs⟩] ρ (.For (.Name y px) iter body [] pos :: rest) Q :=
  Bd.for Inv (fun t => [⟨x, D, pl, xo t⟩]) ρo t₀ hH (mu1 hm) hit (.inl rfl) h0 (by rw [hx0]) hρ0 (fun _ => rfl) hok hx (fun z hz => by simp [sto, hst z hz]) turn fin hs
theorem B0.for {σ : Type} {bb : Bool} {y : Str} {px pos : Pos} {iter : Expr} {body rest : List Stmt} {ys : List PV} (Inv : Nat → σ → Prop) (ρo : σ → List (Str × PV)) (t₀ : σ) (hH : c.H = [])
    (hs : ∀ v, foldedSetIterable iter c.env v = pure v) (hok : stOk c.env y = true) (hit : It c ρ bb iter ys) (h0 : Inv 0 t₀) (hρ0 : ∀ e ∈ ρo t₀, e ∈ ρ)
    (hx : ∀ t, ((ρo t).map (·.1)).contains y = false)
    (turn : ∀ i z t K', ys[i]? = some z → Inv i t → Bd c K' [] ((y, z) :: ρo t) body (fun f s' => match f with
      | .next | .cont => ∃ t', Inv (i + 1) t' ∧ Act c K' [] (ρo t') s'
      | .brk => False
      | .ret v => ∃ ρ', Act c K' [] ρ' s' ∧ (Act c K [] ρ' s' → Q (.ret v) s')))
    (fin : ∀ t, Inv ys.length t → Bd c K [] (ρo t) rest Q) : Bd c K [] ρ (.For (.Name y px) iter body [] pos :: rest) Q :=
  Bd.for Inv (fun _ => []) ρo t₀ hH (fun _ h => nomatch h) hit (.inr rfl) h0 rfl hρ0 (fun _ => rfl) hok hx (fun z hz => by simp [sto]) (fun i z t K' hz hI => (turn i z t K' hz hI).mono fun f s h => by
    cases f with
    | next => exact h
    | cont => exact h
    | brk => exact h
    | ret v => obtain ⟨ρ', h1, h2⟩ := h; exact ⟨t, ρ', h1, h2⟩) fin hs
end
end Mine

end
section
open PySem PySem.W PyProof.Rows PySem.Calls
set_option Elab.async false
set_option maxRecDepth 100000
set_option linter.all false
namespace Mine
section
variable {c : Cx} {K : Shared} {ρ : List (Str × PV)} {Q : Flow → Shared → Prop}
/-- a comprehension whose list is stored at once in a local name -/
theorem B0.comp {bb : Bool} {z : Str} {pz spos : Pos} {elt iter : Expr} {x : Str} {px : Pos} {ifs : List Expr} {scope : Scope} {pos : Pos} {rest : List Stmt} {ρ' r : List (Str × PV)} {xs : List PV} (q : PV → Bool) (f : PV → PV) (hH : c.H = [])
    (hsw : swapsWith (.ListComp elt [⟨.Name x px, iter, ifs, 0⟩] scope pos) (some (.Name z pz)) spos.line c.env = pure true) (hsto : stOk c.env z = true) (hsubr : ∀ e ∈ r, e ∈ ρ) (hz : (r.map (·.1)).contains z = false)
    (hit : It c ρ bb iter xs) (hok : closOk c.env scope.names = true) (hcell : scope.names.all (fun y => !(y.2 == .cell)) = true) (hkind : scope.kind = .function)
    (hnames : scope.names.all (fun y => !(y.2 == .local) || (scope.names.lookup y.1 == some .local)) = true) (hx : scope.names.lookup x = some .local) (hd : (x == ("__debug__" : Str)) = false)
    (hsub : ∀ e ∈ ρ', e ∈ ρ) (hcap : (ρ'.map (·.1)).all (capOk c.env scope) = true) (hs : ∀ v, foldedSetIterable iter c.env v = pure v) (hno : noObjs xs = true) (hsz : xs.length ≤ 65536)
    (hq : ∀ y, y ∈ xs → ∀ C, Trs (c.comp scope C) ((x, y) :: ρ') ifs (q y))
    (hf : ∀ y, y ∈ xs → q y = true → flt (f y) = true ∧ ∀ C, Ev (c.comp scope C) ((x, y) :: ρ') elt (f y))
    (k : Bd c K [] ((z, .list ((xs.filter q).map f)) :: r) rest Q) :
    Bd c K [] ρ (.Assign [.Name z pz] (.ListComp elt [⟨.Name x px, iter, ifs, 0⟩] scope pos) spos :: rest) Q := Bd.seq fun s E X => by
  classical
  have S : Sit c ρ s := X.view hH (fun _ h => nomatch h)
  have hcell' : ∀ y ∈ scope.names, y.2 ≠ .cell := fun y hy e => by
    have := List.all_eq_true.mp hcell y hy
    rw [e] at this; simp at this
  have hnames' : ∀ y ∈ scope.names, y.2 = .local → scope.names.lookup y.1 = some .local := fun y hy e => by
    have := List.all_eq_true.mp hnames y hy
    rw [e] at this
    simpa using this
  rw [exec_Assign_Name_used _ _ _ _ hsw]
  refine wpAny_bind (wpAny_standAt (wpAny_bind ?_))
  show wpAny _ c.A (do let _ ← comprehension (.ListComp elt [⟨.Name x px, iter, ifs, 0⟩] scope pos) scope c.env _ (newList []) false (eval iter c.env) (some (assign (.Name z pz) c.env))) _ _ s
  refine wpAny_bind (wpAny_mono (wpAny_comprehension_free (use := some (assign (.Name z pz) c.env)) (Q := fun _ s' => cont c rest Q .next s') rfl hs (closureFor_eq scope c.env hok) hkind hnames' (hit.run s _ _ S fun s₂ I fp P St T => ?_)) (fun _ s' hq => wpAny_pure (wpAny_pure hq)) fun _ _ e => e)
  have uniq : ∀ y z v, y ∈ xs → z ∈ xs → Rep c.H s₂.heap y v → Rep c.H s₂.heap z v → y = z := fun y z v hy hz ry rz => Rep.inj y z v (noObj_of_mem hno hy) (noObj_of_mem hno hz) ry rz
  let p : Value → Bool := fun v => decide (∃ y, y ∈ xs ∧ Rep c.H s₂.heap y v ∧ q y = true)
  let F : Value → Value → Prop := fun v u => ∃ y, y ∈ xs ∧ Rep c.H s₂.heap y v ∧ flt (f y) = true ∧ Rep c.H s₂.heap (f y) u
  have hp : ∀ y v, y ∈ xs → Rep c.H s₂.heap y v → p v = q y := fun y v hy r => by
    cases hqy : q y with
    | true => exact decide_eq_true ⟨y, hy, r, hqy⟩
    | false =>
      refine decide_eq_false fun ⟨z, hz, rz, hqz⟩ => ?_
      rw [uniq y z v hy hz r rz, hqz] at hqy; cases hqy
  refine comp_block_walkC (RR := fun acc C => compPost (model pg c.w) c.A E (some (assign (.Name z pz) c.env)) (fun _ s' => cont c rest Q .next s') acc C) T.walks (by simp [sizeLine]; omega) p F hcell' hkind hx T.st T.lt ⟨?_, ?_⟩ ?_
  · intro C i v s₃ m₃ E' hC hP hn hm hk _
    obtain ⟨y, hy, hr⟩ := T.item i v hP
    have hmem := List.mem_of_getElem? hy
    refine (hq y hmem C).run s₃ _ E' (comp_sit S T hok hkind hx hd hsub hcap hr hn hm hk) fun s' k => ⟨(hp y v hmem hr).symm, k.keeps⟩
  · intro C i v s₃ m₃ E' hC hP hpv hn hm hk _
    obtain ⟨y, hy, hr⟩ := T.item i v hP
    have hmem := List.mem_of_getElem? hy
    rw [hp y v hmem hr] at hpv
    obtain ⟨h1, h2⟩ := hf y hmem hpv
    exact (h2 C).run s₃ _ E' (comp_sit S T hok hkind hx hd hsub hcap hr hn hm hk) fun u s' k hu => ⟨⟨y, hmem, hr, h1, hu.flat h1⟩, k.keeps⟩
  · intro D C h' tk m' ys vs hD hC hDC hn hl hpl hlen hP hF hk
    have hCs : s.heap.get? C = none := by
      cases g : s.heap.get? C with
      | none => rfl
      | some o => rw [T.kp.get _ _ g] at hC; cases hC
    have keep : ∀ b o, s.heap.get? b = some o → h'.get? b = some o := fun b o e => hk b o (fun hb => by rw [List.mem_singleton.mp hb, T.new] at e; cases e) (T.kp.get b o e)
    have hxv : Reps c.H s₂.heap xs vs := reps_of_get hlen fun j v hv => T.item j v (hP j v hv)
    have hys := comp_out (p := p) (F := F) (q := q) (f := f) hxv (fun y v hy hr => hp y v hy hr) (fun y v u hy hr hF => by
      obtain ⟨z, hz, rz, hfl, ru⟩ := hF
      rw [uniq y z v hy hz hr rz]; exact ⟨hfl, ru⟩) hF
    obtain ⟨ksame, h₂, tk₂, he₂⟩ := T.kp
    subst he₂
    have kp3 : Kp s { s with heap := h', toks := tk } := .of s keep
    have X₃ := X.kp kp3
    have hrep : Rep (c.hide []).H h' (.list ((xs.filter q).map f)) (.ref D) := by
      have e1 : (c.hide []).H = [] := by unfold Cx.hide; rw [hH]; rfl
      rw [e1]
      refine ⟨D, ys, rfl, (fun hm => nomatch hm), hl, ?_, reps_flat hys.1 hys.2⟩
      have h1 := hys.2.length
      have h2 : ((xs.filter q).map f).length ≤ xs.length := by simpa using List.length_filter_le q xs
      simp only [Array.length_toList] at h1
      omega
    have hCown : ¬ own c [] C := by
      rintro (h | ⟨n', h⟩ | h)
      · obtain ⟨m, o, es, ep, g, _⟩ := X.ns
        rw [← h, hCs] at g; cases g
      · obtain ⟨v, o, g, _⟩ := X.cell n' C h
        rw [hCs] at g; cases g
      · simp at h
    have hCtb : C ≠ tb := fun h => by
      obtain ⟨o, e⟩ := X.sit.gd.tbe
      rw [← h, hCs] at e; cases e
    have hC1 : (H1 c.w.params).get? C = none := by
      cases g : (H1 c.w.params).get? C with
      | none => rfl
      | some o =>
        have := X.sit.gd.keep C o hCtb g
        rw [show s.heap.get? C = none from hCs] at this; cases this
    have hKC : K.heap.get? C = none := by
      cases g : K.heap.get? C with
      | none => rfl
      | some o =>
        have := X.keep C o hCown g
        rw [hCs] at this; cases this
    show wpAny _ c.A (assign (.Name z pz) c.env (.ref D)) _ _ _
    refine wpAny_assign_Name (X₃.here.store hrep hsto hsubr hz fun s₄ X₄ => ?_)
    have hn₄ : s₄.heap.Ns C m' := hn.at' fun o e => X₄.keep C o hCown e
    refine ⟨m', hn₄, fun h₅ hs₅ => ?_⟩
    have X₅ : Act c K [] ((z, .list ((xs.filter q).map f)) :: r) s₄ := X₄.rebase X₃ rfl
    have X₆ := X₅.iter (I := C) (tk := s₄.toks) hH hCown hKC ⟨hC1, hCtb⟩ (fun e he h => by
      have := X.sit.fx e he
      rw [h, show s.heap.get? C = none from hCs] at this; cases this) (fun o ho ys n hd => by
      obtain ⟨o', es, ep, g, d, _⟩ := hn₄
      rw [ho] at g; cases g
      rw [hd] at d; cases d) (fun b o hb e => (hs₅.2 b (fun h => hb (by simp [h]))).trans e)
    exact fun E' => k.run _ E' X₆

theorem Ev.neg {e : Expr} {pos : Pos} {a : Int} (h : Ev c ρ e (.int a)) : Ev c ρ (.UnaryOp .USub e pos) (.int (-a)) := .mk fun s Q E S hQ =>
  wpAny_UnaryOp (h.run s _ _ S fun v s₁ k₁ r₁ => by
    obtain ⟨t, rfl⟩ := r₁
    exact PyProof.Rows.neg_int (hQ _ _ (k₁.trans (.tok s₁ _)) ⟨_, rfl⟩))
theorem eqL_nil (xs : List PV) : eqL xs [] = xs.isEmpty := by cases xs <;> rfl
theorem Cm.ne_nil {xs : List PV} (h : xs.all sc = true) : Cm c ρ .NotEq (.list xs) (.list []) (!xs.isEmpty) := by
  have := Cm.ne_list (c := c) (ρ := ρ) (xs := xs) (ys := []) h rfl
  rwa [eqL_nil] at this
end
end Mine

end
section
open PySem PySem.W PyProof.Rows PySem.Calls
set_option Elab.async false
set_option maxRecDepth 100000
set_option linter.all false
namespace Mine
section
variable {c : Cx} {K : Shared} {ρ : List (Str × PV)} {Q : Flow → Shared → Prop}
noncomputable def rep (l : List Nat) (n : Int) : List Nat := (List.replicate n.toNat l).flatten
theorem fold_rep (l : List Nat) : ∀ (n : Nat) (acc : List Nat), (List.replicate n l.toArray).foldl (fun x1 x2 => x1 ++ x2) acc.toArray = (acc ++ (List.replicate n l).flatten).toArray
  | 0, acc => by simp
  | n + 1, acc => by
    rw [List.replicate_succ, List.foldl_cons]
    have := fold_rep l n (acc ++ l)
    rw [show acc.toArray ++ l.toArray = (acc ++ l).toArray by simp, this]
    simp [List.replicate_succ]
theorem txt_mul (l : List Nat) (n : Int) : Txt.mul (S l) n = S (rep l n) := by
  unfold Txt.mul rep
  by_cases h : n < 1
  · rw [if_pos h, show n.toNat = 0 by omega]; rfl
  · rw [if_neg h]
    by_cases h1 : (n == 1 || Str.length (S l) == 0) = true
    · rw [if_pos h1]
      simp only [Bool.or_eq_true, beq_iff_eq] at h1
      rcases h1 with rfl | h1
      · simp
      · have : l = [] := by simpa [S, Str.length] using h1
        subst this
        simp
    · rw [if_neg h1]
      have := fold_rep l n.toNat []
      unfold S
      simpa using this
theorem rep_length (l : List Nat) (n : Int) : (rep l n).length = n.toNat * l.length := by simp [rep]
theorem Bo.mul_str {l : List Nat} {n : Int} (h : n < 2 ^ 30 ∧ -2 ^ 30 < n ∧ n.toNat * l.length ≤ 65536) : Bo c ρ .Mult (.str l) (.int n) (.str (rep l n)) := .mk fun s Q E a b Si ha hb hQ => by
  obtain ⟨t, rfl⟩ := ha
  obtain ⟨u, rfl⟩ := hb
  refine SB.mul ⟨by simp; omega, fun h1 _ => ?_, fun h1 _ => ?_⟩ fun t' k => ?_
  · intro hgt
    have h1 : 1 ≤ n := by omega
    have h2 : (65536 : Int) ≤ (2 ^ 63 - 1) / n := by
      rw [Int.le_ediv_iff_mul_le (by omega)]
      omega
    have hl : (l.length : Int) ≤ 65536 := by
      have : 1 * l.length ≤ n.toNat * l.length := Nat.mul_le_mul_right _ (by omega)
      omega
    have e : (Str.length ⟨l.toArray⟩ : Int) = l.length := by simp [Str.length]
    rw [e] at hgt
    omega
  · have e : Str.length ⟨l.toArray⟩ = l.length := by simp [Str.length]
    rw [e]
    have := h.2.2
    rw [Nat.mul_comm] at this
    simp [Builtin.Str.tooLong, sizeLine]; omega
  · rw [show (⟨l.toArray⟩ : Str) = S l from rfl, txt_mul]
    exact hQ _ _ (.tok s _) ⟨t', rfl⟩
theorem count_one (l : List Nat) (x : Nat) : Txt.count (S l) (S [x]) = (l.count x : Nat) := by
  rw [show S [x] = ⟨#[x]⟩ from rfl, count_cnt]
  show cnt x l = _
  induction l with
  | nil => rfl
  | cons a l ih =>
    rw [cnt_cons, ih, List.count_cons]
    by_cases h : a = x <;> simp [h] <;> omega
theorem Cl.count1 {l : List Nat} {x : Nat} : Cl c ρ (.builtin "str.count") [.str l, .str [x]] (.int (l.count x : Nat)) := by
  have := Cl.count (c := c) (ρ := ρ) (x := l) (y := [x])
  rwa [count_one] at this
theorem Bo.add_list {xs ys : List PV} (h : xs.length + ys.length ≤ 65536) : Bo c ρ .Add (.list xs) (.list ys) (.list (xs ++ ys)) := .mk fun s Q E a b Si ha hb hQ => by
  obtain ⟨a, its, rfl, _, hl, hz, ra⟩ := ha
  obtain ⟨b, its', rfl, _, hl', hz', rb⟩ := hb
  have e1 := ra.length; have e2 := rb.length
  simp only [Array.length_toList] at e1 e2
  obtain ⟨⟨cls, dd, data, sl⟩, ho, hc, n, hd⟩ := id hl
  obtain ⟨⟨cls2, dd2, data2, sl2⟩, ho2, hc2, n2, hd2⟩ := id hl'
  simp only at hc hd hc2 hd2
  subst hc hd hc2 hd2
  refine concat_meets ⟨_, ho, rfl⟩ ⟨_, ho2, rfl⟩ noFill_list_add seq_list_add PySem.F.slot_list_add PySem.F.entry_list_add (PySem.F.args_list_add_2 _ _) (list_addW a b its its' n n2 dd dd2 sl sl2 (by simp [sizeLine]; omega)) ⟨ho, ho2, ?_⟩
  have hk : Kp s { s with heap := s.heap.push { cls := .type "list", data := .seq (its ++ its') } } := .of s fun b o e => Heap.get?_push_of_some _ e
  refine hQ _ _ hk ⟨_, its ++ its', rfl, Si.fresh (Nat.le_refl _), ⟨_, Heap.get?_push_size _ rfl, rfl, 0, rfl⟩, by simp; omega, ?_⟩
  simpa using Reps.sk (.of_keep hk.get) _ _ (ra.append rb)

theorem Act.sk0 {ρ' : List (Str × PV)} {H : List Addr} {s s' : Shared} (X : Act c K [] ρ s) (Y : Act c s [] ρ' s') : SK H s.heap s'.heap := fun b o _ ⟨ys, n, hd⟩ e => Y.keep b o (by
  rintro (h | ⟨n', h⟩ | h)
  · obtain ⟨m, o', es, ep, g, d, _⟩ := X.ns
    rw [h] at e; rw [e] at g; cases g
    rw [hd] at d; cases d
  · obtain ⟨v, o', g, d⟩ := X.cell n' b h
    rw [e] at g; cases g
    rw [hd] at d; cases d
  · simp at h) e
/-- two names at once, by the swapped stores -/
theorem B0.pairS {x y : Str} {px py tpos pos : Pos} {kk : Nat} {e : Expr} {rest : List Stmt} {p q : PV} (r : List (Str × PV)) (hH : c.H = []) (h1 : stOk c.env x = true) (h2 : stOk c.env y = true) (hx : (((y, q) :: r).map (·.1)).contains x = false) (hy : (r.map (·.1)).contains y = false)
    (hs : swapsWithSole [.Tuple [.Name x px, .Name y py] kk tpos] e pos.line c.env = pure false) (hw : swappedStores [.Tuple [.Name x px, .Name y py] kk tpos] e c.env = pure (some [x, y])) (hsub : ∀ e ∈ r, e ∈ ρ)
    (he : Ev c ρ e (.tup [p, q])) (k : Bd c K [] ((x, p) :: (y, q) :: r) rest Q) : Bd c K [] ρ (.Assign [.Tuple [.Name x px, .Name y py] kk tpos] e pos :: rest) Q := Bd.seq fun s E X => by
  refine Assign_Tuple_swapped (names := [x, y]) (he.run s _ _ (X.view hH (fun _ h => nomatch h)) fun v s₁ k₁ r₁ => ?_) hs hw
  obtain ⟨a, its, rfl, _, ht, hz, v1, _, e1, rp, v2, _, rfl, rq, e3⟩ := r₁
  have e3 : _ = [] := e3
  subst e3
  have X₁ := X.kp k₁
  have hsz : its.size = 2 := by rw [← Array.length_toList, e1]; rfl
  show wpAny _ _ (unpackItems (.ref a) 2 none) _ _ _
  rw [← hsz]
  refine PyProof.Rows.unpackItems_tuple X₁.sit.hh ht fun h' he' => ?_
  rw [e1]
  have k2 : Kp s₁ { s₁ with heap := h' } := .of s₁ fun b o e => he' b o (Nat.ne_of_lt (Heap.lt_size e)) e
  have X₂ := X₁.kp k2
  show wpAny _ _ (do holding [v1] (bindName c.env y v2); (do holding [] (bindName c.env x v1); pure ())) _ _ _
  have e0 : (c.hide []).H = [] := by unfold Cx.hide; rw [hH]; rfl
  rw [hH] at rp rq
  refine wpAny_bind (wpAny_holding (wpAny_bindName (X₂.here.store (p := q) (by rw [e0]; exact rq.kp k2) h2 hsub hy fun s₃ X₃ => ?_)))
  have rp₃ : Rep [] s₃.heap p v1 := Rep.sk (X₂.sk0 X₃) _ _ (rp.kp k2)
  refine wpAny_bind (wpAny_holding (wpAny_bindName (X₃.store (p := p) (by rw [e0]; exact rp₃) h1 (fun _ h => h) hx fun s₄ X₄ => wpAny_pure ?_)))
  exact fun E' => k.run _ E' (X₄.rebase X₂ rfl)
/-- two names at once, as they stand -/
theorem B0.pair {x y : Str} {px py tpos pos : Pos} {kk : Nat} {e : Expr} {rest : List Stmt} {p q : PV} (r : List (Str × PV)) (hH : c.H = []) (h1 : stOk c.env x = true) (h2 : stOk c.env y = true) (hx : (r.map (·.1)).contains x = false) (hy : (((x, p) :: r).map (·.1)).contains y = false)
    (hs : swapsWithSole [.Tuple [.Name x px, .Name y py] kk tpos] e pos.line c.env = pure false) (hw : swappedStores [.Tuple [.Name x px, .Name y py] kk tpos] e c.env = pure none) (hsub : ∀ e ∈ r, e ∈ ρ)
    (he : Ev c ρ e (.tup [p, q])) (k : Bd c K [] ((y, q) :: (x, p) :: r) rest Q) : Bd c K [] ρ (.Assign [.Tuple [.Name x px, .Name y py] kk tpos] e pos :: rest) Q := Bd.seq fun s E X => by
  refine Assign_Tuple (he.run s _ _ (X.view hH (fun _ h => nomatch h)) fun v s₁ k₁ r₁ => ?_) hs hw
  obtain ⟨a, its, rfl, _, ht, hz, v1, _, e1, rp, v2, _, rfl, rq, e3⟩ := r₁
  have e3 : _ = [] := e3
  subst e3
  have X₁ := X.kp k₁
  have hsz : its.size = 2 := by rw [← Array.length_toList, e1]; rfl
  have e0 : (c.hide []).H = [] := by unfold Cx.hide; rw [hH]; rfl
  rw [hH] at rp rq
  refine assign_Tuple_tuple X₁.sit.hh ht (by rw [hsz]; rfl) rfl fun h' he' => ?_
  rw [e1]
  have k2 : Kp s₁ { s₁ with heap := h' } := .of s₁ fun b o e => he' b o (Nat.ne_of_lt (Heap.lt_size e)) e
  have X₂ := X₁.kp k2
  show wpAny _ _ (do holding [v2] (assign (.Name x px) c.env v1); (do holding [] (assign (.Name y py) c.env v2); pure ())) _ _ _
  refine wpAny_bind (wpAny_holding (wpAny_assign_Name (X₂.here.store (p := p) (by rw [e0]; exact rp.kp k2) h1 hsub hx fun s₃ X₃ => ?_)))
  have rq₃ : Rep [] s₃.heap q v2 := Rep.sk (X₂.sk0 X₃) _ _ (rq.kp k2)
  refine wpAny_bind (wpAny_holding (wpAny_assign_Name (X₃.store (p := q) (by rw [e0]; exact rq₃) h2 (fun _ h => h) hy fun s₄ X₄ => wpAny_pure ?_)))
  exact fun E' => k.run _ E' (X₄.rebase X₂ rfl)
end
end Mine

end
section
open PySem PySem.W PyProof.Rows PySem.Calls
set_option Elab.async false
set_option maxRecDepth 100000
set_option linter.all false
namespace Mine
theorem sub_nil {α : Type} {ρ : List α} : ∀ e ∈ ([] : List α), e ∈ ρ := fun _ h => nomatch h
theorem sub_cons {α : Type} {x : α} {r ρ : List α} (h : x ∈ ρ) (t : ∀ e ∈ r, e ∈ ρ) : ∀ e ∈ x :: r, e ∈ ρ := fun e he => (List.mem_cons.mp he).elim (fun h' => h' ▸ h) (t e)
noncomputable def Cx.with (c : Cx) (f : Addr × Obj) : Cx := { c with fix := f :: c.fix }
section
variable {c : Cx} {K : Shared} {ρ : List (Str × PV)} {Q : Flow → Shared → Prop} {μ : List Mu}
theorem Act.with {a : Addr} {o : Obj} {s : Shared} (X : Act c K μ ρ s) (ho : s.heap.get? a = some o) (hn : ¬ own c μ a) : Act (c.with (a, o)) K μ ρ s :=
  ⟨⟨X.sit.gd, X.sit.hid, X.sit.fn, X.sit.gl, X.sit.bl, X.sit.vars, X.sit.hh, X.sit.ru, X.sit.rd, fun e he => by
    rcases List.mem_cons.mp he with rfl | he
    · exact ho
    · exact X.sit.fx e he⟩, X.mus, X.ns, X.cell, X.apart, X.above, X.h1, X.keep, X.same, fun e he => by
    rcases List.mem_cons.mp he with rfl | he
    · exact hn
    · exact X.fo e he⟩
theorem Act.without {f : Addr × Obj} {s : Shared} (X : Act (c.with f) K μ ρ s) : Act c K μ ρ s :=
  ⟨⟨X.sit.gd, X.sit.hid, X.sit.fn, X.sit.gl, X.sit.bl, X.sit.vars, X.sit.hh, X.sit.ru, X.sit.rd, fun e he => X.sit.fx e (List.mem_cons_of_mem _ he)⟩, X.mus, X.ns, X.cell, X.apart, X.above, X.h1, X.keep, X.same, fun e he => X.fo e (List.mem_cons_of_mem _ he)⟩
theorem Back.without {f : Addr × Obj} {r : PV} {fl : Flow} {s' : Shared} (X : Back (c.with f) K r fl s') : Back c K r fl s' :=
  let ⟨μ, ρ', h1, h2, h3⟩ := X; ⟨μ, ρ', h1, h2.without, h3⟩
/-- what is new is not one's own -/
theorem Act.notown {a : Addr} {s : Shared} (X : Act c K μ ρ s) (h : s.heap.objs.size ≤ a) : ¬ own c μ a := by
  rintro (h' | ⟨n, h'⟩ | h')
  · obtain ⟨m, o, es, ep, g, _⟩ := X.ns
    rw [← h'] at g; exact absurd (Heap.lt_size g) (Nat.not_lt.mpr h)
  · obtain ⟨v, o, g, _⟩ := X.cell n a h'
    exact absurd (Heap.lt_size g) (Nat.not_lt.mpr h)
  · obtain ⟨e, he, rfl⟩ := List.mem_map.mp h'
    obtain ⟨its, ⟨o, g, _⟩, _⟩ := X.mus e he
    exact absurd (Heap.lt_size g) (Nat.not_lt.mpr h)
theorem Sit.low {s : Shared} (S : Sit c ρ s) {a : Addr} (h : s.heap.objs.size ≤ a) : (a == sysModules) = false :=
  beq_eq_false_iff_ne.mpr (Nat.ne_of_gt (Nat.lt_of_lt_of_le (modules_low S.gd.nolimit) h))
/-- a dict display of constants, in a local name -/
theorem B0.dict {x : Str} {px : Pos} {keys : List (Option Expr)} {values : List Expr} {dpos pos : Pos} {rest : List Stmt} (D : List (PyData × PyData)) (hH : c.H = []) (hok : stOk c.env x = true) (hx : (ρ.map (·.1)).contains x = false)
    (hs : swapsWith (.Dict keys values dpos) (some (.Name x px)) pos.line c.env = pure false)
    (hD : PyProof.Rows.litPairs keys values = some D) (hk : strKeyed D = true) (hn : (strKeysOf D).Nodup) (hall : keys.all (·.isSome) = true) (hl : keys.length = values.length) (h0 : keys ≠ []) (hlen : keys.length ≤ 15)
    (k : ∀ a o, TabObj (strKind pg c.w) PyData.str D o → (a == sysModules) = false → Bd (c.with (a, o)) K [] ((x, .obj a) :: ρ) rest Q) : Bd c K [] ρ (.Assign [.Name x px] (.Dict keys values dpos) pos :: rest) Q :=
  Bd.seq fun s E X => wpAny_Assign_Name (Dict_lits_str hD hk hn hall hl h0 hlen fun a o h₁ tk ha ho hT hkeep => by
    have k1 : Kp s { s with heap := h₁, toks := tk } := .of s hkeep
    have X₁ : Act (c.with (a, o)) K [] ρ { s with heap := h₁, toks := tk } := (X.kp k1).with ho (X.notown ha)
    exact X₁.store (p := .obj a) rfl hok (fun _ h => h) hx fun s' X' E' => (k a o hT (X.sit.low ha)).run s' E' X') hs
theorem Cm.in_dict {a : Addr} {o : Obj} {D : List (PyData × PyData)} {x : List Nat} (hm : (a, o) ∈ c.fix) (hT : TabObj (strKind pg c.w) PyData.str D o) (hlo : (a == sysModules) = false) :
    Cm c ρ .In (.str x) (.obj a) (PySem.Spec.lookup (.str (S x)) D).isSome := .mk fun s Q E u v Si hu hv hQ => by
  obtain ⟨t, rfl⟩ := hu
  cases hv
  obtain ⟨kvs, hd, hf⟩ := hT
  have hD : s.heap.DictOf (strKind pg c.w) a kvs := Heap.dictOf_iff.mpr ⟨o, Si.fx _ hm, hd⟩
  refine wpAny_in_of (strKind_is pg c.w (S x) t) hlo hD.mapOf ?_
  have := hf.isSome (PyProof.V.same_str) (S x)
  rw [show (valueAt kvs (S x)).isSome = (PySem.Spec.lookup (.str (S x)) D).isSome from this]
  exact hQ _ (.tok s _)
theorem Ev.item_dict {value slice : Expr} {pos : Pos} {a : Addr} {o : Obj} {D : List (PyData × PyData)} {x : List Nat} {i : Int} (hm : (a, o) ∈ c.fix) (hT : TabObj (strKind pg c.w) PyData.str D o)
    (hv : Ev c ρ value (.obj a)) (hi : Ev c ρ slice (.str x)) (hl : PySem.Spec.lookup (.str (S x)) D = some (.int i)) : Ev c ρ (.Subscript value slice pos) (.int i) := .mk fun s Q E Si hQ => by
  refine Subscript_ (hv.run s _ _ Si fun u s₁ k₁ r₁ => hi.run s₁ _ _ (Si.keeps k₁) fun v s₂ k₂ r₂ => ?_)
  cases r₁
  obtain ⟨t, rfl⟩ := r₂
  obtain ⟨kvs, hd, hf⟩ := hT
  have hD : s₂.heap.DictOf (strKind pg c.w) a kvs := Heap.dictOf_iff.mpr ⟨o, ((Si.keeps k₁).keeps k₂).fx _ hm, hd⟩
  obtain ⟨v, hv, hfl⟩ := hf.of_lookup (PyProof.V.same_str) hl
  obtain ⟨t', rfl⟩ := hfl.int_inv
  obtain ⟨ops, ho⟩ := subscripted_ops slice (.ref a) (.str ⟨x.toArray⟩ t)
  exact tail_any (ops := ops) hD.typeIs slot_dict_getitem.lookup (wpAny_getItem_of (strKind_is pg c.w (S x) t) hD.mapOf hv (hQ _ _ ((k₁.trans k₂).trans (.tok s₂ _)) ⟨_, rfl⟩)) ho
end
end Mine

end
namespace Mine
set_option compiler.extract_closed false
local macro_rules | `(tactic| walk_at "mem") => `(tactic| with_reducible first | exact List.mem_cons_self | (apply List.mem_cons_of_mem; walk_at "mem"))
local macro_rules | `(tactic| walk_at "sub") => `(tactic| first | exact sub_nil | ((refine sub_cons ?_ ?_; (· walk_at "mem")); walk_at "sub"))
local macro_rules | `(tactic| walk_at "gl") => `(tactic| (unfold isGl; kernel_rfl))
local macro_rules | `(tactic| walk_at "nmb") => `(tactic| ((with_reducible first | apply nm_len | apply nm_chr | apply nm_ord | apply nm_max | apply nm_sum | apply nm_isinstance); walk_at "gl"))
local macro_rules | `(tactic| walk_at "nmt") => `(tactic| ((with_reducible first | apply nm_range | apply nm_list | apply nm_map); walk_at "gl"))
local macro_rules | `(tactic| walk_at "bo") => `(tactic| with_reducible first | exact Bo.add_int | exact Bo.sub_int | apply Bo.mod_pos | apply Bo.div_pos | apply Bo.pow_int | apply Bo.add_str)
local macro_rules | `(tactic| walk_at "cm") => `(tactic| first | (with_reducible first | exact Cm.lt_int | exact Cm.gt_int | exact Cm.le_int | exact Cm.ge_int | exact Cm.in_str | exact Cm.notin_str) | ((with_reducible first | apply Cm.eq_sc | apply Cm.ne_sc | apply Cm.isnot_one | apply Cm.in_tup | apply Cm.in_list | apply Cm.notin_list) <;> (first | rfl | kernel_rfl)) | ((with_reducible first | exact Cm.eq_nil)))
local macro_rules | `(tactic| walk_at "cl") => `(tactic| with_reducible first | apply Cl.len_str | exact Cl.len_list | apply Cl.chr | exact Cl.ord | exact Cl.max_two | exact Cl.sum_list | exact Cl.count | exact Cl.find | apply Cl.lower | apply Cl.join)
local macro_rules | `(tactic| walk_at "step") => `(tactic| first
  | (with_reducible first | exact Ev.cint | exact Ev.cstr | exact Ev.cbool | exact Ev.cnone | exact Evs.nil | exact Pt.none | exact Tr.and_nil | exact Tr.or_nil | exact Trs.nil)
  | (with_reducible apply Ev.name; walk_at "mem")
  | (with_reducible apply Ev.binop)
  | (with_reducible apply Ev.slice_list; · (with_reducible apply Ev.name; walk_at "mem"))
  | (with_reducible apply Ev.slice_str; · (with_reducible apply Ev.name; walk_at "mem"))
  | (with_reducible apply Ev.item_list; · (with_reducible apply Ev.name; walk_at "mem"))
  | (with_reducible apply Ev.item_str; · (with_reducible apply Ev.name; walk_at "mem"))
  | (with_reducible apply Ev.item_tup; · (with_reducible apply Ev.name; walk_at "mem"))
  | (with_reducible apply It.list; · (with_reducible apply Ev.name; walk_at "mem"))
  | (with_reducible apply It.tup; · (with_reducible apply Ev.name; walk_at "mem"))
  | (with_reducible apply It.str; · (with_reducible apply Ev.name; walk_at "mem"))
  | (with_reducible apply It.range1; · walk_at "nmt")
  | (with_reducible apply It.range2; · walk_at "nmt")
  | (with_reducible apply Evs.cons)
  | (with_reducible apply Ev.list)
  | (with_reducible apply Ev.tup)
  | (with_reducible apply Ev.cmp)
  | (with_reducible apply Tr.cmp)
  | (with_reducible apply Tr.not)
  | (with_reducible apply Tr.and)
  | (with_reducible apply Tr.or)
  | (with_reducible apply Trs.one)
  | (with_reducible apply Pt.some)
  | (with_reducible apply Ev.call_bltn; · walk_at "nmb")
  | (with_reducible apply Ev.call_type; · walk_at "nmt")
  | walk_at "bo"
  | walk_at "cm"
  | walk_at "cl"
  | (unfold plainArgs; intro _; kernel_rfl)
  | kernel_rfl
  | (show (_ : Bool) = _ → _; intro _)
  | (show (List.length _ : Nat) ≤ 65536; decide)
  | (show (0 : Int) < _; decide)
  | (show (0 : Int) < _ ∧ _; decide))
local macro_rules | `(tactic| walk_at "in") => `(tactic| first | assumption | exact List.mem_cons_self | (apply List.mem_append_left; walk_at "in"; done) | (apply List.mem_append_right; walk_at "in"; done) | (apply List.mem_cons_of_mem; walk_at "in"; done))
section
open PySem PySem.W PyProof.Rows PySem.Calls
set_option Elab.async false
set_option maxRecDepth 100000
set_option maxHeartbeats 0
set_option linter.all false

noncomputable def lawFd (i : Nat) (nm : String) (code : Nat) : FuncData := { name := Str.ofString nm, qualname := Str.ofString nm, params := sArgs (stm i), body := .stmts (sBody (stm i)), scope := sScope (stm i), globals := 3, closure := [], defaults := .none, kwdefaults := .none, doc := .none, pyModule := (.str (Str.ofString "law_rs0173_01") 2445), annotations := none, code := (.ref code), closureTuple := .none, builtins := 0 }
/-! _law_letter -/
noncomputable def fontsL : List Int := [119808, 119860, 119912, 120016, 120172, 120224, 120276, 120328, 120380, 120432]
noncomputable def loneL : List Int := [173, 847, 6150, 6155, 6156, 6157, 8203, 8204, 8205, 8288, 65279]
noncomputable def loneAt (p : Int) : Int := if p % 27 < 11 then loneL.getD (p % 27).toNat 0 else 65013 + p % 27
noncomputable def letter (x : Nat) (way pick : Int) : List Nat :=
  if way = 3 then [x] ++ [(loneAt pick).toNat]
  else if (way = 1 ∨ way = 2) ∧ ¬ (x = 46 ∨ x = 43) then [((if way = 1 then 65 else fontsL.getD (pick % 10).toNat 0) + (x : Int) - 97).toNat]
  else [x]
theorem letter_o : ∀ P, ((H1 P).get? 153).map (·.data) = some (.func (lawFd 14 "_law_letter" 152)) := by intro P; kernel_rfl
theorem letter_c : ∀ P, codeOk (Str.ofString "_law_letter") ((H1 P).get? 152) = true := by intro P; kernel_rfl
theorem loneAt_bound (p : Int) : 0 ≤ loneAt p ∧ loneAt p ≤ 1114111 := by
  unfold loneAt
  split
  · have h : (p % 27).toNat < 11 := by omega
    generalize (p % 27).toNat = i at h
    have : ∀ i < 11, 0 ≤ loneL.getD i 0 ∧ loneL.getD i 0 ≤ 1114111 := by decide
    exact this i h
  · omega
theorem fontsL_bound (p : Int) : 65 ≤ fontsL.getD (p % 10).toNat 0 ∧ fontsL.getD (p % 10).toNat 0 ≤ 120432 := by
  have h : (p % 10).toNat < 10 := by omega
  generalize (p % 10).toNat = i at h
  have : ∀ i < 10, 65 ≤ fontsL.getD i 0 ∧ fontsL.getD i 0 ≤ 120432 := by decide
  exact this i h
theorem char_bound {F : Int} {x : Nat} (h : 65 ≤ F ∧ F ≤ 120432) (hx : 97 ≤ x ∧ x ≤ 122) : 0 ≤ F + (x : Int) - 97 ∧ F + (x : Int) - 97 ≤ 1114111 := by omega
section
variable {c : Cx} {ρ : List (Str × PV)}
theorem contains_one (l : List Nat) (x : Nat) : Txt.contains (S l) (S [x]) = decide (x ∈ l) := by
  have := StrLaws.found_one (S l) x
  unfold Txt.contains
  rw [show S [x] = ⟨#[x]⟩ from rfl, this, Bool.eq_iff_iff]
  simp [S]
  exact decide_eq_true_iff
theorem notin_dotplus (x : Nat) : (!Txt.contains (S (Str.ofString ".+").cps.toList) (S [x])) = decide (¬ (x = 46 ∨ x = 43)) := by
  rw [show (Str.ofString ".+").cps.toList = [46, 43] from by decide +kernel, contains_one]
  simp
theorem cl_letter {n : Nat} (hH : c.H = []) (hN : c.N = n + 1) {x : Nat} {way pick : Int} (hx : x = 46 ∨ x = 43 ∨ (97 ≤ x ∧ x ≤ 122)) : Cl c ρ (.ref 153) [.str [x], .int way, .int pick] (.str (letter x way pick)) := by
  refine Cl.fn (names := [Str.ofString "sign", Str.ofString "way", Str.ofString "pick"]) (fd := lawFd 14 "_law_letter" 152) (cd := 152) hH hN letter_o (by decide) rfl letter_c (by decide) rfl rfl rfl rfl rfl (bind3 rfl (fun _ _ _ => rfl))
    (by kernel_rfl) (by decide +kernel) (by kernel_rfl) (by kernel_rfl) (by kernel_rfl) (ρ₀ := [(Str.ofString "sign", .str [x]), (Str.ofString "way", .int way), (Str.ofString "pick", .int pick)]) rfl (fun L K => ?_)
  apply B0.let rfl (by kernel_rfl) (by kernel_rfl) (by kernel_rfl)
  · repeat' (walk_at "step")
  apply B0.let rfl (by kernel_rfl) (by kernel_rfl) (by kernel_rfl)
  · repeat' (walk_at "step")
  apply B0.ite rfl
  · repeat' (walk_at "step")
  · intro h3
    have h3 : way = 3 := by simpa [eqS_i, eqS_t, eqS_b] using h3
    rw [show letter x way pick = [x] ++ [(loneAt pick).toNat] by rw [letter, if_pos h3]]
    apply B0.finC rfl
    apply Ev.binop (q := .str [(loneAt pick).toNat])
    · walk_at "step"
    · with_reducible apply Ev.call_bltn
      · walk_at "nmb"
      · apply Evs.cons (p := .int (loneAt pick))
        · apply Ev.ifexp
          · repeat' (walk_at "step")
          · intro hb
            have hb : pick % 27 < 11 := by simpa using hb
            apply Ev.eq
            · apply Ev.item_list
              · walk_at "step"
              · repeat' (walk_at "step")
              · exact ⟨by omega, get_ints loneL _ (by show _ < 11; omega)⟩
            · rw [loneAt, if_pos hb]
          · intro hb
            have hb : ¬ pick % 27 < 11 := by simpa using hb
            apply Ev.eq
            · repeat' (walk_at "step")
            · rw [loneAt, if_neg hb]
        all_goals walk_at "step"
      · exact Cl.chr (loneAt_bound pick).1 (loneAt_bound pick).2
      all_goals walk_at "step"
    · apply Bo.add_str; simp
  · intro h3
    have h3 : ¬ way = 3 := by simpa [eqS_i, eqS_t, eqS_b] using h3
    apply Bd.cont
    apply B0.ite rfl
    · repeat' (walk_at "step")
    · intro hc
      rw [notin_dotplus] at hc
      have hc : (way = 1 ∨ way = 2) ∧ ¬ (x = 46 ∨ x = 43) := by
        simp only [memS_c, memS_n, eqS_i, eqS_t, eqS_b, Bool.or_false, Bool.and_true, Bool.and_eq_true, Bool.or_eq_true, beq_iff_eq, decide_eq_true_eq] at hc
        exact ⟨hc.1.imp Eq.symm Eq.symm, hc.2⟩
      have hb := fontsL_bound pick
      rw [show letter x way pick = [((if way = 1 then 65 else fontsL.getD (pick % 10).toNat 0) + (x : Int) - 97).toNat] by rw [letter, if_neg h3, if_pos hc]]
      apply B0.finC rfl
      with_reducible apply Ev.call_bltn
      · walk_at "nmb"
      · apply Evs.cons (p := .int ((if way = 1 then 65 else fontsL.getD (pick % 10).toNat 0) + (x : Int) - 97))
        · apply Ev.binop (p := .int ((if way = 1 then 65 else fontsL.getD (pick % 10).toNat 0) + (x : Int)))
          · apply Ev.binop (p := .int (if way = 1 then 65 else fontsL.getD (pick % 10).toNat 0))
            · apply Ev.ifexp
              · repeat' (walk_at "step")
              · intro h1
                have h1 : way = 1 := by simpa [eqS_i, eqS_t, eqS_b] using h1
                apply Ev.eq Ev.cint
                rw [if_pos h1]
              · intro h1
                have h1 : ¬ way = 1 := by simpa [eqS_i, eqS_t, eqS_b] using h1
                apply Ev.eq
                · apply Ev.item_list
                  · walk_at "step"
                  · repeat' (walk_at "step")
                  · exact ⟨by omega, get_ints fontsL _ (by show _ < 10; omega)⟩
                · rw [if_neg h1]
            · repeat' (walk_at "step")
            · walk_at "step"
          · walk_at "step"
          · walk_at "step"
        all_goals walk_at "step"
      · have : 0 ≤ (if way = 1 then 65 else fontsL.getD (pick % 10).toNat 0) + (x : Int) - 97 ∧ (if way = 1 then 65 else fontsL.getD (pick % 10).toNat 0) + (x : Int) - 97 ≤ 1114111 := by
          have hx97 : 97 ≤ x ∧ x ≤ 122 := hx.elim (fun h => absurd (.inl h) hc.2) fun h => h.elim (fun h => absurd (.inr h) hc.2) id
          have hf : 65 ≤ (if way = 1 then 65 else fontsL.getD (pick % 10).toNat 0) ∧ (if way = 1 then 65 else fontsL.getD (pick % 10).toNat 0) ≤ 120432 := by
            by_cases h1 : way = 1
            · rw [if_pos h1]; decide
            · rw [if_neg h1]; exact hb
          exact char_bound hf hx97
        exact Cl.chr this.1 this.2
      all_goals walk_at "step"
    · intro hc
      rw [notin_dotplus] at hc
      have hc : ¬ ((way = 1 ∨ way = 2) ∧ ¬ (x = 46 ∨ x = 43)) := fun h => by
        simp only [memS_c, memS_n, eqS_i, eqS_t, eqS_b, Bool.or_false, Bool.and_true, Bool.and_eq_false_imp, Bool.or_eq_true, beq_iff_eq, decide_eq_false_iff_not] at hc
        exact hc (h.1.imp Eq.symm Eq.symm) h.2
      rw [show letter x way pick = [x] by rw [letter, if_neg h3, if_neg hc]]
      apply Bd.cont
      apply B0.fin rfl
      walk_at "step"
end

end
section
open PySem PySem.W PyProof.Rows PySem.Calls
set_option Elab.async false
set_option maxRecDepth 100000
set_option maxHeartbeats 0
set_option linter.all false

/-! _law_cells -/
noncomputable def cellStep (ns : List Int) (cs : List Int) (i : Nat) : List Int := cs.set (i % 6) (cs.getD (i % 6) 0 + ns.getD i 0 % 10 ^ 9)
noncomputable def cellsOf (ns : List Int) : List Int := (List.range (min 60 ns.length)).foldl (cellStep ns) [112, 77, 6, 169, 12566, 13005]
theorem cellsFold_length (ns : List Int) (l : List Nat) : ∀ cs : List Int, (l.foldl (cellStep ns) cs).length = cs.length := by
  induction l with
  | nil => intro cs; rfl
  | cons i l ih => intro cs; rw [List.foldl_cons, ih]; simp [cellStep]
theorem rng_get {lo hi : Int} {i : Nat} {y : PV} (h : (rng lo hi)[i]? = some y) : y = .int (lo + (i : Int)) ∧ i < (hi - lo).toNat := by
  unfold rng at h
  rw [List.getElem?_map] at h
  by_cases hi' : i < (hi - lo).toNat
  · rw [List.getElem?_range hi'] at h
    simp at h
    exact ⟨h.symm, hi'⟩
  · rw [List.getElem?_eq_none (by simpa using hi')] at h
    simp at h
theorem rng_length (lo hi : Int) : (rng lo hi).length = (hi - lo).toNat := by simp [rng]
theorem rng_flt (lo hi : Int) : ∀ y ∈ rng lo hi, flt y = true := by
  intro y hy
  obtain ⟨i, _, rfl⟩ := List.mem_map.mp hy
  rfl
theorem cells_o : ∀ P, ((H1 P).get? 146).map (·.data) = some (.func (lawFd 13 "_law_cells" 145)) := by intro P; kernel_rfl
theorem cells_c : ∀ P, codeOk (Str.ofString "_law_cells") ((H1 P).get? 145) = true := by intro P; kernel_rfl
section
variable {c : Cx} {ρ : List (Str × PV)}
theorem cl_cells {n : Nat} (hH : c.H = []) (hN : c.N = n + 1) {ns : List Int} (hz : ns.length ≤ 65536) : Cl c ρ (.ref 146) [.list (ns.map .int)] (.list ((cellsOf ns).map .int)) := by
  refine Cl.fn (names := [Str.ofString "script"]) (fd := lawFd 13 "_law_cells" 145) (cd := 145) hH hN cells_o (by decide) rfl cells_c (by decide) rfl rfl rfl rfl rfl (bind1 rfl (fun _ => rfl))
    (by kernel_rfl) (by decide +kernel) (by kernel_rfl) (by kernel_rfl) (by kernel_rfl) (ρ₀ := [(Str.ofString "script", .list (ns.map .int))]) rfl (fun L K => ?_)
  apply Bd.letM false rfl (by kernel_rfl) (by kernel_rfl) (by kernel_rfl)
  · repeat' (walk_at "step")
  · decide
  intro D hD
  have hcut : (cut (ns.map PV.int) none (some 60)).length = min 60 ns.length := by
    show (cut (ns.map PV.int) none (some ((60 : Nat) : Int))).length = _
    unfold cut
    simp only [Option.elim, PySem.clipAt_nat, List.drop_zero, Nat.sub_zero]
    rw [List.length_take, List.length_map, Nat.min_assoc, Nat.min_self]
  apply B1.for (σ := List Int) (ys := rng 0 ((cut (ns.map PV.int) none (some 60)).length)) (fun i cs => cs = (List.range i).foldl (cellStep ns) [112, 77, 6, 169, 12566, 13005]) (fun cs => cs.map .int) (fun _ => [(Str.ofString "cells", .obj D), (Str.ofString "script", .list (ns.map .int))]) [112, 77, 6, 169, 12566, 13005] rfl (by walk_at "mem") (by intro v; kernel_rfl) (by kernel_rfl)
  · repeat' (walk_at "step")
    rw [hcut]; omega
  · rfl
  · rfl
  · exact fun _ h => h
  · intro t; kernel_rfl
  · exact rng_flt _ _
  · intro i y t K' hy hInv
    obtain ⟨rfl, hi⟩ := rng_get hy
    have hlen : t.length = 6 := by rw [hInv, cellsFold_length]; rfl
    have hmod : ((0 : Int) + (i : Int)) % 6 = ((i % 6 : Nat) : Int) := by rw [Int.zero_add]; rfl
    have hi60 : i < min 60 ns.length := by rwa [hcut, Int.sub_zero, Int.toNat_natCast] at hi
    apply Bd.setM rfl (by walk_at "mem") (by kernel_rfl) (p := .int (t.getD (i % 6) 0 + ns.getD i 0 % 10 ^ 9)) (k := ((i % 6 : Nat) : Int))
    · apply Ev.binop (p := .int (t.getD (i % 6) 0)) (q := .int (ns.getD i 0 % 10 ^ 9))
      · apply Ev.item_list (k := ((i % 6 : Nat) : Int))
        · walk_at "step"
        · apply Ev.eq
          · repeat' (walk_at "step")
          · rw [hmod]
        · exact ⟨Int.natCast_nonneg _, by rw [Int.toNat_natCast]; exact get_ints t (i % 6) (by rw [hlen]; exact Nat.mod_lt _ (by decide))⟩
      · apply Ev.eq
        · apply Ev.binop (p := .int (ns.getD i 0)) (q := .int (10 ^ 9))
          · apply Ev.item_list
            · walk_at "step"
            · walk_at "step"
            · exact ⟨by rw [Int.zero_add]; exact Int.natCast_nonneg i, by rw [Int.zero_add, Int.toNat_natCast]; exact get_ints ns i (Nat.lt_of_lt_of_le hi60 (Nat.min_le_right _ _))⟩
          · exact Ev.binop Ev.cint Ev.cint (Bo.pow_int (b := 9) (by decide) (by decide) (by decide))
          · exact Bo.mod_pos (by decide)
        · rfl
      · exact Bo.add_int
    · rfl
    · apply Ev.eq
      · repeat' (walk_at "step")
      · rw [hmod]
    · simp; omega
    · apply Bd.nil
      intro s X
      refine ⟨cellStep ns t i, ?_, ?_⟩
      · rw [hInv, List.range_succ, List.foldl_append]; rfl
      · have := X.weak (r := [(Str.ofString "cells", PV.obj D), (Str.ofString "script", .list (ns.map .int))]) (fun e he => List.mem_cons_of_mem _ he)
        rw [Int.toNat_natCast] at this
        simpa [cellStep, List.map_set] using this
  · intro t hInv
    have ht : t = cellsOf ns := by rw [hInv, rng_length, cellsOf, hcut]; congr 2
    subst ht
    apply B1.fin rfl (by walk_at "mem") hD
    walk_at "step"
end

end
section
open PySem PySem.W PyProof.Rows PySem.Calls
set_option Elab.async false
set_option maxRecDepth 100000
set_option maxHeartbeats 0
set_option linter.all false

/-! in_table_b1 -/
noncomputable def b1Es : Array (Int × Value) := #[(65024, (.int 65024 435)), (65025, (.int 65025 436)), (65026, (.int 65026 437)), (65027, (.int 65027 438)), (65028, (.int 65028 439)), (65029, (.int 65029 440)), (6150, (.int 6150 421)), (65030, (.int 65030 441)), (65031, (.int 65031 442)), (65032, (.int 65032 443)), (65033, (.int 65033 444)), (6155, (.int 6155 422)), (6156, (.int 6156 423)), (6157, (.int 6157 424)), (8203, (.int 8203 425)), (8204, (.int 8204 426)), (8205, (.int 8205 427)), (65034, (.int 65034 445)), (65035, (.int 65035 446)), (65036, (.int 65036 447)), (65037, (.int 65037 448)), (65038, (.int 65038 449)), (65039, (.int 65039 450)), (173, (.int 173 419)), (847, (.int 847 420)), (8288, (.int 8288 428)), (65279, (.int 65279 429))]
noncomputable def b1Nums : List Int := b1Es.toList.map fun e => match e.2 with | .int i _ => i | _ => 0
noncomputable def inB1 (k : Int) : Bool := b1Nums.contains k
noncomputable def b1Tab (P : Params) : SetTable := { mask := 127, place := #[0, 1, 2, 3, 4, 5, 6, 7, 8, 9, 10, 11, 12, 13, 14, 15, 16, 17, 18, 19, 20, 21, 22, 45, 79, 96, 127], dummies := #[], finger := 0, led := !P.followText "set-order", moves := 2, plain := true }
theorem b1_obj (P : Params) : (H1 P).get? 83 = some ⟨.type "set", none, .set b1Es 29 (b1Tab P), #[]⟩ := by kernel_rfl
theorem b1_fits (P : Params) : (b1Tab P).fits b1Es.size = true := by kernel_rfl
theorem b1_setOf {prog : Program} {w w' : World} {h : Heap} (hh : ∀ b o, b ≠ tb → (H1 w'.params).get? b = some o → h.get? b = some o) : h.SetOf (intKind prog w) 83 inB1 27 := by
  refine ⟨_, b1Es, 29, b1Tab w'.params, hh _ _ (by decide) (b1_obj w'.params), ⟨rfl, rfl, rfl⟩, rfl, fun e he => ?_, fun k => ?_, by decide, b1_fits _, by decide⟩
  · have : b1Es.toList.all (fun e => match e.2 with | .int i _ => e.1 == hashInt i && e.2.scannable | _ => false) = true := by decide +kernel
    have := List.all_eq_true.mp this e he
    split at this
    · rename_i i t hi
      simp only [Bool.and_eq_true, beq_iff_eq] at this
      exact ⟨⟨i, by rw [hi]; exact intKind_is _ _ _ _, this.1⟩, this.2⟩
    · cases this
  · unfold inB1
    rw [List.contains_iff_mem]
    unfold b1Nums
    rw [List.mem_map]
    have hall : ∀ e ∈ b1Es.toList, ∃ i t, e.2 = .int i t := by
      intro e he
      have : b1Es.toList.all (fun e => match e.2 with | .int _ _ => true | _ => false) = true := by decide +kernel
      have := List.all_eq_true.mp this e he
      split at this
      · rename_i i t hi; exact ⟨i, t, hi⟩
      · cases this
    constructor
    · rintro ⟨e, he, hk⟩
      obtain ⟨i, t, hi⟩ := hall e he
      rw [hi] at hk
      exact ⟨e, he, by rw [hi, ← hk]; exact intKind_is _ _ _ _⟩
    · rintro ⟨e, he, hk⟩
      obtain ⟨i, t, hi⟩ := hall e he
      refine ⟨e, he, ?_⟩
      rw [hi] at hk ⊢
      simp [intKind, Value.isInt] at hk
      exact hk
noncomputable def b1Fd : FuncData := { name := Str.ofString "in_table_b1", qualname := Str.ofString "in_table_b1", params := sArgs (stm 9), body := .stmts (sBody (stm 9)), scope := sScope (stm 9), globals := 3, closure := [], defaults := .none, kwdefaults := .none, doc := .none, pyModule := (.str (Str.ofString "cpy313.stringprep") 417), annotations := none, code := (.ref 92), closureTuple := .none, builtins := 0 }
theorem b1_o : ∀ P, ((H1 P).get? 93).map (·.data) = some (.func b1Fd) := by intro P; kernel_rfl
theorem b1_c : ∀ P, codeOk (Str.ofString "in_table_b1") ((H1 P).get? 92) = true := by intro P; kernel_rfl
section
variable {c : Cx} {ρ : List (Str × PV)}
theorem ev_b1 {e : Expr} {p pos : Pos} {k : Int} (hk : isGl c (Str.ofString "b1_set")) (he : Ev c ρ e (.int k)) : Ev c ρ (.Compare e [.In] [.Name (Str.ofString "b1_set") p] pos) (.bool (inB1 k)) := .mk fun s Q E S hQ =>
  wpAny_Compare1 (he.run s _ _ S fun v s₁ k₁ r₁ => by
    obtain ⟨t, rfl⟩ := r₁
    have S₁ := S.keeps k₁
    have hn : Nm c ρ (.Name (Str.ofString "b1_set") p) (.ref 83) := Nm.glob hk (by intro P; kernel_rfl) (by kernel_rfl)
    refine hn.run s₁ _ _ S₁ (wpAny_inSet_of (K := Int) (knd := intKind pg c.w) (S := inB1) (n := 27) (k := k) (intKind_is _ _ _ _) rfl (b1_setOf S₁.gd.keep) ?_)
    exact hQ _ _ (k₁.trans (.tok s₁ _)) rfl) (by kernel_rfl)
theorem cl_b1 {n : Nat} (hH : c.H = []) (hN : c.N = n + 1) {x : Nat} : Cl c ρ (.ref 93) [.str [x]] (.bool (inB1 x)) := by
  refine Cl.fn (names := [Str.ofString "code"]) (fd := b1Fd) (cd := 92) hH hN b1_o (by decide) rfl b1_c (by decide) rfl rfl rfl rfl rfl (bind1 rfl (fun _ => rfl))
    (by kernel_rfl) (by decide +kernel) (by kernel_rfl) (by kernel_rfl) (by kernel_rfl) (ρ₀ := [(Str.ofString "code", .str [x])]) rfl (fun L K => ?_)
  apply B0.fin rfl
  apply ev_b1
  · walk_at "gl"
  · repeat' (walk_at "step")
end

end
section
open PySem PySem.W PyProof.Rows PySem.Calls
set_option Elab.async false
set_option maxRecDepth 100000
set_option maxHeartbeats 0
set_option linter.all false

/-! map_table_b3 -/
inductive EntsOf : List DictEntry → List (Int × Str) → Prop
  | nil : EntsOf [] []
  | cons {e : DictEntry} {p : Int × Str} {es : List DictEntry} {ps : List (Int × Str)} (h : ∃ t u, e.key = .int p.1 t ∧ e.val = .str p.2 u ∧ e.hash = p.1) (r : EntsOf es ps) : EntsOf (e :: es) (p :: ps)
theorem EntsOf.append {es fs : List DictEntry} {ps qs : List (Int × Str)} (x : EntsOf es ps) (y : EntsOf fs qs) : EntsOf (es ++ fs) (ps ++ qs) := by
  induction x with
  | nil => exact y
  | cons h _ ih => exact .cons h ih
theorem entsOf_ents : ∀ (L : List (Int × Str)) (t : Nat), EntsOf (ents t L) L
  | [], _ => .nil
  | (k, v) :: r, t => .cons ⟨t, t + 1, rfl, rfl, rfl⟩ (entsOf_ents r _)
theorem entsOf_ents2 : ∀ (L : List (Int × Str)) (t : Nat), EntsOf (ents2 t L) L
  | [], _ => .nil
  | (k, v) :: r, t => .cons ⟨t, t + 1, rfl, rfl, rfl⟩ (entsOf_ents2 r _)
theorem entsOf_all : ∀ (m k : Nat) (L : List (Int × Str)), EntsOf (entsAll m k L) L
  | 0, k, L => entsOf_ents2 L k
  | m + 1, k, L => by
    have := (entsOf_ents (L.take 17) k).append (entsOf_all m (k + 51) (L.drop 17))
    rwa [List.take_append_drop] at this
noncomputable def b3Find (k : Int) : Option Str := (b3L.find? fun p => p.1 == k).map (·.2)
theorem EntsOf.find {es : List DictEntry} {ps : List (Int × Str)} (x : EntsOf es ps) (k : Int) : match (es.find? fun e => Value.isInt k e.key).map (·.val), (ps.find? fun p => p.1 == k).map (·.2) with
    | some v, some s => ∃ t, v = .str s t
    | none, none => True
    | _, _ => False := by
  induction x with
  | nil => trivial
  | cons h _ ih =>
    rename_i e p es ps _
    obtain ⟨t, u, h1, h2, h3⟩ := h
    rw [List.find?_cons, List.find?_cons, h1]
    have : Value.isInt k (.int p.1 t) = (p.1 == k) := by
      rw [Bool.eq_iff_iff]; simp [Value.isInt]
    rw [this]
    cases hk : p.1 == k with
    | true => simp only [Option.map_some]; exact ⟨u, h2⟩
    | false => exact ih
theorem EntsOf.keys {es : List DictEntry} {ps : List (Int × Str)} (x : EntsOf es ps) : (ps.all fun p => hashInt p.1 == p.1) = true → ∀ e ∈ es, ∃ k t, e.key = .int k t ∧ e.hash = hashInt k := by
  induction x with
  | nil => intro _ e he; cases he
  | cons h _ ih =>
    rename_i e p es ps _
    intro hp
    simp only [List.all_cons, Bool.and_eq_true, beq_iff_eq] at hp
    intro e' he
    rcases List.mem_cons.mp he with rfl | he
    · obtain ⟨t, u, h1, h2, h3⟩ := h
      exact ⟨p.1, t, h1, by rw [h3, hp.1]⟩
    · exact ih hp.2 e' he
theorem b3_hash : (b3L.all fun p => hashInt p.1 == p.1) = true := by decide +kernel
noncomputable def b3Es : Array DictEntry := (entsAll 38 486 b3L).toArray
noncomputable def b3Val (k : Int) : Option Value := findBy Value.isInt b3Es k
theorem b3_val (k : Int) : match b3Val k, b3Find k with
    | some v, some s => ∃ t, v = .str s t
    | none, none => True
    | _, _ => False := by
  have := (entsOf_all 38 486 b3L).find k
  unfold b3Val b3Find findBy b3Es
  rw [List.find?_toArray]
  exact this
theorem b3_obj (P : Params) : (H1 P).get? 94 = some (dictO (entsAll 38 486 b3L) 650) := by kernel_rfl
theorem b3_map {prog : Program} {w w' : World} {h : Heap} (hh : ∀ b o, b ≠ tb → (H1 w'.params).get? b = some o → h.get? b = some o) : h.MapOf (intKind prog w) 94 b3Val := by
  refine ⟨_, b3Es, 650, hh _ _ (by decide) (b3_obj w'.params), ⟨rfl, rfl, rfl⟩, rfl, fun e he => ?_, fun k => rfl⟩
  obtain ⟨k, t, h1, h2⟩ := (entsOf_all 38 486 b3L).keys b3_hash e (by simpa [b3Es] using he)
  exact ⟨k, by rw [h1]; exact intKind_is _ _ _ _, h2⟩
noncomputable def b3Fd : FuncData := { name := Str.ofString "map_table_b3", qualname := Str.ofString "map_table_b3", params := sArgs (stm 11), body := .stmts (sBody (stm 11)), scope := sScope (stm 11), globals := 3, closure := [], defaults := .none, kwdefaults := .none, doc := .none, pyModule := (.str (Str.ofString "cpy313.stringprep") 417), annotations := none, code := (.ref 138), closureTuple := .none, builtins := 0 }
theorem b3_o : ∀ P, ((H1 P).get? 139).map (·.data) = some (.func b3Fd) := by intro P; kernel_rfl
theorem b3_c : ∀ P, codeOk (Str.ofString "map_table_b3") ((H1 P).get? 138) = true := by intro P; kernel_rfl
/-- what map_table_b3 gives for a sign -/
noncomputable def mapB3 (x : Nat) : List Nat := match b3Find x with
  | some s => s.cps.toList
  | none => (Txt.lower (S [x])).cps.toList
noncomputable def b3PV (k : Int) : PV := match b3Find k with
  | some s => .str s.cps.toList
  | none => .none
section
variable {c : Cx} {ρ : List (Str × PV)}
theorem ev_b3get {e : Expr} {p apos pos : Pos} {k : Int} (hk : isGl c (Str.ofString "b3_exceptions")) (he : Ev c ρ e (.int k)) (hline : (apos.endLine == pos.line) = true) (hst : starEach [e] c.env = (false, eval e c.env) :: starEach [] c.env)
    (hfew : ∀ q q', ((backTo q (starEach [e] c.env)).all (fun x => !x.1) && (backToKw q' (keywordEach [] c.env)).all (fun x => x.1.isSome)
      && decide ([e].length + ([] : List Keyword).length + (if ([] : List Keyword).isEmpty then 0 else 1) < 30)) = true) (hp : plainArgs c [e]) :
    Ev c ρ (.Call (.Attribute (.Name (Str.ofString "b3_exceptions") p) (Str.ofString "get") apos) [e] [] pos) (b3PV k) := .mk fun s Q E S hQ => by
  have hn : Nm c ρ (.Name (Str.ofString "b3_exceptions") p) (.ref 94) := Nm.glob hk (by intro P; kernel_rfl) (by kernel_rfl)
  refine wpAny_Call_method rfl (hfew _ _) hline F.plainAttrs_dict F.slot_dict_get F.type_dict_get (hn.run s _ _ S ?_)
  have hd := S.gd.keep _ _ (by decide) (b3_obj c.w.params)
  refine ⟨⟨_, hd, rfl⟩, fun a ha => by cases ha; exact ⟨_, hd, rfl⟩, Calls.callWith_builtin (hp _) (evalArgs_row (Evs.cons he Evs.nil hst) S hst fun vs s₁ k₁ r₁ => ?_)⟩
  obtain ⟨v, _, rfl, ⟨t, rfl⟩, rfl⟩ := r₁
  have S₁ := S.keeps k₁
  have hv := b3_val k
  have hd₁ := S₁.gd.keep _ _ (by decide) (b3_obj c.w.params)
  refine call_meetsIn F.slot_dict_get ⟨_, hd₁, rfl⟩ F.entry_dict_get (F.args_dict_get_2 _ _) (meets_dict_get (intKind pg c.w) 94 (k := k) (intKind_is _ _ _ _) (by decide)) ⟨b3Val, b3_map S₁.gd.keep, ?_⟩
  refine hQ _ _ (k₁.trans (.tok s₁ _)) ?_
  unfold b3PV
  cases h1 : b3Val k <;> cases h2 : b3Find k <;> rw [h1, h2] at hv
  · rfl
  · exact hv.elim
  · exact hv.elim
  · obtain ⟨t', rfl⟩ := hv
    exact ⟨t', by simp⟩
theorem cl_b3 {n : Nat} (hH : c.H = []) (hN : c.N = n + 1) {x : Nat} : Cl c ρ (.ref 139) [.str [x]] (.str (mapB3 x)) := by
  refine Cl.fn (names := [Str.ofString "code"]) (fd := b3Fd) (cd := 138) hH hN b3_o (by decide) rfl b3_c (by decide) rfl rfl rfl rfl rfl (bind1 rfl (fun _ => rfl))
    (by kernel_rfl) (by decide +kernel) (by kernel_rfl) (by kernel_rfl) (by kernel_rfl) (ρ₀ := [(Str.ofString "code", .str [x])]) rfl (fun L K => ?_)
  apply B0.let rfl (by kernel_rfl) (by kernel_rfl) (by kernel_rfl)
  · apply ev_b3get (k := x)
    · walk_at "gl"
    · repeat' (walk_at "step")
    · kernel_rfl
    · kernel_rfl
    · intro _ _; kernel_rfl
    · intro _; kernel_rfl
  unfold b3PV mapB3
  cases hb : b3Find x with
  | some s =>
    apply B0.ite rfl
    · repeat' (walk_at "step")
    · intro _
      apply B0.finC rfl
      walk_at "step"
    · intro h; cases h
  | none =>
    apply B0.ite rfl
    · repeat' (walk_at "step")
    · intro h; cases h
    · intro _
      apply Bd.cont
      apply B0.fin rfl
      apply Ev.meth_str0 F.slot_str_lower F.type_str_lower
      · walk_at "step"
      · apply Cl.lower; simp
end

end
section
open PySem PySem.W PyProof.Rows PySem.Calls
set_option Elab.async false
set_option maxRecDepth 100000
set_option maxHeartbeats 0
set_option linter.all false

/-! _law_prepared -/
noncomputable def prepared (t : List Nat) : List Nat := (t.filter fun (x : Nat) => !inB1 x).flatMap mapB3
theorem range_getD (t : List Nat) : (List.range t.length).map (fun i => t.getD i 0) = t := by
  apply List.ext_getElem?
  intro i
  rw [List.getElem?_map]
  by_cases h : i < t.length
  · rw [List.getElem?_range h]; simp [h]
  · rw [List.getElem?_eq_none (by simpa using h), List.getElem?_eq_none (by omega)]; rfl
theorem prep_o : ∀ P, ((H1 P).get? 165).map (·.data) = some (.func (lawFd 16 "_law_prepared" 164)) := by intro P; kernel_rfl
theorem prep_c : ∀ P, codeOk (Str.ofString "_law_prepared") ((H1 P).get? 164) = true := by intro P; kernel_rfl
noncomputable def fHeld : PV → PV
  | .str [x] => .bool (inB1 x)
  | _ => .none
noncomputable def qPlain (t : List Nat) : PV → Bool
  | .int i => !inB1 (t.getD i.toNat 0)
  | _ => false
noncomputable def fPlain (t : List Nat) : PV → PV
  | .int i => .str (mapB3 (t.getD i.toNat 0))
  | _ => .none
noncomputable def qOdd : PV → Bool
  | .bool b => !isS (.bool b) (.bool true) && (!isS (.bool b) (.bool false) && true)
  | _ => false
theorem held_is (t : List Nat) : (((t.map fun (n : Nat) => PV.str [n]).filter fun _ => true).map fHeld) = t.map fun (n : Nat) => PV.bool (inB1 n) := by
  rw [List.filter_eq_self.mpr (by simp), List.map_map]; rfl
theorem plain_is (t : List Nat) : (((rng 0 (t.length : Int)).filter (qPlain t)).map (fPlain t)) = ((t.filter fun (x : Nat) => !inB1 x).map mapB3).map .str := by
  have e : rng 0 (t.length : Int) = (List.range t.length).map fun (i : Nat) => PV.int (i : Int) := by simp [rng]
  rw [e, List.filter_map, List.map_map]
  conv => rhs; rw [← range_getD t]
  rw [List.filter_map, List.map_map, List.map_map]
  simp only [Function.comp_def, qPlain, fPlain, Int.toNat_natCast]
theorem odd_is (t : List Nat) : (((t.map fun (n : Nat) => PV.bool (inB1 n)).filter qOdd).map id) = [] := by
  rw [List.map_id, List.filter_eq_nil_iff]
  intro y hy
  obtain ⟨n, _, rfl⟩ := List.mem_map.mp hy
  cases inB1 n <;> simp [qOdd, isS_b, isS_n, isS_nb, isS_bn]
theorem noObjs_of {xs : List PV} (h : ∀ x ∈ xs, noObj x = true) : noObjs xs = true := by
  induction xs with
  | nil => rfl
  | cons x xs ih => simp only [noObjs, Bool.and_eq_true]; exact ⟨h x List.mem_cons_self, ih fun y hy => h y (List.mem_cons_of_mem _ hy)⟩
theorem rng_noObjs (lo hi : Int) : noObjs (rng lo hi) = true := noObjs_of fun x hx => by
  obtain ⟨i, _, rfl⟩ := List.mem_map.mp hx; rfl
section
variable {c : Cx} {ρ : List (Str × PV)}
theorem Ev.fn {x : Str} {p pos : Pos} {f : Addr} {fd : FuncData} {e : Expr} {es : List Expr} {ps : List PV} {r : PV} (hk : isGl c x) (hv : ∀ P, (H1 P).nsMap mainNs x = some (.ref f)) (hd : (x == ("__debug__" : Str)) = false) (ho : ∀ P, ((H1 P).get? f).map (·.data) = some (.func fd)) (hf : f ≠ tb)
    (hst : starEach (e :: es) c.env = (false, eval e c.env) :: starEach es c.env) (ha : Evs c ρ (e :: es) ps) (hc : Cl c ρ (.ref f) ps r) : Ev c ρ (.Call (.Name x p) (e :: es) [] pos) r :=
  Ev.call_def (Nm.glob hk hv hd) ho hf ha hc hst
theorem Tr.ofBool {e : Expr} {b : Bool} (he : isTrue e c.env (eval e c.env) = (do let v ← eval e c.env; standAt e.pos; holding [v] (truthy v))) (h : Ev c ρ e (.bool b)) : Tr c ρ e b := Tr.of_ev h rfl he
theorem cl_prep {n : Nat} (hH : c.H = []) (hN : c.N = n + 2) {t : List Nat} (hz : t.length ≤ 60000) (hz2 : (prepared t).length ≤ 65536) : Cl c ρ (.ref 165) [.str t] (.str (prepared t)) := by
  refine Cl.fn (names := [Str.ofString "text"]) (fd := lawFd 16 "_law_prepared" 164) (cd := 164) hH hN prep_o (by decide) rfl prep_c (by decide) rfl rfl rfl rfl rfl (bind1 rfl (fun _ => rfl))
    (by kernel_rfl) (by decide +kernel) (by kernel_rfl) (by kernel_rfl) (by kernel_rfl) (ρ₀ := [(Str.ofString "text", .str t)]) rfl (fun L K => ?_)
  have hN' : (c.call (lawFd 16 "_law_prepared" 164) L 165).N = n + 1 := by show c.N - 1 = n + 1; omega
  apply B0.let rfl (by kernel_rfl) (by kernel_rfl) (by kernel_rfl) (p := .list (t.map fun (n : Nat) => PV.bool (inB1 n)))
  · apply Ev.eq
    · apply Ev.comp (bb := true) (ρ' := []) (fun _ => true) fHeld
      case hit => walk_at "step"
      case hok => kernel_rfl
      case hcell => kernel_rfl
      case hkind => kernel_rfl
      case hnames => kernel_rfl
      case hx => kernel_rfl
      case hd => kernel_rfl
      case hsub => exact fun _ h => nomatch h
      case hcap => kernel_rfl
      case hno => exact noObjs_of fun x hx => by obtain ⟨i, _, rfl⟩ := List.mem_map.mp hx; rfl
      case hsz => simp; omega
      case hq => intro y _ C; exact Trs.nil
      case hf =>
        intro y hy _
        obtain ⟨x, _, rfl⟩ := List.mem_map.mp hy
        refine ⟨rfl, fun C => ?_⟩
        apply Ev.fn (fd := b1Fd) (by walk_at "gl") (by intro P; kernel_rfl) (by kernel_rfl) b1_o (by decide) (by kernel_rfl)
        · repeat' (walk_at "step")
        · show Cl _ _ _ [PV.str [x]] (PV.bool (inB1 x))
          apply cl_b1
          · rfl
          · exact hN'
    · rw [held_is]
  apply B0.let rfl (by kernel_rfl) (by kernel_rfl) (by kernel_rfl) (p := .str (prepared t))
  · apply Ev.meth_str F.slot_str_join F.type_str_join
    · walk_at "step"
    · apply Evs.cons
      · apply Ev.eq (q := .list (((t.filter fun (x : Nat) => !inB1 x).map mapB3).map .str))
        · apply Ev.comp (bb := true) (ρ' := [(Str.ofString "held", .list (t.map fun (n : Nat) => PV.bool (inB1 n))), (Str.ofString "text", .str t)]) (qPlain t) (fPlain t)
          case hit =>
            repeat' (walk_at "step")
            · omega
            · omega
          case hok => kernel_rfl
          case hcell => kernel_rfl
          case hkind => kernel_rfl
          case hnames => kernel_rfl
          case hx => kernel_rfl
          case hd => kernel_rfl
          case hsub => exact fun _ h => h
          case hcap => kernel_rfl
          case hno => exact rng_noObjs _ _
          case hsz => rw [rng_length]; omega
          case hq =>
            intro y hy C
            obtain ⟨i, hi, rfl⟩ := List.mem_map.mp hy
            have hi : i < t.length := by have := List.mem_range.mp hi; omega
            apply Trs.one
            have : qPlain t (PV.int (0 + (i : Int))) = !inB1 (t.getD i 0 : Nat) := by simp [qPlain]
            rw [this]
            apply Tr.not
            apply Tr.ofBool (by kernel_rfl)
            apply Ev.item_list
            · walk_at "step"
            · walk_at "step"
            · exact ⟨by omega, by simp [hi]⟩
          case hf =>
            intro y hy hq
            obtain ⟨i, hi, rfl⟩ := List.mem_map.mp hy
            have hi : i < t.length := by have := List.mem_range.mp hi; omega
            refine ⟨rfl, fun C => ?_⟩
            have : fPlain t (PV.int (0 + (i : Int))) = .str (mapB3 (t.getD i 0)) := by simp [fPlain]
            rw [this]
            apply Ev.fn (fd := b3Fd) (by walk_at "gl") (by intro P; kernel_rfl) (by kernel_rfl) b3_o (by decide) (by kernel_rfl)
            · apply Evs.cons (p := .str [t.getD i 0])
              · apply Ev.item_str
                · walk_at "step"
                · walk_at "step"
                · omega
                · exact ⟨by omega, by simp [hi]⟩
              · exact Evs.nil
            · apply cl_b3
              · rfl
              · exact hN'
        · rw [plain_is]
      · exact Evs.nil
      · kernel_rfl
    · have := Cl.join (c := c.call (lawFd 16 "_law_prepared" 164) L 165) (ρ := [(Str.ofString "held", .list (t.map fun (n : Nat) => PV.bool (inB1 n))), (Str.ofString "text", .str t)]) (xs := (t.filter fun (x : Nat) => !inB1 x).map mapB3) (by rw [← List.flatMap_def]; exact hz2)
      rw [← List.flatMap_def] at this
      exact this
    all_goals walk_at "step"
  apply B0.fin rfl
  apply Ev.ifexp
  · apply Tr.cmp
    · apply Ev.comp (bb := false) (ρ' := []) qOdd id
      case hit => walk_at "step"
      case hok => kernel_rfl
      case hcell => kernel_rfl
      case hkind => kernel_rfl
      case hnames => kernel_rfl
      case hx => kernel_rfl
      case hd => kernel_rfl
      case hsub => exact fun _ h => nomatch h
      case hcap => kernel_rfl
      case hno => exact noObjs_of fun x hx => by obtain ⟨i, _, rfl⟩ := List.mem_map.mp hx; rfl
      case hsz => simp; omega
      case hq =>
        intro y hy C
        obtain ⟨x, _, rfl⟩ := List.mem_map.mp hy
        apply Trs.one
        show Tr _ _ _ (!isS (.bool (inB1 x)) (.bool true) && (!isS (.bool (inB1 x)) (.bool false) && true))
        repeat' (walk_at "step")
      case hf =>
        intro y hy hq
        obtain ⟨x, _, rfl⟩ := List.mem_map.mp hy
        exact ⟨rfl, fun C => by show Ev _ _ _ (PV.bool _); walk_at "step"⟩
    · apply Ev.list Evs.nil (by decide)
    · rw [odd_is]; exact Cm.eq_nil
    · kernel_rfl
  · intro _; walk_at "step"
  · intro h; cases h
end

end
section
open PySem PySem.W PyProof.Rows PySem.Calls
set_option Elab.async false
set_option maxRecDepth 100000
set_option maxHeartbeats 0
set_option linter.all false

/-! _law_end -/
noncomputable def occOf (nm part : List Nat) (lo : Nat) : List Nat := ((List.range (nm.length + 1 - lo)).map (lo + ·)).filter fun s => cut nm (some (s : Int)) (some ((s : Int) + part.length)) == part
noncomputable def endMid (nm : List Nat) : List (List Nat) → Nat → Option Nat
  | [], lo => some lo
  | p :: ps, lo => match occOf nm p lo with
    | [] => none
    | s :: _ => endMid nm ps (s + p.length)
noncomputable def lawEnd (first : List Nat) (mid : List (List Nat)) (last nm : List Nat) : Int :=
  if cut nm none (some (first.length : Int)) == first then
    match endMid nm mid first.length with
    | none => 0
    | some lo => match (occOf nm last lo).getLast? with
      | none => 0
      | some s => (s : Int) + last.length + 1
  else 0
theorem occ_le {nm part : List Nat} {lo s : Nat} (h : s ∈ occOf nm part lo) : s ≤ nm.length := by
  unfold occOf at h
  obtain ⟨h, _⟩ := List.mem_filter.mp h
  obtain ⟨i, hi, rfl⟩ := List.mem_map.mp h
  have := List.mem_range.mp hi
  omega
theorem end_o : ∀ P, ((H1 P).get? 182).map (·.data) = some (.func (lawFd 19 "_law_end" 181)) := by intro P; kernel_rfl
theorem end_c : ∀ P, codeOk (Str.ofString "_law_end") ((H1 P).get? 181) = true := by intro P; kernel_rfl
noncomputable def qOcc (nm part : List Nat) : PV → Bool
  | .int i => eqS (.str (cut nm (some i) (some (i + part.length)))) (.str part)
  | _ => false
theorem occ_is (nm part : List Nat) (lo : Nat) : (((rng (lo : Int) ((nm.length : Int) + 1)).filter (qOcc nm part)).map id) = (occOf nm part lo).map fun (s : Nat) => PV.int (s : Int) := by
  have e : rng (lo : Int) ((nm.length : Int) + 1) = ((List.range (nm.length + 1 - lo)).map (lo + ·)).map fun (s : Nat) => PV.int (s : Int) := by
    unfold rng
    rw [show ((nm.length : Int) + 1 - (lo : Int)).toNat = nm.length + 1 - lo by omega, List.map_map]
    apply List.map_congr_left
    intro i _
    simp
  rw [List.map_id, e, List.filter_map]
  rfl
section
variable {c : Cx} {ρ : List (Str × PV)}
theorem cl_end {n : Nat} (hH : c.H = []) (hN : c.N = n + 1) {first last nm : List Nat} {mid : List (List Nat)} (hz : nm.length ≤ 1000 ∧ first.length ≤ 1000 ∧ last.length ≤ 1000 ∧ mid.length ≤ 1000 ∧ ∀ p ∈ mid, p.length ≤ 1000) :
    Cl c ρ (.ref 182) [.list ((first :: (mid ++ [last])).map .str), .str nm] (.int (lawEnd first mid last nm)) := by
  refine Cl.fn (names := [Str.ofString "parts", Str.ofString "name"]) (fd := lawFd 19 "_law_end" 181) (cd := 181) hH hN end_o (by decide) rfl end_c (by decide) rfl rfl rfl rfl rfl (bind2 rfl (fun _ _ => rfl))
    (by kernel_rfl) (by decide +kernel) (by kernel_rfl) (by kernel_rfl) (by kernel_rfl) (ρ₀ := [(Str.ofString "parts", .list ((first :: (mid ++ [last])).map .str)), (Str.ofString "name", .str nm)]) rfl (fun L K => ?_)
  have hp0 : Ev (c.call (lawFd 19 "_law_end" 181) L 182) [(Str.ofString "parts", .list ((first :: (mid ++ [last])).map .str)), (Str.ofString "name", .str nm)] (.Name (Str.ofString "parts") default) (.list ((first :: (mid ++ [last])).map .str)) := by walk_at "step"
  apply B0.let rfl (by kernel_rfl) (by kernel_rfl) (by kernel_rfl) (p := .int first.length)
  · with_reducible apply Ev.call_bltn
    · walk_at "nmb"
    · apply Evs.cons (p := .str first)
      · apply Ev.item_list
        · walk_at "step"
        · walk_at "step"
        · exact ⟨by omega, rfl⟩
      · exact Evs.nil
    · exact Cl.len_str (by omega)
    all_goals walk_at "step"
  apply B0.ite rfl
  · apply Tr.cmp
    · repeat' (walk_at "step")
      omega
    · apply Ev.item_list (x := .str first)
      · walk_at "step"
      · walk_at "step"
      · exact ⟨by omega, rfl⟩
    · walk_at "cm"
    · kernel_rfl
  · intro h
    have h : ¬ (cut nm none (some (first.length : Int)) == first) = true := by
      simpa [eqS_i, eqS_t, eqS_b] using h
    rw [show lawEnd first mid last nm = 0 by rw [lawEnd, if_neg h]]
    apply B0.finC rfl
    walk_at "step"
  · intro h
    have h : (cut nm none (some (first.length : Int)) == first) = true := by
      simpa [eqS_i, eqS_t, eqS_b] using h
    rw [show lawEnd first mid last nm = (match endMid nm mid first.length with
      | none => 0
      | some lo => match (occOf nm last lo).getLast? with
        | none => 0
        | some s => (s : Int) + last.length + 1) by rw [lawEnd, if_pos h]]
    apply Bd.cont
    have hcut : cut ((first :: (mid ++ [last])).map PV.str) (some 1) (some (-1)) = mid.map .str := by
      have e1 : (clipAt (mid.length + 2) 1) = 1 := by rw [show (1 : Int) = ((1 : Nat) : Int) from rfl, clipAt_nat]; omega
      have e2 : (clipAt (mid.length + 2) (-1)) = mid.length + 1 := by rw [show (-1 : Int) = -((1 : Nat) : Int) from rfl, clipAt_neg _ _ (by omega)]; omega
      unfold cut
      have e3 : ((first :: (mid ++ [last])).map PV.str).length = mid.length + 2 := by simp
      rw [e3]
      simp only [Option.elim, e1, e2]
      simp
    have hl1 : ((first :: (mid ++ [last])).map PV.str)[((first :: (mid ++ [last])).map PV.str).length - 1]? = some (.str last) := by simp
    apply B0.for (σ := Nat) (bb := false) (ys := mid.map .str) (fun i lo => endMid nm mid first.length = endMid nm (mid.drop i) lo ∧ lo ≤ 2000) (fun lo => [(Str.ofString "place", .int lo), (Str.ofString "parts", .list ((first :: (mid ++ [last])).map .str)), (Str.ofString "name", .str nm)]) first.length rfl (by intro v; kernel_rfl) (by kernel_rfl)
    · rw [← hcut]
      apply It.list
      apply Ev.slice_list
      · walk_at "step"
      · exact Pt.some Ev.cint
      · exact Pt.some (Ev.neg Ev.cint)
    · exact ⟨rfl, by omega⟩
    · exact fun _ h => h
    · intro t; kernel_rfl
    · intro i z t K' hz' hI
      have hi : i < mid.length := by
        have := (List.getElem?_eq_some_iff.mp hz').1; simpa using this
      obtain ⟨part, hpart, rfl⟩ : ∃ part, mid[i]? = some part ∧ z = .str part := by
        rw [List.getElem?_map] at hz'
        cases hm : mid[i]? with
        | none => rw [hm] at hz'; cases hz'
        | some part => rw [hm] at hz'; exact ⟨part, rfl, by simpa using hz'.symm⟩
      have hplen : part.length ≤ 1000 := hz.2.2.2.2 part (List.mem_of_getElem? hpart)
      have hi1000 : i ≤ 1000 := by omega
      have hdrop : mid.drop i = part :: mid.drop (i + 1) := by
        rw [List.drop_eq_getElem_cons hi]
        congr 1
        have := (List.getElem?_eq_some_iff.mp hpart).2
        exact this
      have hmid := hI.1
      have hle := hI.2
      rw [hdrop, endMid] at hmid
      apply B0.comp (bb := true) (xs := rng (t : Int) ((nm.length : Int) + 1)) (r := [(Str.ofString "part", .str part), (Str.ofString "place", .int t), (Str.ofString "parts", .list ((first :: (mid ++ [last])).map .str)), (Str.ofString "name", .str nm)])
        (ρ' := [(Str.ofString "part", .str part), (Str.ofString "name", .str nm)]) (qOcc nm part) id rfl (by kernel_rfl) (by kernel_rfl) (fun _ h => h) (by kernel_rfl)
      case hit =>
        repeat' (walk_at "step")
        all_goals omega
      case hok => kernel_rfl
      case hcell => kernel_rfl
      case hkind => kernel_rfl
      case hnames => kernel_rfl
      case hx => kernel_rfl
      case hd => kernel_rfl
      case hsub => intro e he; simp only [List.mem_cons, List.not_mem_nil, or_false] at he ⊢; rcases he with rfl | rfl <;> simp
      case hcap => kernel_rfl
      case hs => intro v; kernel_rfl
      case hno => exact rng_noObjs _ _
      case hsz => rw [rng_length]; omega
      case hq =>
        intro y hy C
        obtain ⟨j, hj, rfl⟩ := List.mem_map.mp hy
        apply Trs.one
        show Tr _ _ _ (eqS (.str (cut nm (some ((t : Int) + (j : Int))) (some ((t : Int) + (j : Int) + part.length)))) (.str part))
        repeat' (walk_at "step")
        all_goals omega
      case hf =>
        intro y hy hq
        obtain ⟨j, hj, rfl⟩ := List.mem_map.mp hy
        exact ⟨rfl, fun C => by show Ev _ _ _ (PV.int _); walk_at "step"⟩
      rw [occ_is]
      cases hocc : occOf nm part t with
      | nil =>
        rw [hocc] at hmid
        rw [hmid]
        apply B0.ite rfl
        · apply Tr.cmp
          · walk_at "step"
          · exact Ev.list Evs.nil (by decide)
          · exact Cm.eq_nil
          · kernel_rfl
        · intro _
          apply B0.ret rfl (p := .int 0)
          · walk_at "step"
          · intro v s X r
            exact ⟨_, X, fun X' => ⟨[], _, fun e he => (nomatch he), X', r⟩⟩
        · intro h; cases h
      | cons s0 ss =>
        rw [hocc] at hmid
        have hs0 : s0 ≤ nm.length := occ_le (part := part) (lo := t) (by rw [hocc]; exact List.mem_cons_self)
        apply B0.ite rfl
        · apply Tr.cmp
          · walk_at "step"
          · exact Ev.list Evs.nil (by decide)
          · exact Cm.eq_nil
          · kernel_rfl
        · intro h; cases h
        · intro _
          apply Bd.cont
          apply B0.set (p := .int (((s0 + part.length : Nat)) : Int)) [(Str.ofString "parts", .list ((first :: (mid ++ [last])).map .str)), (Str.ofString "name", .str nm)] rfl (by kernel_rfl) (by kernel_rfl) (by kernel_rfl)
          · intro e he
            exact List.mem_cons_of_mem _ (List.mem_cons_of_mem _ (List.mem_cons_of_mem _ he))
          · apply Ev.eq
            · apply Ev.binop (p := .int (s0 : Int)) (q := .int part.length)
              · apply Ev.item_list
                · walk_at "step"
                · walk_at "step"
                · exact ⟨by omega, rfl⟩
              · repeat' (walk_at "step")
                omega
              · exact Bo.add_int
            · simp
          · apply Bd.nil
            intro s X
            exact ⟨s0 + part.length, ⟨hmid, by omega⟩, X⟩
    · intro t hI
      have hmid := hI.1
      have hle := hI.2
      rw [List.length_map, List.drop_length, endMid] at hmid
      rw [hmid]
      show Bd _ _ _ _ _ (Back _ _ (.int (match (occOf nm last t).getLast? with
        | none => 0
        | some s => (s : Int) + last.length + 1)))
      have hlast : ∀ (c' : Cx) (ρ'' : List (Str × PV)) (e : Expr) (pp : Pos), Ev c' ρ'' e (.list ((first :: (mid ++ [last])).map .str)) → ∀ pc k pu, Ev c' ρ'' (.Subscript e (.UnaryOp .USub (.Constant (.int 1) k pc) pu) pp) (.str last) := fun c' ρ'' e pp h pc k pu => by
        apply Ev.item_list_neg (k := 1) h
        · exact Ev.neg Ev.cint
        · exact ⟨by omega, by simp, hl1⟩
      apply B0.comp (bb := true) (xs := rng (t : Int) ((nm.length : Int) + 1)) (r := [(Str.ofString "place", .int t), (Str.ofString "parts", .list ((first :: (mid ++ [last])).map .str)), (Str.ofString "name", .str nm)])
        (ρ' := [(Str.ofString "parts", .list ((first :: (mid ++ [last])).map .str)), (Str.ofString "name", .str nm)]) (qOcc nm last) id rfl (by kernel_rfl) (by kernel_rfl) (fun _ h => h) (by kernel_rfl)
      case hit =>
        repeat' (walk_at "step")
        all_goals omega
      case hok => kernel_rfl
      case hcell => kernel_rfl
      case hkind => kernel_rfl
      case hnames => kernel_rfl
      case hx => kernel_rfl
      case hd => kernel_rfl
      case hsub => intro e he; exact List.mem_cons_of_mem _ he
      case hcap => kernel_rfl
      case hs => intro v; kernel_rfl
      case hno => exact rng_noObjs _ _
      case hsz => rw [rng_length]; omega
      case hq =>
        intro y hy C
        obtain ⟨j, hj, rfl⟩ := List.mem_map.mp hy
        apply Trs.one
        show Tr _ _ _ (eqS (.str (cut nm (some ((t : Int) + (j : Int))) (some ((t : Int) + (j : Int) + last.length)))) (.str last))
        apply Tr.cmp
        · apply Ev.slice_str
          · walk_at "step"
          · repeat' (walk_at "step")
          · apply Pt.some
            apply Ev.binop
            · walk_at "step"
            · with_reducible apply Ev.call_bltn
              · walk_at "nmb"
              · apply Evs.cons
                · apply hlast; walk_at "step"
                · exact Evs.nil
                all_goals kernel_rfl
              · exact Cl.len_str (by omega)
              all_goals walk_at "step"
            · exact Bo.add_int
          · omega
        · apply hlast; walk_at "step"
        · walk_at "cm"
        · kernel_rfl
      case hf =>
        intro y hy hq
        obtain ⟨j, hj, rfl⟩ := List.mem_map.mp hy
        exact ⟨rfl, fun C => by show Ev _ _ _ (PV.int _); walk_at "step"⟩
      rw [occ_is]
      apply B0.fin rfl
      apply Ev.ifexp
      · apply Tr.cmp
        · walk_at "step"
        · exact Ev.list Evs.nil (by decide)
        · apply Cm.ne_nil
          rw [List.all_map]; exact List.all_eq_true.mpr fun _ _ => rfl
        · kernel_rfl
      · intro hb
        cases hg : (occOf nm last t).getLast? with
        | none =>
          rw [List.getLast?_eq_none_iff] at hg
          rw [hg] at hb; cases hb
        | some s0 =>
          have hlen : (occOf nm last t).length ≠ 0 := fun h => by
            rw [List.eq_nil_of_length_eq_zero h] at hg; cases hg
          show Ev _ _ _ (.int ((s0 : Int) + last.length + 1))
          apply Ev.binop (p := .int ((s0 : Int) + last.length)) (q := .int 1)
          · apply Ev.binop (p := .int (s0 : Int)) (q := .int last.length)
            · apply Ev.item_list_neg (k := 1)
              · walk_at "step"
              · exact Ev.neg Ev.cint
              · refine ⟨by omega, by simp; omega, ?_⟩
                rw [List.getLast?_eq_getElem?] at hg
                simp [hg]
            · with_reducible apply Ev.call_bltn
              · walk_at "nmb"
              · apply Evs.cons
                · apply hlast; walk_at "step"
                · exact Evs.nil
                all_goals kernel_rfl
              · exact Cl.len_str (by omega)
              all_goals walk_at "step"
            · exact Bo.add_int
          · walk_at "step"
          · exact Bo.add_int
      · intro hb
        have : occOf nm last t = [] := by
          cases ho : occOf nm last t with
          | nil => rfl
          | cons a as => rw [ho] at hb; cases hb
        rw [this]
        show Ev _ _ _ (PV.int 0)
        walk_at "step"
end

end
section
open PySem PySem.W PyProof.Rows PySem.Calls
set_option Elab.async false
set_option maxRecDepth 100000
set_option maxHeartbeats 0
set_option linter.all false

/-! _law_paths -/
noncomputable def pathPlace (one two : List Nat) : Nat := (((List.range (one.length - 1)).map fun (i : Nat) => 1 + i).filter fun (s : Nat) => cut one none (some (s : Int)) == cut two none (some (s : Int))).length
noncomputable def pathsOf (one two : List Nat) : List (List Nat) :=
  if one = two then [one, one ++ [one.getD 0 0]]
  else
    let place := pathPlace one two
    let b := one.getD place 0
    let a := two.getD place 0
    if one.count a = two.count a then
      [rep [b] (((one.take place).count b : Nat) + 1 : Int) ++ rep [a] ((one.drop place).count a : Nat), rep [a] (((one.take place).count a : Nat) + 1 : Int) ++ rep [b] ((one.drop place).count b : Nat)]
    else if one.count a > two.count a then [rep [a] ((two.count a : Nat) + 1 : Int), rep [b] ((one.count b : Nat) + 1 : Int)]
    else [rep [b] ((two.count b : Nat) + 1 : Int), rep [a] ((one.count a : Nat) + 1 : Int)]
theorem paths_o : ∀ P, ((H1 P).get? 170).map (·.data) = some (.func (lawFd 17 "_law_paths" 169)) := by intro P; kernel_rfl
theorem paths_c : ∀ P, codeOk (Str.ofString "_law_paths") ((H1 P).get? 169) = true := by intro P; kernel_rfl
noncomputable def qPre (one two : List Nat) : PV → Bool
  | .int i => eqS (.str (cut one none (some i))) (.str (cut two none (some i)))
  | _ => false
theorem place_is (one two : List Nat) : ((((rng 1 (one.length : Int)).filter (qPre one two)).map id)).length = pathPlace one two := by
  have e : rng 1 (one.length : Int) = ((List.range (one.length - 1)).map fun (i : Nat) => 1 + i).map fun (s : Nat) => PV.int (s : Int) := by
    unfold rng
    rw [show ((one.length : Int) - 1).toNat = one.length - 1 by omega, List.map_map]
    apply List.map_congr_left
    intro i _
    simp
  rw [List.map_id, e, List.filter_map, List.length_map]
  rfl
theorem cut_to (l : List Nat) (k : Nat) : cut l none (some (k : Int)) = l.take k := by
  unfold cut
  simp only [Option.elim, clipAt_nat, List.drop_zero, Nat.sub_zero]
  rcases Nat.le_total k l.length with h | h
  · rw [Nat.min_eq_left h]
  · rw [Nat.min_eq_right h, List.take_of_length_le (Nat.le_refl _), List.take_of_length_le h]
theorem cut_from (l : List Nat) (k : Nat) : cut l (some (k : Int)) none = l.drop k := by
  unfold cut
  simp only [Option.elim, clipAt_nat]
  rw [List.take_of_length_le (by simp)]
  rcases Nat.le_total k l.length with h | h
  · rw [Nat.min_eq_left h]
  · rw [Nat.min_eq_right h, List.drop_of_length_le (Nat.le_refl _), List.drop_of_length_le h]
section
theorem mul_ok0 {k x : Nat} (h : k ≤ 1000) : ((k : Nat) : Int) < 2 ^ 30 ∧ -2 ^ 30 < ((k : Nat) : Int) ∧ ((k : Nat) : Int).toNat * [x].length ≤ 65536 := by
  rw [Int.toNat_natCast, List.length_singleton, Nat.mul_one]
  exact ⟨by omega, by omega, by omega⟩
theorem mul_ok1 {k x : Nat} (h : k ≤ 1000) : ((k : Nat) + 1 : Int) < 2 ^ 30 ∧ -2 ^ 30 < ((k : Nat) + 1 : Int) ∧ ((k : Nat) + 1 : Int).toNat * [x].length ≤ 65536 := by
  rw [List.length_singleton, Nat.mul_one]
  exact ⟨by omega, by omega, by omega⟩
variable {c : Cx} {ρ : List (Str × PV)}
theorem cl_paths {n : Nat} (hH : c.H = []) (hN : c.N = n + 1) {one two : List Nat} (hz : one.length ≤ 1000 ∧ two.length ≤ 1000 ∧ 0 < one.length ∧ one.length = two.length) : Cl c ρ (.ref 170) [.str one, .str two] (.list ((pathsOf one two).map .str)) := by
  refine Cl.fn (names := [Str.ofString "one", Str.ofString "two"]) (fd := lawFd 17 "_law_paths" 169) (cd := 169) hH hN paths_o (by decide) rfl paths_c (by decide) rfl rfl rfl rfl rfl (bind2 rfl (fun _ _ => rfl))
    (by kernel_rfl) (by decide +kernel) (by kernel_rfl) (by kernel_rfl) (by kernel_rfl) (ρ₀ := [(Str.ofString "one", .str one), (Str.ofString "two", .str two)]) rfl (fun L K => ?_)
  apply B0.ite rfl
  · repeat' (walk_at "step")
  · intro h
    have h : one = two := by simpa [eqS_i, eqS_t, eqS_b] using h
    rw [pathsOf, if_pos h]
    apply B0.finC rfl
    apply Ev.list (ps := [.str one, .str (one ++ [one.getD 0 0])])
    · apply Evs.cons
      · walk_at "step"
      · apply Evs.cons
        · apply Ev.binop
          · walk_at "step"
          · apply Ev.item_str (x := one.getD 0 0)
            · walk_at "step"
            · walk_at "step"
            · omega
            · exact ⟨by omega, by simp [hz.2.2.1]⟩
          · apply Bo.add_str; simp; omega
        · exact Evs.nil
        all_goals kernel_rfl
      all_goals kernel_rfl
    · show 2 ≤ 65536; decide
  · intro h
    have h : ¬ one = two := by simpa [eqS_i, eqS_t, eqS_b] using h
    rw [pathsOf, if_neg h]
    apply Bd.cont
    have hpl : pathPlace one two < one.length := by
      unfold pathPlace
      refine Nat.lt_of_le_of_lt (List.length_filter_le _ _) ?_
      simp; omega
    apply B0.let rfl (by kernel_rfl) (by kernel_rfl) (by kernel_rfl) (p := .int (pathPlace one two))
    · with_reducible apply Ev.call_bltn
      · walk_at "nmb"
      · apply Evs.cons
        · apply Ev.comp (bb := true) (ρ' := [(Str.ofString "one", .str one), (Str.ofString "two", .str two)]) (qPre one two) id
          case hit =>
            repeat' (walk_at "step")
            all_goals omega
          case hok => kernel_rfl
          case hcell => kernel_rfl
          case hkind => kernel_rfl
          case hnames => kernel_rfl
          case hx => kernel_rfl
          case hd => kernel_rfl
          case hsub => exact fun _ h => h
          case hcap => kernel_rfl
          case hno => exact rng_noObjs _ _
          case hsz => rw [rng_length]; omega
          case hq =>
            intro y hy C
            obtain ⟨j, hj, rfl⟩ := List.mem_map.mp hy
            apply Trs.one
            show Tr _ _ _ (eqS (.str (cut one none (some ((1 : Int) + (j : Int))))) (.str (cut two none (some ((1 : Int) + (j : Int))))))
            repeat' (walk_at "step")
            all_goals omega
          case hf =>
            intro y hy hq
            obtain ⟨j, hj, rfl⟩ := List.mem_map.mp hy
            exact ⟨rfl, fun C => by show Ev _ _ _ (PV.int _); walk_at "step"⟩
        · exact Evs.nil
        all_goals kernel_rfl
      · rw [← place_is]; exact Cl.len_list
      all_goals walk_at "step"
    generalize hp : pathPlace one two = place at hpl
    apply B0.pairS (p := .str [one.getD place 0]) (q := .str [two.getD place 0]) [(Str.ofString "place", .int place), (Str.ofString "one", .str one), (Str.ofString "two", .str two)] rfl (by kernel_rfl) (by kernel_rfl) (by kernel_rfl) (by kernel_rfl) (by kernel_rfl) (by kernel_rfl) (fun _ h => h)
    · apply Ev.tup
      · apply Evs.cons
        · apply Ev.item_str
          · walk_at "step"
          · walk_at "step"
          · omega
          · exact ⟨by omega, by simp [hpl]⟩
        · apply Evs.cons
          · apply Ev.item_str
            · walk_at "step"
            · walk_at "step"
            · omega
            · exact ⟨by omega, by have : place < two.length := by omega
                                  simp [this]⟩
          · exact Evs.nil
          all_goals kernel_rfl
        all_goals kernel_rfl
      · show 2 ≤ 65536; decide
    show Bd _ _ _ _ _ (Back _ _ (.list ((let b := one.getD place 0
      let a := two.getD place 0
      if one.count a = two.count a then
        [rep [b] (((one.take place).count b : Nat) + 1 : Int) ++ rep [a] ((one.drop place).count a : Nat), rep [a] (((one.take place).count a : Nat) + 1 : Int) ++ rep [b] ((one.drop place).count b : Nat)]
      else if one.count a > two.count a then [rep [a] ((two.count a : Nat) + 1 : Int), rep [b] ((one.count b : Nat) + 1 : Int)]
      else [rep [b] ((two.count b : Nat) + 1 : Int), rep [a] ((one.count a : Nat) + 1 : Int)]).map .str)))
    generalize one.getD place 0 = b
    generalize two.getD place 0 = a
    have hz6 : one.length ≤ 65536 := Nat.le_trans hz.1 (by decide)
    have c1 : ∀ x, one.count x ≤ 1000 := fun x => Nat.le_trans List.count_le_length hz.1
    have c2 : ∀ x, two.count x ≤ 1000 := fun x => Nat.le_trans List.count_le_length hz.2.1
    have c3 : ∀ x, (one.take place).count x ≤ 1000 := fun x => Nat.le_trans List.count_le_length (by rw [List.length_take]; exact Nat.le_trans (Nat.min_le_right _ _) hz.1)
    have c4 : ∀ x, (one.drop place).count x ≤ 1000 := fun x => Nat.le_trans List.count_le_length (by rw [List.length_drop]; exact Nat.le_trans (Nat.sub_le _ _) hz.1)
    have cnt : ∀ (c' : Cx) (ρ'' : List (Str × PV)) (o e : Expr) (l : List Nat) (x : Nat) (ap pp : Pos), Ev c' ρ'' o (.str l) → Ev c' ρ'' e (.str [x]) → (attributeBase o (Str.ofString "count") c'.env (eval o c'.env) = eval o c'.env) →
        (((backTo pp (starEach [e] c'.env)).all (fun x => !x.1) && (backToKw pp (keywordEach [] c'.env)).all (fun x => x.1.isSome) && decide ([e].length + ([] : List Keyword).length + (if ([] : List Keyword).isEmpty then 0 else 1) < 30)) = true) →
        ((ap.endLine == pp.line) = true) → (starEach [e] c'.env = (false, eval e c'.env) :: starEach [] c'.env) → plainArgs c' [e] → Ev c' ρ'' (.Call (.Attribute o (Str.ofString "count") ap) [e] [] pp) (.int (l.count x : Nat)) := fun c' ρ'' o e l x ap pp ho he h1 h2 h3 h4 h5 =>
      Ev.meth_str F.slot_str_count F.type_str_count ho (Evs.cons he Evs.nil h4) Cl.count1 h1 h2 h3 h4 h5
    have cutTo : ∀ (c' : Cx) (ρ'' : List (Str × PV)) (o : Expr) (l : List Nat) (hi : Expr) (k : Nat) (p1 p2 : Pos), Ev c' ρ'' o (.str l) → Ev c' ρ'' hi (.int k) → l.length ≤ 65536 → Ev c' ρ'' (.Subscript o (.Slice none (some hi) none p1) p2) (.str (l.take k)) := fun c' ρ'' o l hi k p1 p2 ho hh hl => by
      rw [← cut_to]; exact Ev.slice_str ho Pt.none (Pt.some hh) hl
    have cutFrom : ∀ (c' : Cx) (ρ'' : List (Str × PV)) (o : Expr) (l : List Nat) (hi : Expr) (k : Nat) (p1 p2 : Pos), Ev c' ρ'' o (.str l) → Ev c' ρ'' hi (.int k) → l.length ≤ 65536 → Ev c' ρ'' (.Subscript o (.Slice (some hi) none none p1) p2) (.str (l.drop k)) := fun c' ρ'' o l hi k p1 p2 ho hh hl => by
      rw [← cut_from]; exact Ev.slice_str ho (Pt.some hh) Pt.none hl
    apply B0.ite rfl
    · apply Tr.cmp
      · (apply cnt; all_goals (first | walk_at "step" | kernel_rfl | (intro _; kernel_rfl)))
      · (apply cnt; all_goals (first | walk_at "step" | kernel_rfl | (intro _; kernel_rfl)))
      · walk_at "cm"
      · kernel_rfl
    · intro h2
      have h2 : one.count a = two.count a := by
        simp only [eqS_i, eqS_t, eqS_b, beq_iff_eq] at h2; omega
      rw [show (let b := b; let a := a; if one.count a = two.count a then _ else _) = _ from if_pos h2]
      apply B0.finC rfl
      apply Ev.list (ps := [.str (rep [b] (((one.take place).count b : Nat) + 1 : Int) ++ rep [a] ((one.drop place).count a : Nat)), .str (rep [a] (((one.take place).count a : Nat) + 1 : Int) ++ rep [b] ((one.drop place).count b : Nat))])
      · have half : ∀ x y, (rep [x] (((one.take place).count x : Nat) + 1 : Int)).length + (rep [y] ((one.drop place).count y : Nat)).length ≤ 65536 := fun x y => by
          have := c3 x; have := c4 y
          rw [rep_length, rep_length]; simp; omega
        apply Evs.cons
        · apply Ev.binop
          · apply Ev.binop
            · walk_at "step"
            · apply Ev.binop
              · apply cnt
                · apply cutTo
                  · walk_at "step"
                  · walk_at "step"
                  · exact hz6
                all_goals (first | walk_at "step" | kernel_rfl | (intro _; kernel_rfl))
              · walk_at "step"
              · walk_at "step"
            · exact Bo.mul_str (mul_ok1 (c3 b))
          · apply Ev.binop
            · walk_at "step"
            · apply cnt
              · apply cutFrom
                · walk_at "step"
                · walk_at "step"
                · exact hz6
              all_goals (first | walk_at "step" | kernel_rfl | (intro _; kernel_rfl))
            · exact Bo.mul_str (mul_ok0 (c4 a))
          · apply Bo.add_str; exact half b a
        · apply Evs.cons
          · apply Ev.binop
            · apply Ev.binop
              · walk_at "step"
              · apply Ev.binop
                · apply cnt
                  · apply cutTo
                    · walk_at "step"
                    · walk_at "step"
                    · exact hz6
                  all_goals (first | walk_at "step" | kernel_rfl | (intro _; kernel_rfl))
                · walk_at "step"
                · walk_at "step"
              · exact Bo.mul_str (mul_ok1 (c3 a))
            · apply Ev.binop
              · walk_at "step"
              · apply cnt
                · apply cutFrom
                  · walk_at "step"
                  · walk_at "step"
                  · exact hz6
                all_goals (first | walk_at "step" | kernel_rfl | (intro _; kernel_rfl))
              · exact Bo.mul_str (mul_ok0 (c4 b))
            · apply Bo.add_str; exact half a b
          · exact Evs.nil
          all_goals kernel_rfl
        all_goals kernel_rfl
      · show 2 ≤ 65536; decide
    · intro h2
      have h2 : ¬ one.count a = two.count a := fun h => by
        rw [h] at h2; simp [eqS_i, eqS_t, eqS_b] at h2
      rw [show (let b := b; let a := a; if one.count a = two.count a then _ else _) = _ from if_neg h2]
      apply Bd.cont
      by_cases h3 : one.count a > two.count a
      · rw [show (if one.count a > two.count a then _ else _) = _ from if_pos h3]
        apply B0.pair (p := .str [a]) (q := .str [b]) [(Str.ofString "b", .str [b]), (Str.ofString "a", .str [a]), (Str.ofString "place", .int place), (Str.ofString "one", .str one), (Str.ofString "two", .str two)] rfl (by kernel_rfl) (by kernel_rfl) (by kernel_rfl) (by kernel_rfl) (by kernel_rfl) (by kernel_rfl) (fun _ h => h)
        · apply Ev.ifexp
          · apply Tr.cmp
            · (apply cnt; all_goals (first | walk_at "step" | kernel_rfl | (intro _; kernel_rfl)))
            · (apply cnt; all_goals (first | walk_at "step" | kernel_rfl | (intro _; kernel_rfl)))
            · walk_at "cm"
            · kernel_rfl
          · intro h4
            have h4 := of_decide_eq_true h4
            first
              | (exfalso; omega)
              | (apply Ev.tup
                 · repeat' (walk_at "step")
                 · show 2 ≤ 65536; decide)
          · intro h4
            have h4 := of_decide_eq_false h4
            first
              | (exfalso; omega)
              | (apply Ev.tup
                 · repeat' (walk_at "step")
                 · show 2 ≤ 65536; decide)
        apply B0.fin rfl
        apply Ev.list (ps := [.str (rep [a] ((two.count a : Nat) + 1 : Int)), .str (rep [b] ((one.count b : Nat) + 1 : Int))])
        · apply Evs.cons
          · apply Ev.binop
            · walk_at "step"
            · apply Ev.binop
              · (apply cnt; all_goals (first | walk_at "step" | kernel_rfl | (intro _; kernel_rfl)))
              · walk_at "step"
              · walk_at "step"
            · exact Bo.mul_str (mul_ok1 (c2 a))
          · apply Evs.cons
            · apply Ev.binop
              · walk_at "step"
              · apply Ev.binop
                · (apply cnt; all_goals (first | walk_at "step" | kernel_rfl | (intro _; kernel_rfl)))
                · walk_at "step"
                · walk_at "step"
              · exact Bo.mul_str (mul_ok1 (c1 b))
            · exact Evs.nil
            all_goals kernel_rfl
          all_goals kernel_rfl
        · show 2 ≤ 65536; decide
      · rw [show (if one.count a > two.count a then _ else _) = _ from if_neg h3]
        apply B0.pair (p := .str [b]) (q := .str [a]) [(Str.ofString "b", .str [b]), (Str.ofString "a", .str [a]), (Str.ofString "place", .int place), (Str.ofString "one", .str one), (Str.ofString "two", .str two)] rfl (by kernel_rfl) (by kernel_rfl) (by kernel_rfl) (by kernel_rfl) (by kernel_rfl) (by kernel_rfl) (fun _ h => h)
        · apply Ev.ifexp
          · apply Tr.cmp
            · (apply cnt; all_goals (first | walk_at "step" | kernel_rfl | (intro _; kernel_rfl)))
            · (apply cnt; all_goals (first | walk_at "step" | kernel_rfl | (intro _; kernel_rfl)))
            · walk_at "cm"
            · kernel_rfl
          · intro h4
            have h4 := of_decide_eq_true h4
            first
              | (exfalso; omega)
              | (apply Ev.tup
                 · repeat' (walk_at "step")
                 · show 2 ≤ 65536; decide)
          · intro h4
            have h4 := of_decide_eq_false h4
            first
              | (exfalso; omega)
              | (apply Ev.tup
                 · repeat' (walk_at "step")
                 · show 2 ≤ 65536; decide)
        apply B0.fin rfl
        apply Ev.list (ps := [.str (rep [b] ((two.count b : Nat) + 1 : Int)), .str (rep [a] ((one.count a : Nat) + 1 : Int))])
        · apply Evs.cons
          · apply Ev.binop
            · walk_at "step"
            · apply Ev.binop
              · (apply cnt; all_goals (first | walk_at "step" | kernel_rfl | (intro _; kernel_rfl)))
              · walk_at "step"
              · walk_at "step"
            · exact Bo.mul_str (mul_ok1 (c2 b))
          · apply Evs.cons
            · apply Ev.binop
              · walk_at "step"
              · apply Ev.binop
                · (apply cnt; all_goals (first | walk_at "step" | kernel_rfl | (intro _; kernel_rfl)))
                · walk_at "step"
                · walk_at "step"
              · exact Bo.mul_str (mul_ok1 (c1 a))
            · exact Evs.nil
            all_goals kernel_rfl
          all_goals kernel_rfl
        · show 2 ≤ 65536; decide
end

end
section
open PySem PySem.W PyProof.Rows PySem.Calls
set_option Elab.async false
set_option maxRecDepth 100000
set_option maxHeartbeats 0
set_option linter.all false

/-! _law_typed -/
noncomputable def bothL : List (List Nat × Int) := [([115, 115], 223), ([115, 116], 64261), ([102, 102], 64256), ([102, 105], 64257), ([102, 108], 64258), ([107, 107], 13261), ([107, 109], 13262), ([104, 112], 13259), ([112, 104], 13271), ([107, 97], 13188)]
noncomputable def bothD : List (PyData × PyData) := bothL.map fun e => (.str (S e.1), .int e.2)
noncomputable def bothAt (x : List Nat) : Option Int := (bothL.find? fun e => e.1 == x).map (·.2)
theorem S_inj {x y : List Nat} : S x = S y ↔ x = y := by simp [S]
theorem lookup_str (x : List Nat) : ∀ l : List (List Nat × Int), PySem.Spec.lookup (.str (S x)) (l.map fun e => (.str (S e.1), .int e.2)) = ((l.find? fun e => e.1 == x).map (·.2)).map PyData.int
  | [] => rfl
  | e :: l => by
    rw [List.map_cons, PySem.Spec.lookup, PyProof.V.same_str, List.find?_cons]
    by_cases h : e.1 = x
    · simp [h]
    · have h1 : ¬ S e.1 = S x := fun h' => h (S_inj.mp h')
      have h2 : (e.1 == x) = false := by simpa using h
      rw [h2, if_neg (by simpa using h1)]
      exact lookup_str x l
theorem bothAt_bound {x : List Nat} {i : Int} (h : bothAt x = some i) : 0 ≤ i ∧ i ≤ 1114111 := by
  unfold bothAt at h
  obtain ⟨e, he, rfl⟩ := Option.map_eq_some_iff.mp h
  have := List.mem_of_find?_eq_some he
  have all : ∀ e ∈ bothL, 0 ≤ e.2 ∧ e.2 ≤ 1114111 := by decide
  exact all e this
noncomputable def typeStep (nm : List Nat) (cell : Int) (t : List Nat × Nat) (i : Nat) : List Nat × Nat :=
  if t.2 ≤ i ∧ cell / 5 ^ i % 5 = 4 ∧ (bothAt ((nm.drop i).take 2)).isSome then (t.1 ++ [((bothAt ((nm.drop i).take 2)).getD 0).toNat], i + 2)
  else if t.2 ≤ i then (t.1 ++ letter (nm.getD i 0) (cell / 5 ^ i % 5) (cell / 7 + i), t.2)
  else t
noncomputable def typedOf (nm : List Nat) (cell : Int) : List Nat := ((List.range nm.length).foldl (typeStep nm cell) ([], 0)).1
theorem letter_length (x : Nat) (way pick : Int) : (letter x way pick).length ≤ 2 := by
  unfold letter
  split
  · simp
  · split <;> simp
theorem cut_mid (l : List Nat) (k m : Nat) : cut l (some (k : Int)) (some ((k : Int) + (m : Int))) = (l.drop k).take m := by
  rw [show (k : Int) + (m : Int) = ((k + m : Nat) : Int) by omega]
  unfold cut
  simp only [Option.elim, clipAt_nat]
  rcases Nat.le_total k l.length with h | h
  · rw [Nat.min_eq_left h]
    rcases Nat.le_total (k + m) l.length with h2 | h2
    · rw [Nat.min_eq_left h2, Nat.add_sub_cancel_left]
    · rw [Nat.min_eq_right h2, List.take_of_length_le (by rw [List.length_drop]; exact Nat.le_refl _), List.take_of_length_le (by rw [List.length_drop]; exact Nat.sub_le_iff_le_add'.mpr h2)]
  · rw [Nat.min_eq_right h, List.drop_eq_nil_of_le (Nat.le_refl _), List.drop_eq_nil_of_le h]; simp
theorem typed_o : ∀ P, ((H1 P).get? 160).map (·.data) = some (.func (lawFd 15 "_law_typed" 159)) := by intro P; kernel_rfl
theorem typed_c : ∀ P, codeOk (Str.ofString "_law_typed") ((H1 P).get? 159) = true := by intro P; kernel_rfl
section
variable {c : Cx} {ρ : List (Str × PV)}
theorem cl_typed {n : Nat} (hH : c.H = []) (hN : c.N = n + 2) {nm : List Nat} {cell : Int} (hz : nm.length ≤ 100) (hx : ∀ x ∈ nm, x = 46 ∨ x = 43 ∨ (97 ≤ x ∧ x ≤ 122)) : Cl c ρ (.ref 160) [.str nm, .int cell] (.str (typedOf nm cell)) := by
  refine Cl.fn (names := [Str.ofString "name", Str.ofString "cell"]) (fd := lawFd 15 "_law_typed" 159) (cd := 159) hH hN typed_o (by decide) rfl typed_c (by decide) rfl rfl rfl rfl rfl (bind2 rfl (fun _ _ => rfl))
    (by kernel_rfl) (by decide +kernel) (by kernel_rfl) (by kernel_rfl) (by kernel_rfl) (ρ₀ := [(Str.ofString "name", .str nm), (Str.ofString "cell", .int cell)]) rfl (fun L K => ?_)
  apply B0.dict bothD rfl
  case hok => kernel_rfl
  case hx => kernel_rfl
  case hs => kernel_rfl
  case hD => kernel_rfl
  case hk => kernel_rfl
  case hn => decide +kernel
  case hall => kernel_rfl
  case hl => kernel_rfl
  case h0 => exact fun h => nomatch h
  case hlen => decide +kernel
  intro D o hT hlo
  refine Bd.mono (Q := Back ((c.call (lawFd 15 "_law_typed" 159) L 160).with (D, o)) K (.str (typedOf nm cell))) ?_ fun f s h => h.without
  have hfix : (D, o) ∈ ((c.call (lawFd 15 "_law_typed" 159) L 160).with (D, o)).fix := List.mem_cons_self
  have hN' : ((c.call (lawFd 15 "_law_typed" 159) L 160).with (D, o)).N = n + 1 := by show c.N - 1 = _; omega
  have hH' : ((c.call (lawFd 15 "_law_typed" 159) L 160).with (D, o)).H = [] := rfl
  apply B0.pair (p := .str []) (q := .int (0 : Nat)) [(Str.ofString "both", .obj D), (Str.ofString "name", .str nm), (Str.ofString "cell", .int cell)] rfl (by kernel_rfl) (by kernel_rfl) (by kernel_rfl) (by kernel_rfl) (by kernel_rfl) (by kernel_rfl) (fun _ h => h)
  · apply Ev.tup
    · exact Evs.cons Ev.cstr (Evs.cons Ev.cint Evs.nil (by kernel_rfl)) (by kernel_rfl)
    · decide
  have hpow : ∀ i : Nat, i ≤ 100 → 0 < (5 : Int) ^ i ∧ ((5 : Int) ^ i).natAbs < 2 ^ 900 := fun i hi => by
    refine ⟨Int.pow_pos (by omega), ?_⟩
    rw [Int.natAbs_pow]
    exact Nat.lt_of_le_of_lt (Nat.pow_le_pow_right (by decide) hi) (by decide +kernel)
  apply B0.for (σ := List Nat × Nat) (bb := true) (ys := rng 0 (nm.length : Int)) (fun i t => t = (List.range i).foldl (typeStep nm cell) ([], 0) ∧ t.1.length ≤ 2 * i ∧ t.2 ≤ 2000) (fun t => [(Str.ofString "done", .int (t.2 : Nat)), (Str.ofString "typed", .str t.1), (Str.ofString "both", .obj D), (Str.ofString "name", .str nm), (Str.ofString "cell", .int cell)]) ([], 0) rfl (by intro v; kernel_rfl) (by kernel_rfl)
  · repeat' (walk_at "step")
    all_goals omega
  · exact ⟨rfl, by simp, by simp⟩
  · exact fun _ h => h
  · intro t; kernel_rfl
  · intro i y t K' hy hI
    obtain ⟨rfl, hi⟩ := rng_get hy
    obtain ⟨hI, hl, hd⟩ := hI
    have hi : i < nm.length := by omega
    have hnext : typeStep nm cell t i = (List.range (i + 1)).foldl (typeStep nm cell) ([], 0) := by rw [hI, List.range_succ, List.foldl_append]; rfl
    rw [show (0 : Int) + (i : Int) = ((i : Nat) : Int) by omega]
    apply B0.let rfl (p := .int (cell / 5 ^ i % 5))
    case hok => kernel_rfl
    case hx => kernel_rfl
    case hs => kernel_rfl
    case he =>
      apply Ev.binop (p := .int (cell / 5 ^ i)) (q := .int 5)
      · apply Ev.binop (p := .int cell) (q := .int (5 ^ i))
        · walk_at "step"
        · apply Ev.binop (p := .int 5) (q := .int (i : Nat))
          · walk_at "step"
          · walk_at "step"
          · exact Bo.pow_int (by omega) (by omega) (by omega)
        · exact Bo.div_pos (hpow i (by omega))
      · walk_at "step"
      · exact Bo.mod_pos (by decide)
    case k =>
      have hmid : cut nm (some ((i : Nat) : Int)) (some (((i : Nat) : Int) + 2)) = (nm.drop i).take 2 := cut_mid nm i 2
      apply B0.ite rfl (b := decide (t.2 ≤ i) && (decide (cell / 5 ^ i % 5 = 4) && ((bothAt ((nm.drop i).take 2)).isSome && true)))
      case ht =>
        apply Tr.and
        · apply Tr.eq
          · repeat' (walk_at "step")
          · exact decide_eq_decide.mpr (by omega)
        · intro _
          apply Tr.and
          · apply Tr.eq
            · repeat' (walk_at "step")
            · simp [eqS_i, eqS_t, eqS_b]; rfl
          · intro _
            apply Tr.and
            · apply Tr.eq
              · apply Tr.cmp (p := .str ((nm.drop i).take 2)) (q := .obj D)
                · rw [← hmid]
                  repeat' (walk_at "step")
                  omega
                · walk_at "step"
                · exact Cm.in_dict hfix hT hlo
                all_goals kernel_rfl
              · rw [show bothD = bothL.map (fun e => (PyData.str (S e.1), PyData.int e.2)) from rfl, lookup_str]
                unfold bothAt
                simp
            · intro _
              exact Tr.and_nil
      case h1 =>
        intro hb
        simp only [Bool.and_true, Bool.and_eq_true, decide_eq_true_eq] at hb
        obtain ⟨v, hv⟩ := Option.isSome_iff_exists.mp hb.2.2
        have hstep : typeStep nm cell t i = (t.1 ++ [v.toNat], i + 2) := by rw [typeStep, if_pos hb, hv]; rfl
        have hvb := bothAt_bound hv
        have hlk : PySem.Spec.lookup (.str (S ((nm.drop i).take 2))) bothD = some (.int v) := by
          rw [show bothD = bothL.map (fun e => (PyData.str (S e.1), PyData.int e.2)) from rfl, lookup_str]
          rw [show (bothL.find? fun e => e.1 == (nm.drop i).take 2).map (·.2) = some v from hv]
          rfl
        apply B0.set (p := .str (t.1 ++ [v.toNat])) [(Str.ofString "way", .int (cell / 5 ^ i % 5)), (Str.ofString "place", .int (i : Nat)), (Str.ofString "done", .int (t.2 : Nat)), (Str.ofString "both", .obj D), (Str.ofString "name", .str nm), (Str.ofString "cell", .int cell)] rfl
        case hok => kernel_rfl
        case hx => kernel_rfl
        case hs => kernel_rfl
        case hsub => walk_at "sub"
        case he =>
          apply Ev.binop (q := .str [v.toNat])
          · walk_at "step"
          · with_reducible apply Ev.call_bltn
            · walk_at "nmb"
            · apply Evs.cons (p := .int v)
              · apply Ev.item_dict (x := (nm.drop i).take 2) hfix hT
                · walk_at "step"
                · rw [← hmid]
                  repeat' (walk_at "step")
                  omega
                · exact hlk
              · exact Evs.nil
              all_goals kernel_rfl
            · exact Cl.chr hvb.1 hvb.2
            all_goals walk_at "step"
          · apply Bo.add_str; simp; omega
        case k =>
          apply B0.set (p := .int ((i + 2 : Nat) : Int)) [(Str.ofString "typed", .str (t.1 ++ [v.toNat])), (Str.ofString "both", .obj D), (Str.ofString "name", .str nm), (Str.ofString "cell", .int cell)] rfl
          case hok => kernel_rfl
          case hx => kernel_rfl
          case hs => kernel_rfl
          case hsub => walk_at "sub"
          case he =>
            apply Ev.eq
            · repeat' (walk_at "step")
            · congr 1
          case k =>
            apply Bd.cont
            apply Bd.nil
            intro s X
            exact ⟨(t.1 ++ [v.toNat], i + 2), ⟨by rw [← hnext, hstep], by simp; omega, by show i + 2 ≤ 2000; omega⟩, X⟩
      case h2 =>
        intro hb
        have hb : ¬ (t.2 ≤ i ∧ cell / 5 ^ i % 5 = 4 ∧ (bothAt ((nm.drop i).take 2)).isSome = true) := by
          intro ⟨h1, h2, h3⟩
          rw [h3] at hb; simp [h1, h2] at hb
        apply B0.ite rfl (b := decide (t.2 ≤ i))
        case ht =>
          apply Tr.eq
          · repeat' (walk_at "step")
          · exact decide_eq_decide.mpr (by omega)
        case h1 =>
          intro hd'
          have hd' : t.2 ≤ i := of_decide_eq_true hd'
          have hstep : typeStep nm cell t i = (t.1 ++ letter (nm.getD i 0) (cell / 5 ^ i % 5) (cell / 7 + i), t.2) := by rw [typeStep, if_neg hb, if_pos hd']
          have hll := letter_length (nm.getD i 0) (cell / 5 ^ i % 5) (cell / 7 + i)
          have hxi : nm.getD i 0 = 46 ∨ nm.getD i 0 = 43 ∨ (97 ≤ nm.getD i 0 ∧ nm.getD i 0 ≤ 122) := hx _ (by rw [List.getD, List.getElem?_eq_getElem hi]; exact List.getElem_mem hi)
          apply B0.set (p := .str (t.1 ++ letter (nm.getD i 0) (cell / 5 ^ i % 5) (cell / 7 + i))) [(Str.ofString "way", .int (cell / 5 ^ i % 5)), (Str.ofString "place", .int (i : Nat)), (Str.ofString "done", .int (t.2 : Nat)), (Str.ofString "both", .obj D), (Str.ofString "name", .str nm), (Str.ofString "cell", .int cell)] rfl
          case hok => kernel_rfl
          case hx => kernel_rfl
          case hs => kernel_rfl
          case hsub => walk_at "sub"
          case he =>
            apply Ev.binop (q := .str (letter (nm.getD i 0) (cell / 5 ^ i % 5) (cell / 7 + i)))
            · walk_at "step"
            · apply Ev.fn (f := 153) (fd := lawFd 14 "_law_letter" 152) (ps := [.str [nm.getD i 0], .int (cell / 5 ^ i % 5), .int (cell / 7 + i)]) (by walk_at "gl") (by intro P; kernel_rfl) (by kernel_rfl) letter_o (by decide) (by kernel_rfl)
              · apply Evs.cons
                · apply Ev.item_str
                  · walk_at "step"
                  · walk_at "step"
                  · omega
                  · refine ⟨by omega, ?_⟩
                    simp [List.getD, hi]
                · apply Evs.cons
                  · walk_at "step"
                  · apply Evs.cons
                    · repeat' (walk_at "step")
                    · exact Evs.nil
                    all_goals kernel_rfl
                  all_goals kernel_rfl
                all_goals kernel_rfl
              · exact cl_letter hH' hN' hxi
            · apply Bo.add_str; omega
          case k =>
            apply Bd.cont
            apply Bd.cont
            apply Bd.nil
            intro s X
            exact ⟨(t.1 ++ letter (nm.getD i 0) (cell / 5 ^ i % 5) (cell / 7 + i), t.2), ⟨by rw [← hnext, hstep], by rw [List.length_append]; omega, hd⟩, X.weak (by walk_at "sub")⟩
        case h2 =>
          intro hd'
          have hd' : ¬ t.2 ≤ i := of_decide_eq_false hd'
          have hstep : typeStep nm cell t i = t := by rw [typeStep, if_neg hb, if_neg hd']
          apply Bd.cont
          apply Bd.cont
          apply Bd.nil
          intro s X
          exact ⟨t, ⟨by rw [← hnext, hstep], by omega, hd⟩, X.weak (by walk_at "sub")⟩
  · intro t hI
    rw [rng_length] at hI
    have ht : typedOf nm cell = t.1 := by rw [typedOf, hI.1]; congr 3
    rw [ht]
    apply B0.fin rfl
    walk_at "step"
end

end
section
open PySem PySem.W PyProof.Rows PySem.Calls
set_option Elab.async false
set_option maxRecDepth 100000
set_option linter.all false
section
variable {c : Cx} {K : Shared} {ρ : List (Str × PV)} {Q : Flow → Shared → Prop} {μ : List Mu}
theorem Act.view0 {s : Shared} (x : Act c K μ ρ s) (hH : c.H = []) : Sit c ρ s := by
  have S := x.sit
  have hs : ∀ a, a ∈ c.H → a ∈ (c.hide μ).H := fun a ha => List.mem_append_right _ ha
  refine ⟨S.gd, fun a ha => S.hid a (hs a ha), S.fn, S.gl, S.bl, fun e he => ?_, S.hh, S.ru, S.rd, S.fx⟩
  obtain ⟨v, hv, hr⟩ := S.vars e he
  exact ⟨v, hv, Rep.less hs _ _ hr⟩
/-- a new list that is going to be written -/
theorem Act.newM {s₁ : Shared} {x : Str} {pl : Bool} {ps : List PV} {vs : List Value} (X₁ : Act c K [] ρ s₁) (hH : c.H = []) (r₁ : Reps c.H s₁.heap ps vs) (hz : ps.length ≤ 65536) :
    Act c K [⟨x, s₁.heap.objs.size, pl, ps⟩] ρ { s₁ with heap := s₁.heap.push { cls := .type "list", data := .seq vs.toArray } } ∧ K.heap.get? s₁.heap.objs.size = none := by
  have hnone : s₁.heap.get? s₁.heap.objs.size = none := get_ge (Nat.le_refl _)
  have hfresh : ∀ b o, s₁.heap.get? b = some o → b ≠ s₁.heap.objs.size := fun b o e h => by rw [h, hnone] at e; cases e
  have hpush : ∀ b o, s₁.heap.get? b = some o → (s₁.heap.push { cls := .type "list", data := .seq vs.toArray }).get? b = some o := fun b o e => Heap.get?_push_of_some _ e
  have hKD : K.heap.get? s₁.heap.objs.size = none := by
    cases g : K.heap.get? s₁.heap.objs.size with
    | none => rfl
    | some o =>
      by_cases hown : own c [] s₁.heap.objs.size
      · rcases hown with h | ⟨n', h⟩ | h
        · obtain ⟨m, o, es, ep, g, _⟩ := X₁.ns
          rw [← h, hnone] at g; cases g
        · obtain ⟨v, o, g, _⟩ := X₁.cell n' _ h
          rw [hnone] at g; cases g
        · simp at h
      · have := X₁.keep _ o hown g
        rw [hnone] at this; cases this
  have htb : s₁.heap.objs.size ≠ tb := fun h => by
    obtain ⟨o, e⟩ := X₁.sit.gd.tbe
    rw [← h, hnone] at e; cases e
  have hk2 : Kp s₁ { s₁ with heap := s₁.heap.push { cls := .type "list", data := .seq vs.toArray } } := .of s₁ hpush
  have X₂ := X₁.kp hk2
  have hcH : (c.hide []).H = [] := by unfold Cx.hide; rw [hH]; rfl
  refine ⟨⟨⟨X₂.sit.gd, fun a ha => ?_, X₂.sit.fn, X₂.sit.gl, X₂.sit.bl, fun e he => ?_, X₂.sit.hh, X₂.sit.ru, X₂.sit.rd, X₂.sit.fx⟩, fun e he => ?_, X₂.ns, X₂.cell, X₂.apart, X₂.above, fun b hb => ?_, fun b o hb e => X₂.keep b o (fun h => hb ?_) e, X₂.same, fun e he hown => by
        rcases hown with h | h | h
        · exact X₂.fo e he (.inl h)
        · exact X₂.fo e he (.inr (.inl h))
        · have h : e.1 = s₁.heap.objs.size := by simpa using h
          exact hfresh _ _ (X₁.sit.fx e he) h⟩, hKD⟩
  · have ha : a = s₁.heap.objs.size := by
      have : a ∈ [s₁.heap.objs.size] ++ c.H := ha
      rw [hH] at this; simpa using this
    rw [ha]; exact ⟨_, Heap.get?_push_size _ rfl⟩
  · obtain ⟨v, h1, h2⟩ := X₁.sit.vars e he
    refine ⟨v, h1.keeps hpush, ?_⟩
    rw [hcH] at h2
    have := Rep.avoid hnone _ _ h2
    have e1 : (c.hide [⟨x, s₁.heap.objs.size, pl, ps⟩]).H = [s₁.heap.objs.size] := by unfold Cx.hide; rw [hH]; rfl
    rw [e1]
    exact Rep.sk (.of_keep hpush) _ _ this
  · rcases List.mem_singleton.mp he with rfl
    refine ⟨vs.toArray, ⟨_, Heap.get?_push_size _ rfl, rfl, 0, rfl⟩, fun _ => ⟨_, 0, Heap.get?_push_size _ rfl, rfl, rfl, rfl⟩, by have := r₁.length; simp; omega, ?_⟩
    have e1 : (c.hide [⟨x, s₁.heap.objs.size, pl, ps⟩]).H = [s₁.heap.objs.size] := by unfold Cx.hide; rw [hH]; rfl
    rw [e1]
    rw [hH] at r₁
    simpa using Reps.sk (.of_keep hpush) _ _ (Reps.avoid hnone _ _ r₁)
  · rcases hb with h | h | h
    · exact X₂.h1 b (.inl h)
    · exact X₂.h1 b (.inr (.inl h))
    · have hb' : b = s₁.heap.objs.size := by simpa using h
      subst hb'
      refine ⟨?_, htb⟩
      cases g : (H1 c.w.params).get? s₁.heap.objs.size with
      | none => rfl
      | some o =>
        have := X₁.sit.gd.keep _ o htb g
        rw [hnone] at this; cases this
  · rcases h with h | h | h
    · exact .inl h
    · exact .inr (.inl h)
    · simp at h
/-- two names at once, by the swapped stores; the first one's value is a new list that is going to be written -/
theorem Bd.pairM (pl : Bool) {x y : Str} {px py tpos lpos tpos' pos : Pos} {kk kk' : Nat} {es : List Expr} {e₂ : Expr} {rest : List Stmt} {ps : List PV} {q : PV} (r : List (Str × PV)) (hH : c.H = []) (h1 : stOk c.env x = true) (h2 : stOk c.env y = true) (hx : (((y, q) :: r).map (·.1)).contains x = false) (hy : (r.map (·.1)).contains y = false)
    (hs : swapsWithSole [.Tuple [.Name x px, .Name y py] kk tpos] (.Tuple [.List es lpos, e₂] kk' tpos') pos.line c.env = pure false) (hw : swappedStores [.Tuple [.Name x px, .Name y py] kk tpos] (.Tuple [.List es lpos, e₂] kk' tpos') c.env = pure (some [x, y]))
    (hst : starEach [.List es lpos, e₂] c.env = [(false, eval (.List es lpos) c.env), (false, eval e₂ c.env)]) (hsub : ∀ e ∈ r, e ∈ ρ)
    (he : Evs c ρ es ps) (he₂ : Ev c ρ e₂ q) (hq : flt q = true) (hz : ps.length ≤ 65536) (k : ∀ D, K.heap.get? D = none → Bd c K [⟨x, D, pl, ps⟩] ((x, .obj D) :: (y, q) :: r) rest Q) :
    Bd c K [] ρ (.Assign [.Tuple [.Name x px, .Name y py] kk tpos] (.Tuple [.List es lpos, e₂] kk' tpos') pos :: rest) Q := Bd.seq fun s E X => by
  refine Assign_Tuple_swapped (names := [x, y]) (wpAny_Tuple ?_) hs hw
  rw [hst]
  refine spliced_cons (wpAny_List (he.run lpos s _ _ (X.view0 hH) fun vs s₁ k₁ r₁ => ⟨by have := r₁.length; simp [sizeLine]; omega, ?_⟩))
  have X₁ := X.kp k₁
  obtain ⟨X₂, hKD⟩ := X₁.newM (x := x) (pl := pl) hH r₁ hz
  refine spliced_cons (he₂.run _ _ _ (X₂.view0 hH) fun v₂ s₃ k₃ r₃ => spliced_nil ⟨by simp [sizeLine], ?_⟩)
  have X₃ := X₂.kp k₃
  have k4 : Kp s₃ { s₃ with heap := s₃.heap.push { cls := .type "tuple", data := .seq [Value.ref s₁.heap.objs.size, v₂].toArray } } := .of s₃ fun b o e => Heap.get?_push_of_some _ e
  have X₄ := X₃.kp k4
  have ht : ({ s₃ with heap := s₃.heap.push { cls := .type "tuple", data := .seq [Value.ref s₁.heap.objs.size, v₂].toArray } } : Shared).heap.IsTuple s₃.heap.objs.size [Value.ref s₁.heap.objs.size, v₂].toArray := ⟨_, Heap.get?_push_size _ rfl, rfl, 0, rfl⟩
  show wpAny _ _ (unpackItems (.ref s₃.heap.objs.size) [Value.ref s₁.heap.objs.size, v₂].toArray.size none) _ _ _
  refine PyProof.Rows.unpackItems_tuple X₄.sit.hh ht fun h' he' => ?_
  have k5 : Kp { s₃ with heap := s₃.heap.push { cls := .type "tuple", data := .seq [Value.ref s₁.heap.objs.size, v₂].toArray } } { s₃ with heap := h' } := .of _ fun b o e => he' b o (Nat.ne_of_lt (Heap.lt_size e)) e
  have X₅ := X₄.kp k5
  show wpAny _ _ (do holding [Value.ref s₁.heap.objs.size] (bindName c.env y v₂); (do holding [] (bindName c.env x (.ref s₁.heap.objs.size)); pure ())) _ _ _
  refine wpAny_bind (wpAny_holding (wpAny_bindName (X₅.store (p := q) (r₃.flat hq) h2 hsub hy fun s₆ X₆ => ?_)))
  refine wpAny_bind (wpAny_holding (wpAny_bindName (X₆.store (p := .obj s₁.heap.objs.size) rfl h1 (fun _ h => h) hx fun s₇ X₇ => wpAny_pure ?_)))
  exact fun E' => (k _ hKD).run s₇ E' X₇

theorem Cl.partition {x y : List Nat} (hy : y ≠ []) (hz : x.length ≤ 65536) : Cl c ρ (.builtin "str.partition") [.str x, .str y] (.tup [.str (Txt.partition (S x) (S y)).1.cps.toList, .str (Txt.partition (S x) (S y)).2.1.cps.toList, .str (Txt.partition (S x) (S y)).2.2.cps.toList]) := Cl.two_str fun s Q E t u Si hQ => by
  refine call_meets F.slot_str_partition (typeIs_str _ _ _) F.entry_str_partition (F.args_str_partition_2 _ _) (meets_str_partition (S x) (S y) t u (by cases y with | nil => exact absurd rfl hy | cons a b => rfl) (by simp [S, Str.length, sizeLine]; omega)) ?_
  have key : ∀ a b d ta tb td tk, Q (.ref s.heap.objs.size) { s with heap := s.heap.push { cls := .type "tuple", data := .seq [Value.str a ta, Value.str b tb, Value.str d td].toArray }, toks := tk } ↔ Q (.ref s.heap.objs.size) { s with heap := s.heap.push { cls := .type "tuple", data := .seq [Value.str a ta, Value.str b tb, Value.str d td].toArray }, toks := tk } := fun _ _ _ _ _ _ _ => Iff.rfl
  have main : ∀ a b d ta tb td tk, (a, b, d) = Txt.partition (S x) (S y) → Q (.ref s.heap.objs.size) { s with heap := s.heap.push { cls := .type "tuple", data := .seq [Value.str a ta, Value.str b tb, Value.str d td].toArray }, toks := tk } := fun a b d ta tb td tk e => by
    refine hQ _ _ (.push s _ _) ?_
    rw [← e]
    exact ⟨_, _, rfl, Si.fresh (Nat.le_refl _), ⟨_, Heap.get?_push_size _ rfl, rfl, 0, rfl⟩, by simp, _, _, rfl, ⟨ta, by simp⟩, _, _, rfl, ⟨tb, by simp⟩, _, _, rfl, ⟨td, by simp⟩, rfl⟩
  have main' := main
  unfold Txt.partition at main'
  revert main'
  cases Builtin.Str.occurrences (S x) (S y) 0 (S x).length 1 with
  | nil => intro h; exact h _ _ _ _ _ _ _ rfl
  | cons i r => intro h; exact h _ _ _ _ _ _ _ rfl
end

end
section
open PySem PySem.W PyProof.Rows PySem.Calls
set_option Elab.async false
set_option maxRecDepth 100000
set_option maxHeartbeats 0
set_option linter.all false

/-! _law_parts -/
noncomputable def sG : List Nat := [40, 63, 62]
noncomputable def sG6 : List Nat := [40, 63, 62, 46, 42, 63]
noncomputable def pieceOf (x : List Nat) : List Nat := (Txt.partition (S (x.drop 6)) (S [41])).1.cps.toList
noncomputable def partStep (t : List (List Nat) × List Nat) : List (List Nat) × List Nat :=
  if t.2.take 6 = sG6 then (t.1 ++ [pieceOf t.2], t.2.drop (7 + (pieceOf t.2).length)) else t
noncomputable def partRun (t : List (List Nat) × List Nat) : Nat → List (List Nat) × List Nat
  | 0 => t
  | k + 1 => partStep (partRun t k)
noncomputable def partsEnd (t : List (List Nat) × List Nat) : List (List Nat) := t.1 ++ [if t.2.take 2 = [46, 42] then t.2.drop 2 else [110, 111]]
theorem piece_length (x : List Nat) : (pieceOf x).length ≤ x.length := by
  have h := congrArg Str.length (StrLaws.partition_sum (S (x.drop 6)) (S [41]))
  unfold pieceOf
  simp only [Str.length] at h
  have e : ((Txt.partition (S (x.drop 6)) (S [41])).1.cps.toList).length = (Txt.partition (S (x.drop 6)) (S [41])).1.cps.size := by simp
  rw [e]
  have h2 : (S (x.drop 6)).cps.size ≤ x.length := by simp [S]
  have h3 : ∀ a b d : Str, (a ++ b ++ d).cps.size = a.cps.size + b.cps.size + d.cps.size := fun a b d => by
    show (a.cps ++ b.cps ++ d.cps).size = _
    simp; omega
  rw [h3] at h
  omega
theorem partStep_len (t : List (List Nat) × List Nat) : (partStep t).1.length ≤ t.1.length + 1 ∧ (partStep t).2.length ≤ t.2.length := by
  unfold partStep
  split
  · simp
  · omega
theorem partRun_len (t : List (List Nat) × List Nat) : ∀ k, (partRun t k).1.length ≤ t.1.length + k ∧ (partRun t k).2.length ≤ t.2.length
  | 0 => by simp [partRun]
  | k + 1 => by
    have h1 := partRun_len t k
    have h2 := partStep_len (partRun t k)
    rw [partRun]; omega
theorem partStep_ne (t : List (List Nat) × List Nat) (h : t.1 ≠ []) : (partStep t).1 ≠ [] := by
  unfold partStep
  split
  · simp
  · exact h
theorem parts_o : ∀ P, ((H1 P).get? 177).map (·.data) = some (.func (lawFd 18 "_law_parts" 176)) := by intro P; kernel_rfl
theorem parts_c : ∀ P, codeOk (Str.ofString "_law_parts") ((H1 P).get? 176) = true := by intro P; kernel_rfl
theorem sG_is : (Str.ofString "(?>").cps.toList = sG := by decide +kernel
theorem sG6_is : (Str.ofString "(?>.*?").cps.toList = sG6 := by decide +kernel
section
variable {c : Cx} {ρ : List (Str × PV)}
theorem cl_parts {n : Nat} (hH : c.H = []) (hN : c.N = n + 1) {text : List Nat} {pl k : Nat} (hf : Txt.find (S text) (S sG) = (pl : Int)) (hk : Txt.count (S (text.drop pl)) (S sG) = (k : Int)) (hz : text.length ≤ 1000 ∧ k ≤ 1000) :
    Cl c ρ (.ref 177) [.str text] (.list ((partsEnd (partRun ([text.take pl], text.drop pl) k)).map .str)) := by
  refine Cl.fn (names := [Str.ofString "text"]) (fd := lawFd 18 "_law_parts" 176) (cd := 176) hH hN parts_o (by decide) rfl parts_c (by decide) rfl rfl rfl rfl rfl (bind1 rfl (fun _ => rfl))
    (by kernel_rfl) (by decide +kernel) (by kernel_rfl) (by kernel_rfl) (by kernel_rfl) (ρ₀ := [(Str.ofString "text", .str text)]) rfl (fun L K => ?_)
  apply B0.let rfl (by kernel_rfl) (by kernel_rfl) (by kernel_rfl) (p := .int (pl : Nat))
  · apply Ev.eq
    · with_reducible apply Ev.call_bltn
      · walk_at "nmb"
      · apply Evs.cons (p := .int 0)
        · walk_at "step"
        · apply Evs.cons (p := .int (pl : Nat))
          · apply Ev.meth_str F.slot_str_find F.type_str_find
            · walk_at "step"
            · exact Evs.cons (p := .str sG) (Ev.eq Ev.cstr (by rw [sG_is])) Evs.nil (by kernel_rfl)
            · rw [← hf]; exact Cl.find
            all_goals first | kernel_rfl | (intro _; kernel_rfl)
          · exact Evs.nil
          all_goals kernel_rfl
        all_goals kernel_rfl
      · exact Cl.max_two
      all_goals walk_at "step"
    · congr 1; split <;> omega
  apply Bd.pairM (ps := [.str (text.take pl)]) (q := .str (text.drop pl)) true [(Str.ofString "place", .int (pl : Nat))] rfl
  case h1 => kernel_rfl
  case h2 => kernel_rfl
  case hx => kernel_rfl
  case hy => kernel_rfl
  case hs => kernel_rfl
  case hw => kernel_rfl
  case hst => kernel_rfl
  case hsub => walk_at "sub"
  case he =>
    apply Evs.cons
    · rw [← cut_to]
      repeat' (walk_at "step")
      omega
    · exact Evs.nil
    all_goals kernel_rfl
  case he₂ =>
    rw [← cut_from]
    repeat' (walk_at "step")
    omega
  case hq => rfl
  case hz => show 1 ≤ 65536; decide
  intro D hD
  apply B1.for (σ := List (List Nat) × List Nat) (ys := rng 0 (k : Int)) (fun i t => t = partRun ([text.take pl], text.drop pl) i ∧ t.1 ≠ []) (fun t => t.1.map .str) (fun t => [(Str.ofString "parts", .obj D), (Str.ofString "text", .str t.2), (Str.ofString "place", .int (pl : Nat))]) ([text.take pl], text.drop pl) rfl (by walk_at "mem") (by intro v; kernel_rfl) (by kernel_rfl)
  · apply It.range1
    · walk_at "nmt"
    · apply Ev.meth_str F.slot_str_count F.type_str_count
      · walk_at "step"
      · exact Evs.cons (p := .str sG) (Ev.eq Ev.cstr (by rw [sG_is])) Evs.nil (by kernel_rfl)
      · rw [← hk]; exact Cl.count
      all_goals first | kernel_rfl | (intro _; kernel_rfl)
    · omega
    · kernel_rfl
  · exact ⟨rfl, by simp⟩
  · rfl
  · exact fun _ h => h
  · intro t; kernel_rfl
  · exact rng_flt _ _
  · intro i y t K' hy hInv
    obtain ⟨rfl, hi⟩ := rng_get hy
    obtain ⟨hInv, hne⟩ := hInv
    have hlen := partRun_len ([text.take pl], text.drop pl) i
    rw [← hInv] at hlen
    have hl2 : t.2.length ≤ 1000 := by simp at hlen; omega
    have hl1 : t.1.length ≤ 1 + i := by simpa [Nat.add_comm] using hlen.1
    have hpl := piece_length t.2
    apply B1.ite rfl (by walk_at "mem") (b := t.2.take 6 == sG6)
    case ht =>
      apply Tr.eq
      · apply Tr.cmp (p := .str (t.2.take 6)) (q := .str sG6)
        · rw [← show cut t.2 none (some (6 : Int)) = t.2.take 6 from cut_to t.2 6]
          repeat' (walk_at "step")
          omega
        · exact Ev.eq Ev.cstr (by rw [sG6_is])
        · walk_at "cm"
      · rfl
    case h1 =>
      intro hb
      have hb : t.2.take 6 = sG6 := by simpa using hb
      have hst : partStep t = (t.1 ++ [pieceOf t.2], t.2.drop (7 + (pieceOf t.2).length)) := by rw [partStep, if_pos hb]
      apply Bd.appM (p := .str (pieceOf t.2)) rfl (by walk_at "mem")
      case hline => kernel_rfl
      case htr => intro pos; kernel_rfl
      case hint => kernel_rfl
      case he =>
        apply Ev.item_tup (xs := [.str (pieceOf t.2), _, _])
        · apply Ev.meth_str F.slot_str_partition F.type_str_partition (x := t.2.drop 6)
          · rw [← show cut t.2 (some (6 : Int)) none = t.2.drop 6 from cut_from t.2 6]
            repeat' (walk_at "step")
            omega
          · exact Evs.cons (p := .str [41]) (Ev.eq Ev.cstr (by kernel_rfl)) Evs.nil (by kernel_rfl)
          · exact Cl.partition (by simp) (by simp; omega)
          all_goals first | kernel_rfl | (intro _; kernel_rfl)
        · walk_at "step"
        · exact ⟨by omega, rfl⟩
      case hp => rfl
      case hz => simp; omega
      case kk =>
        apply B1.set (p := .str (t.2.drop (7 + (pieceOf t.2).length))) [(Str.ofString "parts", .obj D), (Str.ofString "place", .int (pl : Nat))] rfl (by walk_at "mem")
        case hok => kernel_rfl
        case hy => kernel_rfl
        case hs => kernel_rfl
        case hsub => walk_at "sub"
        case hp => rfl
        case he =>
          rw [← cut_from]
          apply Ev.slice_str
          · walk_at "step"
          · apply Pt.some
            apply Ev.eq
            · apply Ev.binop (p := .int 7) (q := .int ((pieceOf t.2).length : Nat))
              · walk_at "step"
              · with_reducible apply Ev.call_bltn
                · walk_at "nmb"
                · apply Evs.cons (p := .str (pieceOf t.2))
                  · apply Ev.item_list_neg (k := 1)
                    · walk_at "step"
                    · exact Ev.neg Ev.cint
                    · refine ⟨by omega, by simp, by simp⟩
                  · exact Evs.nil
                  all_goals kernel_rfl
                · exact Cl.len_str (by omega)
                all_goals walk_at "step"
              · exact Bo.add_int
            · congr 1
          · exact Pt.none
          · omega
        case k =>
          apply Bd.cont
          apply Bd.nil
          intro s X
          refine ⟨partStep t, ⟨by rw [partRun, ← hInv], partStep_ne t hne⟩, ?_⟩
          rw [hst]
          have := X.weak (r := [(Str.ofString "parts", .obj D), (Str.ofString "text", .str (t.2.drop (7 + (pieceOf t.2).length))), (Str.ofString "place", .int (pl : Nat))]) (by walk_at "sub")
          simpa using this
    case h2 =>
      intro hb
      have hb : ¬ t.2.take 6 = sG6 := by simpa using hb
      apply Bd.cont
      apply Bd.nil
      intro s X
      refine ⟨t, ⟨by rw [partRun, ← hInv, partStep, if_neg hb], hne⟩, X.weak (by walk_at "sub")⟩
  · intro t hInv
    rw [rng_length] at hInv
    obtain ⟨hInv, hne⟩ := hInv
    have hk' : ((k : Int) - 0).toNat = k := by omega
    rw [hk'] at hInv
    rw [← hInv]
    have hlen := partRun_len ([text.take pl], text.drop pl) k
    rw [← hInv] at hlen
    have hl2 : t.2.length ≤ 1000 := by simp at hlen; omega
    have hl1 : t.1.length ≤ 1 + k := by simpa [Nat.add_comm] using hlen.1
    apply B1.fin rfl (by walk_at "mem") hD
    apply Ev.eq
    · apply Ev.binop (p := .list (t.1.map .str)) (q := .list [.str (if t.2.take 2 = [46, 42] then t.2.drop 2 else [110, 111])])
      · walk_at "step"
      · apply Ev.list
        · apply Evs.cons
          · apply Ev.ifexp (x := t.2.take 2 == [46, 42])
            · apply Tr.eq
              · apply Tr.cmp (p := .str (t.2.take 2)) (q := .str [46, 42])
                · rw [← show cut t.2 none (some (2 : Int)) = t.2.take 2 from cut_to t.2 2]
                  repeat' (walk_at "step")
                  omega
                · exact Ev.eq Ev.cstr (by kernel_rfl)
                · walk_at "cm"
              · rfl
            · intro hb
              have hb : t.2.take 2 = [46, 42] := by simpa using hb
              rw [if_pos hb, ← show cut t.2 (some (2 : Int)) none = t.2.drop 2 from cut_from t.2 2]
              repeat' (walk_at "step")
              omega
            · intro hb
              have hb : ¬ t.2.take 2 = [46, 42] := by simpa using hb
              rw [if_neg hb]
              exact Ev.eq Ev.cstr (by kernel_rfl)
          · exact Evs.nil
          all_goals kernel_rfl
        · show 1 ≤ 65536; decide
      · apply Bo.add_list; simp; omega
    · simp [partsEnd]
end

end
section
open PySem PySem.W PyProof.Rows PySem.Calls PySem.Builtin PySem.Builtin.Str
set_option maxRecDepth 100000
set_option linter.all false
theorem sub_key : isSubtype (.type "KeyError") (.type "LookupError") = pure true := by rw [isSubtype_type]; kernel_rfl
section
variable {M : Model} {A : Around} {E : Value → Shared → Prop} {s : Shared}
theorem tr_keep (x : Nat) (t : Tok) (tab : Value) {Q : Fin → Shared → Prop} (hx : x < 128) (h : wpAny M A (tableLookup tab x) (fun r s' => r = .keep ∧ wpAny M A (retStr ⟨#[x]⟩) Q E s') E s) :
    wpAny M A («str.translate» ⟨[.str ⟨#[x]⟩ t, tab], []⟩) Q E s := by
  unfold «str.translate»
  rw [show strOneArg "translate" ⟨[.str ⟨#[x]⟩ t, tab], []⟩ = pure (.str ⟨#[x]⟩ t, ⟨#[x]⟩, tab) from rfl]
  refine wpAny_bind (wpAny_pure ?_)
  dsimp only
  rw [if_neg (by simp [PySem.Str.length])]
  refine wpAny_bind ?_
  rw [← Array.forIn_toList, List.forIn_cons]
  refine wpAny_bind ?_
  rw [if_neg (by show ¬ tooLong 0 = true; decide)]
  rw [if_pos (by simp [hx])]
  dsimp only [List.lookup]
  refine wpAny_bind (wpAny_mono h (fun r s' hr => ?_) fun _ _ e => e)
  obtain ⟨rfl, hr⟩ := hr
  dsimp only
  refine wpAny_bind (wpAny_pure ?_)
  dsimp only
  refine wpAny_pure ?_
  dsimp only
  rw [List.forIn_nil]
  refine wpAny_pure ?_
  dsimp only
  rw [if_neg (by decide)]
  exact hr
theorem tr_text (x : Nat) (t : Tok) (tab : Value) (y : Str) {Q : Fin → Shared → Prop} (hx : x < 128) (hy : y.length = 2) (h : wpAny M A (tableLookup tab x) (fun r s' => r = .text y ∧ wpAny M A (tableLookup tab x) (fun r s'' => r = .text y ∧ wpAny M A (retStr y) Q E s'') E s') E s) :
    wpAny M A («str.translate» ⟨[.str ⟨#[x]⟩ t, tab], []⟩) Q E s := by
  unfold «str.translate»
  rw [show strOneArg "translate" ⟨[.str ⟨#[x]⟩ t, tab], []⟩ = pure (.str ⟨#[x]⟩ t, ⟨#[x]⟩, tab) from rfl]
  refine wpAny_bind (wpAny_pure ?_)
  dsimp only
  rw [if_neg (by simp [PySem.Str.length])]
  refine wpAny_bind ?_
  rw [← Array.forIn_toList, List.forIn_cons]
  refine wpAny_bind ?_
  rw [if_neg (by show ¬ tooLong 0 = true; decide)]
  rw [if_pos (by simp [hx])]
  dsimp only [List.lookup]
  refine wpAny_bind (wpAny_mono h (fun r s' hr => ?_) fun _ _ e => e)
  obtain ⟨rfl, hr⟩ := hr
  dsimp only
  rw [if_neg (by simp [hy])]
  dsimp only
  refine wpAny_bind (wpAny_pure ?_)
  dsimp only
  refine wpAny_bind (wpAny_rule ?_)
  refine wpAny_bind (wpAny_mono hr (fun r s' hr => ?_) fun _ _ e => e)
  obtain ⟨rfl, hr⟩ := hr
  dsimp only
  refine wpAny_pure ?_
  dsimp only
  rw [List.forIn_nil]
  refine wpAny_pure ?_
  dsimp only
  rw [if_neg (by rw [show 0 + y.length = 2 by omega]; decide)]
  have e : (⟨List.foldl (fun acc (p : Str) => acc ++ p.cps) #[] [y].reverse⟩ : Str) = y := by simp
  rw [e]
  exact hr
theorem wpAny_tableLookup_missing {prog : Program} {w : World} {A : Around} {x : Nat} {d : Addr} {f : Int → Option Value} {Q : Mapped → Shared → Prop} (hd : (d == sysModules) = false) (hh : A.handled = none) (hm : s.heap.MapOf (intKind prog w) d f) (hv : f x = none)
    (h : ∀ s', Kp s s' → Q .keep s') : wpAny (model prog w) A (tableLookup (.ref d) x) Q E s := by
  unfold tableLookup
  refine wpAny_bind (wpAny_attempt ?_)
  refine wpAny_bind (wpAny_mkInt ?_)
  refine wpAny_getItem_missing_of (intKind_is _ _ _ _) hd hh (s := { s with toks := s.toks + 1 }) hm hv fun h' e hx => ?_
  dsimp only
  obtain ⟨ob, t, he, hc, _⟩ := hx.there
  refine wpAny_bind (wpAny_isInstance (T := "KeyError") ⟨ob, he, hc⟩ sub_key ?_)
  rw [if_pos rfl]
  exact wpAny_bind (wpAny_rule (wpAny_pure (h _ (.of s fun b o e => hx.keeps b o e))))
theorem wpAny_tableLookup_text {prog : Program} {w : World} {A : Around} {x : Nat} {d : Addr} {f : Int → Option Value} {y : Str} {ty : Tok} {Q : Mapped → Shared → Prop} (hm : s.heap.MapOf (intKind prog w) d f) (hv : f x = some (.str y ty))
    (h : ∀ s', Kp s s' → Q (.text y) s') : wpAny (model prog w) A (tableLookup (.ref d) x) Q E s := by
  unfold tableLookup
  refine wpAny_bind (wpAny_attempt ?_)
  refine wpAny_bind (wpAny_mkInt ?_)
  refine wpAny_getItem_of (intKind_is _ _ _ _) (s := { s with toks := s.toks + 1 }) hm hv ?_
  dsimp only
  rw [show asInt? (.str y ty) = pure none from rfl, show asStr? (.str y ty) = pure (some y) from rfl]
  exact wpAny_bind (wpAny_pure (wpAny_bind (wpAny_pure (wpAny_pure (h _ (.of s fun b o e => e))))))
end
/-- the special signs and what stands for each -/
noncomputable def escL : List (Int × Str) := [40, 41, 91, 93, 123, 125, 63, 42, 43, 45, 124, 94, 36, 92, 46, 38, 126, 35, 32, 9, 10, 13, 11, 12].map fun (i : Nat) => ((i : Int), S [92, i])
noncomputable def escEs : Array DictEntry := (escL.zipIdx.map fun (p, i) => (⟨p.1, .int p.1 (254 + 6 * i), .str p.2 (258 + 6 * i)⟩ : DictEntry)).toArray
theorem esc_obj (P : Params) : (H1 P).get? 58 = some ⟨.type "dict", none, .dict escEs 24, #[]⟩ := by kernel_rfl
theorem entsOf_esc : EntsOf escEs.toList escL := by
  have : ∀ (L : List (Int × Str)) (k : Nat), EntsOf ((L.zipIdx k).map fun (p, i) => (⟨p.1, .int p.1 (254 + 6 * i), .str p.2 (258 + 6 * i)⟩ : DictEntry)) L := by
    intro L
    induction L with
    | nil => intro k; exact .nil
    | cons p L ih => intro k; exact .cons ⟨_, _, rfl, rfl, rfl⟩ (ih (k + 1))
  simpa [escEs] using this escL 0
theorem esc_hash : (escL.all fun p => hashInt p.1 == p.1) = true := by decide +kernel
noncomputable def escFind (k : Int) : Option Str := (escL.find? fun p => p.1 == k).map (·.2)
noncomputable def escVal (k : Int) : Option Value := findBy Value.isInt escEs k
theorem esc_val (k : Int) : match escVal k, escFind k with
    | some v, some s => ∃ t, v = .str s t
    | none, none => True
    | _, _ => False := by
  have := entsOf_esc.find k
  unfold escVal escFind findBy
  rw [← Array.find?_toList]
  exact this
theorem esc_map {prog : Program} {w w' : World} {h : Heap} (hh : ∀ b o, b ≠ tb → (H1 w'.params).get? b = some o → h.get? b = some o) : h.MapOf (intKind prog w) 58 escVal := by
  refine ⟨_, escEs, 24, hh _ _ (by decide) (esc_obj w'.params), ⟨rfl, rfl, rfl⟩, rfl, fun e he => ?_, fun k => rfl⟩
  obtain ⟨k, t, h1, h2⟩ := entsOf_esc.keys esc_hash e (by simpa using he)
  exact ⟨k, by rw [h1]; exact intKind_is _ _ _ _, h2⟩
/-- the signs of a piece, escaped -/
noncomputable def escOf (x : Nat) : List Nat := match escFind x with
  | some s => s.cps.toList
  | none => [x]
section
variable {c : Cx} {ρ : List (Str × PV)}
theorem Cl.translate0 : Cl c ρ (.builtin "str.translate") [.str [], .obj 58] (.str []) := by
  constructor
  rintro s Q E vs Si ⟨v, _, rfl, ⟨t, rfl⟩, v', _, rfl, rfl, rfl⟩ hQ
  refine call_meetsIn F.slot_str_translate (typeIs_str _ _ _) F.entry_str_translate (F.args_str_translate_2 _ _) (S := fun A R s => R (.ok (.ret (.str ⟨#[]⟩ t))) s) (.of_wp fun A R s h => ?_) ?_
  · unfold «str.translate»
    rw [show strOneArg "translate" ⟨[.str ⟨[].toArray⟩ t, .ref 58], []⟩ = pure (.str ⟨#[]⟩ t, ⟨#[]⟩, .ref 58) from rfl]
    refine wpAny_bind (wpAny_pure ?_)
    dsimp only
    rw [if_pos (by rfl)]
    refine wpAny_bind (wpAny_rule ?_)
    exact wpAny_pure ⟨_, rfl, h⟩
  · exact hQ _ s (.refl s) ⟨t, rfl⟩
theorem Cl.translate1 {x : Nat} (hx : x < 128) : Cl c ρ (.builtin "str.translate") [.str [x], .obj 58] (.str (escOf x)) := by
  constructor
  rintro s Q E vs Si ⟨v, _, rfl, ⟨t, rfl⟩, v', _, rfl, rfl, rfl⟩ hQ
  refine call_meetsIn F.slot_str_translate (typeIs_str _ _ _) F.entry_str_translate (F.args_str_translate_2 _ _) (S := fun A R s => A.handled = none ∧ s.heap.MapOf (intKind pg c.w) 58 escVal ∧ ∀ v s', Kp s s' → Rep [] s'.heap (.str (escOf x)) v → R (.ok (.ret v)) s') (.of_wp fun A R s h => ?_) ?_
  · obtain ⟨hh, hm, h⟩ := h
    have hv := esc_val x
    unfold escOf at h
    cases h1 : escVal x <;> cases h2 : escFind x <;> rw [h1, h2] at hv <;> rw [h2] at h
    · refine tr_keep x t _ hx (wpAny_tableLookup_missing (by decide) hh hm h1 fun s' k => ⟨rfl, ?_⟩)
      exact wpAny_bind (wpAny_mkStr (wpAny_pure ⟨_, rfl, h _ _ (k.trans (.tok s' _)) ⟨_, rfl⟩⟩) (by simp [Str.length, sizeLine]))
    · exact hv.elim
    · exact hv.elim
    · rename_i y
      obtain ⟨ty, rfl⟩ := hv
      have hy : y.length = 2 := by
        unfold escFind at h2
        obtain ⟨p, hp, rfl⟩ := Option.map_eq_some_iff.mp h2
        have : ∀ p ∈ escL, p.2.length = 2 := by decide +kernel
        exact this p (List.mem_of_find?_eq_some hp)
      refine tr_text x t _ y hx hy (wpAny_tableLookup_text hm h1 fun s' k => ⟨rfl, wpAny_tableLookup_text (f := escVal) ?_ h1 fun s'' k' => ⟨rfl, ?_⟩⟩)
      · obtain ⟨o, es, ep, ho, r⟩ := hm; exact ⟨o, es, ep, k.get _ _ ho, r⟩
      · exact wpAny_bind (wpAny_mkStr (wpAny_pure ⟨_, rfl, h _ _ ((k.trans k').trans (.tok s'' _)) ⟨s''.toks, by simp⟩⟩) (by simp [hy, sizeLine]))
  · exact ⟨Si.hh, esc_map Si.gd.keep, fun v s' k hr => hQ v s' k (by obtain ⟨t', rfl⟩ := hr; exact ⟨t', rfl⟩)⟩
end

end
section
open PySem PySem.W PyProof.Rows PySem.Calls PySem.Builtin PySem.Builtin.SmallTypes
set_option Elab.async false
set_option maxRecDepth 100000
set_option linter.all false
theorem owner_map : Manifest.owners.lookup (String.ofList ['p', 'a', 'm'].reverse) = some Manifest.sig_map := by kernel_rfl
theorem slot_map_next : Slot "map" "__next__" "map.__next__" :=
  .of (owner := "map") (n := "__next__") (by rw [typeLookup_type, builtinLookup_eq_fast]; kernel_rfl) (by decide +kernel) (by decide +kernel) (by decide +kernel)
    (by first | exact .inl (by decide +kernel) | exact .inr (by decide +kernel)) (by rw [isSubtype_type]; kernel_rfl)
theorem entry_map_next : entryFor table "map.__next__" = some Builtin.«map.__next__» := entryFor_of_tree (by kernel_rfl)
theorem args_map_next_1 (a : Value) : argsOk "map.__next__" ⟨[a], []⟩ := by
  unfold argsOk; rw [signature?_of (id := "map.__next__") (n := ['_', '_', 't', 'x', 'e', 'n', '_', '_']) (o := ['p', 'a', 'm']) (by kernel_rfl) owner_map]; kernel_rfl
theorem slot_map_iter : Slot "map" "__iter__" "map.__iter__" :=
  .of (owner := "map") (n := "__iter__") (by rw [typeLookup_type, builtinLookup_eq_fast]; kernel_rfl) (by decide +kernel) (by decide +kernel) (by decide +kernel)
    (by first | exact .inl (by decide +kernel) | exact .inr (by decide +kernel)) (by rw [isSubtype_type]; kernel_rfl)
theorem args_map_iter_1 (a : Value) : argsOk "map.__iter__" ⟨[a], []⟩ := by
  unfold argsOk; rw [signature?_of (id := "map.__iter__") (n := ['_', '_', 'r', 'e', 't', 'i', '_', '_']) (o := ['p', 'a', 'm']) (by kernel_rfl) owner_map]; kernel_rfl
theorem entry_map_iter : entryFor table "map.__iter__" = some Builtin.«dict_keyiterator.__iter__» :=
  entryFor_alias (id' := "dict_keyiterator.__iter__") (by kernel_rfl) (by first | rfl | decide +kernel | (unfold String.splitOn; simp +decide [String.splitOnAux])) (by decide +kernel) (by kernel_rfl)
theorem map_no_len : typeLookup (.type "map") "__len__" = pure none := by rw [typeLookup_type, builtinLookup_eq_fast]; kernel_rfl
theorem map_no_hint : typeLookup (.type "map") "__length_hint__" = pure none := by rw [typeLookup_type, builtinLookup_eq_fast]; kernel_rfl
theorem mro_map : mroOf (.type "map") = pure [.type "map", .type "object"] := by rw [mroOf_type]; kernel_rfl
theorem lookup_map_new : typeLookup (.type "map") "__new__" = pure (some (.builtin "map.__new__")) := by rw [typeLookup_type, builtinLookup_eq_fast]; kernel_rfl
theorem slot_map_init : Slot "map" "__init__" "object.__init__" :=
  .of (owner := "object") (n := "__init__") (by rw [typeLookup_type, builtinLookup_eq_fast]; kernel_rfl) (by decide +kernel) (by decide +kernel) (by decide +kernel)
    (by first | exact .inl (by decide +kernel) | exact .inr (by decide +kernel)) (by rw [isSubtype_type]; kernel_rfl)
theorem called_map : TypeCalled "map" "map.__new__" "object.__init__" :=
  ⟨by decide +kernel, by decide +kernel, ⟨_, _, mro_map⟩, madeBy_type mro_map lookup_map_new (by decide +kernel), by decide +kernel, by rw [isSubtype_type]; kernel_rfl, slot_map_init⟩
theorem typeCall_map_2 (a b : Value) : checkTypeCall "map" ⟨[a, b], []⟩ = pure () := by kernel_rfl
theorem newCall_map_2 (a b : Value) : checkBuiltinCall "map.__new__" ⟨[.type "map", a, b], []⟩ = pure () := by kernel_rfl
theorem entry_map_new : entryFor table "map.__new__" = some Builtin.«map.__new__» := entryFor_of_tree (by kernel_rfl)
theorem newClass_map (a b : Value) : newClass "map" ⟨[.type "map", a, b], []⟩ = pure (.type "map", [a, b]) := by
  unfold newClass
  simp only [isType, called_map.sub, pure_bind, Bool.not_true, Bool.false_eq_true, if_false]
theorem args_init_3 (a b d : Value) : argsOk "object.__init__" ⟨[a, b, d], []⟩ := by
  unfold argsOk; kernel_rfl
noncomputable def mapObj (T : Addr) (f : Value) : Obj := { cls := .type "map", data := .fields #[.ref T, f] }
theorem meets_map_new (f : Value) (l : Addr) (items : Array Value) :
    Meets (Builtin.«map.__new__» ⟨[.type "map", f, .ref l], []⟩) (fun _ R s => s.heap.IsList l items ∧
      R (.ok (.ret (.ref (s.heap.objs.size + 2))))
        { s with heap := ((s.heap.push { cls := .type "list_iterator", data := .fields #[.ref l, .int 0 0] }).push { cls := .type "tuple", data := .seq #[.ref s.heap.objs.size] }).push (mapObj (s.heap.objs.size + 1) f) }) :=
  .of_wp fun prog w A R s h => by
    obtain ⟨hl, h⟩ := h
    unfold Builtin.«map.__new__»
    rw [newClass_map]
    refine wpAny_bind (wpAny_pure ?_)
    dsimp only
    refine wpAny_bind (wpAny_of_eq (a := ()) rfl ?_)
    rw [if_neg (show ¬ [f, Value.ref l].length < 2 by simp)]
    refine wpAny_bind ?_
    show wpAny _ _ (iterAll [.ref l]) _ _ s
    unfold iterAll
    refine wpAny_bind ?_
    rw [List.forIn_cons]
    refine wpAny_bind (wpAny_bind (wpAny_holding (wpAny_pyIter_list hl ?_)))
    refine wpAny_pure ?_
    dsimp only
    rw [List.forIn_nil]
    refine wpAny_pure (wpAny_pure ?_)
    refine wpAny_bind (wpAny_newTuple ?_ (by show 1 ≤ sizeLine; decide))
    dsimp only [List.headD]
    unfold newRecord
    dsimp only
    refine wpAny_bind (wpAny_newObj_type ?_)
    refine wpAny_pure ⟨_, rfl, ?_⟩
    rw [Heap.size_push, Heap.size_push] at *
    exact h
section
variable {prog : Program} {w : World} {A : Around} {E : Value → Shared → Prop} {s : Shared}
theorem call_map {f : Value} {l : Addr} {items : Array Value} {Q : Value → Shared → Prop} (hl : s.heap.IsList l items)
    (h : Q (.ref (s.heap.objs.size + 2)) { s with heap := ((s.heap.push { cls := .type "list_iterator", data := .fields #[.ref l, .int 0 0] }).push { cls := .type "tuple", data := .seq #[.ref s.heap.objs.size] }).push (mapObj (s.heap.objs.size + 1) f) }) :
    wpAny (model prog w) A (call (.type "map") [f, .ref l]) Q E s := by
  refine callType_new called_map (by decide) (typeCall_map_2 _ _) (newCall_map_2 _ _) (fun obj => args_init_3 obj _ _) entry_map_new (meets_map_new f l items) ⟨hl, ?_, h⟩
  have hz : ((s.heap.push { cls := .type "list_iterator", data := .fields #[.ref l, .int 0 0] }).push { cls := .type "tuple", data := .seq #[.ref s.heap.objs.size] }).objs.size = s.heap.objs.size + 2 := by rw [Heap.size_push, Heap.size_push]
  have := Heap.get?_push_size ((s.heap.push { cls := .type "list_iterator", data := .fields #[.ref l, .int 0 0] }).push { cls := .type "tuple", data := .seq #[.ref s.heap.objs.size] }) (o := mapObj (s.heap.objs.size + 1) f) rfl
  rw [hz] at this
  exact ⟨_, this, rfl⟩
noncomputable def IsMap (h : Heap) (I T J l : Addr) (f : Value) (i : Nat) (items : Array Value) : Prop := h.get? I = some (mapObj T f) ∧ h.get? T = some { cls := .type "tuple", data := .seq #[.ref J] } ∧ h.IsListIter J l i ∧ h.IsList l items
theorem IsMap.typeIs {I T J l : Addr} {f : Value} {i : Nat} {items : Array Value} (x : IsMap s.heap I T J l f i items) : s.TypeIs (.ref I) "map" := ⟨_, x.1, rfl⟩
theorem pyIter_map {I T J l : Addr} {f : Value} {i : Nat} {items : Array Value} {Q : Value → Shared → Prop} (x : IsMap s.heap I T J l f i items) (h : Q (.ref I) s) : wpAny (model prog w) A (pyIter (.ref I)) Q E s := by
  have hT : s.TypeIs (.ref I) "map" := x.typeIs
  refine wpAny_pyIter_slot hT slot_map_iter (wpAny_call_entry slot_map_iter hT entry_map_iter ?_ (args_map_iter_1 _))
  show wpAny _ _ (ret (.ref I)) _ _ s
  exact wpAny_pure ⟨_, rfl, "map", _, hT, slot_map_next.lookup, h⟩
theorem pyNext_map_item {I T J l : Addr} {f : Value} {i : Nat} {items : Array Value} {v : Value} {Q : Option Value → Shared → Prop} (x : IsMap s.heap I T J l f i items) (hv : items[i]? = some v) (hJ : I ≠ J ∧ T ≠ J ∧ l ≠ J)
    (h : ∀ h', IsMap h' I T J l f (i + 1) items → Heap.SameBut J s.heap h' → wpAny (model prog w) A.in1 (call f [v]) (fun r s' => Q (some r) s') (fun e s' => False) { s with heap := h' }) :
    wpAny (model prog w) A (pyNext (.ref I)) Q E s := by
  have hT : s.TypeIs (.ref I) "map" := x.typeIs
  obtain ⟨hI, hTu, hit, hl⟩ := x
  unfold pyNext
  refine wpAny_bind (wpAny_attempt (wpAny_callSpecial?_slot (name := Str.ofString "__next__") hT slot_map_next
    (wpAny_call_entry slot_map_next hT entry_map_next ?_ (args_map_next_1 _))))
  unfold Builtin.«map.__next__»
  refine wpAny_bind (wpAny_of_eq (a := (Value.ref I, [])) rfl ?_)
  dsimp only
  refine wpAny_bind (wpAny_field hI rfl (x := .ref T) rfl ?_)
  refine wpAny_bind (wpAny_seqItems hTu rfl ?_)
  dsimp only
  refine wpAny_bind ?_
  rw [← Array.forIn_toList, List.forIn_cons]
  refine wpAny_bind (wpAny_bind (wpAny_holding (wpAny_nextOf_list_item hit hl hv fun h' hit' hs => ?_)))
  refine wpAny_pure ?_
  dsimp only
  rw [List.forIn_nil]
  refine wpAny_pure ?_
  have hI' : h'.get? I = some (mapObj T f) := (hs.2 I hJ.1).trans hI
  refine wpAny_bind (wpAny_field hI' rfl (x := f) rfl ?_)
  refine wpAny_bind (wpAny_holding ?_)
  refine wpAny_mono (h h' ⟨hI', (hs.2 T hJ.2.1).trans hTu, hit', hl.at fun o e => (hs.2 l hJ.2.2).trans e⟩ hs) (fun r s' hq => ?_) (fun e s' hf => hf.elim)
  refine wpAny_bind (wpAny_letGo ?_)
  exact wpAny_pure ⟨_, rfl, wpAny_pure hq⟩
theorem pyNext_map_end {I T J l : Addr} {f : Value} {i : Nat} {items : Array Value} {Q : Option Value → Shared → Prop} (hh : A.handled = none) (x : IsMap s.heap I T J l f i items) (hv : items[i]? = none) 
    (h : ∀ h', Heap.ExtBut J s.heap h' → Q none { s with heap := h' }) :
    wpAny (model prog w) A (pyNext (.ref I)) Q E s := by
  have hT : s.TypeIs (.ref I) "map" := x.typeIs
  obtain ⟨hI, hTu, hit, hl⟩ := x
  unfold pyNext
  refine wpAny_bind (wpAny_attempt (wpAny_callSpecial?_slot (name := Str.ofString "__next__") hT slot_map_next
    (wpAny_call_entry slot_map_next hT entry_map_next ?_ (args_map_next_1 _))))
  unfold Builtin.«map.__next__»
  refine wpAny_bind (wpAny_of_eq (a := (Value.ref I, [])) rfl ?_)
  dsimp only
  refine wpAny_bind (wpAny_field hI rfl (x := .ref T) rfl ?_)
  refine wpAny_bind (wpAny_seqItems hTu rfl ?_)
  dsimp only
  refine wpAny_bind ?_
  rw [← Array.forIn_toList, List.forIn_cons]
  refine wpAny_bind (wpAny_bind (wpAny_holding (wpAny_nextOf_list_end hh hit hl hv fun h' e he ho => ?_)))
  obtain ⟨o, ho, hc⟩ := ho
  refine wpAny_bind (wpAny_isInstance (T := "StopIteration") (b := true) ⟨o, ho, hc⟩ isSubtype_stop ?_)
  exact wpAny_pure (h h' he)
end

end
section
open PySem PySem.W PyProof.Rows PySem.Calls PySem.Builtin PySem.Builtin.SmallTypes
set_option Elab.async false
set_option maxRecDepth 100000
set_option linter.all false
section
variable {prog : Program} {w : World} {A : Around} {E : Value → Shared → Prop} {s : Shared}
variable {I : Addr} {fp wr : List Addr} {G : Array GenState → Array GenState → Prop} {n : Nat} {P : Nat → Value → Prop} {St : Nat → Shared → Prop}
/-- list(..) of a map object -/
theorem init_map {R : Result → Shared → Prop} (W : WalksS prog w A.in1 I fp wr G n P St) (hT : ∀ i s, St i s → s.TypeIs (.ref I) "map") (D : Addr) (hst : St 0 s) (hDf : D ∉ fp) (hI : I ∈ fp)
    (hD : s.heap.get? D = some { cls := .type "list", data := .seq #[] }) (hn : n ≤ sizeLine)
    (hR : ∀ s' acc c', Moved (D :: wr) G s s' → s'.heap.get? D = some { cls := .type "list", dict := none, data := .seq acc c', slots := #[] } → ItemsOf P acc n → R (.ok (.ret .none)) s') :
    wpAny (model prog w) A.in1 (Builtin.«list.__init__» ⟨[.ref D, .ref I], []⟩)
      (fun fin s' => match fin with | .done f => R (.ok f) s' | .again c' => c'.quiet = true ∧ codeAny (model prog w) A c' R s') (fun e s' => R (.error e) s') s := by
  have hDI : D ≠ I := fun e => hDf (e ▸ hI)
  have other : ∀ {h : Heap} {f : Obj → Obj} b o, b ≠ D → h.get? b = some o → (h.update D f).get? b = some o := fun b o hb e => (Heap.get?_update_other _ _ (Ne.symm hb)).trans e
  show wpAny _ A.in1 (Builtin.List.listItems (.ref D) >>= fun old => Builtin.List.listUpdate (.ref D) (fun _ => #[]) >>= fun _ => letGo old.toList.reverse >>= fun _ => Builtin.List.listExtendWith (.ref D) (.ref I) .none) _ _ s
  unfold Builtin.List.listItems
  refine wpAny_bind (wpAny_bind (wpAny_seqItems hD rfl (wpAny_pure ?_)))
  refine wpAny_bind (m := updateSeq D (fun _ => #[])) (wpAny_updateSeq hD rfl ?_)
  have hD1 := Heap.get?_update_self (Obj.mapSeq (fun _ => (#[] : Array Value))) hD rfl
  refine wpAny_bind (wpAny_letGo ?_)
  have st1 : St 0 { s with heap := s.heap.update D (Obj.mapSeq (fun _ => (#[] : Array Value))) } := W.frame 0 s _ s.toks hst (Nat.le_refl _) fun b hb o e => other b o (fun h => hDf (h ▸ hb)) e
  unfold Builtin.List.listExtendWith
  refine wpAny_bind (wpAny_typeOf (hT 0 _ st1) ?_)
  have e1 : Builtin.List.listSameRef (.ref D) (.ref I) = false := by simp [Builtin.List.listSameRef, hDI]
  have e2 : (Value.type "map" == Value.type "list") = false := by decide
  have e3 : (Value.type "map" == Value.type "tuple") = false := by decide
  simp only [e1, e2, e3, Bool.or_false, Bool.false_eq_true, if_false]
  refine wpAny_bind (W.self 0 _ _ _ st1 ?_)
  refine wpAny_bind (wpAny_holding ?_)
  unfold Builtin.List.listLengthHint
  refine wpAny_bind (wpAny_specialOf (hT 0 _ st1) map_no_len ?_)
  show wpAny _ A.in1 (specialOf (Value.ref I) (Str.ofString "__length_hint__") >>= _) _ _ _
  refine wpAny_bind (wpAny_specialOf (hT 0 _ st1) map_no_hint ?_)
  refine wpAny_pure ?_
  show wpAny _ A.in1 (rule "list.extend.makes-room" >>= fun _ => Builtin.List.listTouch (.ref D) >>= fun _ => again (.builtin "list.extend.loop" ⟨[.ref D, .ref I, .none], []⟩)) _ _ _
  refine wpAny_bind (wpAny_rule (wpAny_bind ?_))
  show wpAny _ A.in1 (updateSeq D (·.push .none) >>= fun _ => updateSeq D (·.pop)) _ _ _
  refine wpAny_bind (wpAny_updateSeq hD1 rfl ?_)
  have hD2 := Heap.get?_update_self (Obj.mapSeq (·.push Value.none)) hD1 rfl
  refine wpAny_updateSeq (hz := by seq_fits) hD2 rfl ?_
  have hD3 := Heap.get?_update_self (Obj.mapSeq (·.pop)) hD2 rfl
  refine wpAny_pure ⟨plainId_quiet F.plain_extend_loop _, codeAny_extend_loopS W hn _ hDf _ n 0 _ _ _ rfl (Nat.zero_le _)
    (W.frame 0 { s with heap := s.heap.update D (Obj.mapSeq (fun _ => (#[] : Array Value))) } _ s.toks st1 (Nat.le_refl _) fun b hb o e => other b o (fun h => hDf (h ▸ hb)) (other b o (fun h => hDf (h ▸ hb)) e)) hD3 (ItemsOf.nil P) fun s' acc c' hm hS hacc => ?_⟩
  refine hR s' acc c' (Moved.trans W.gtrans ((Moved.refl W.grefl).then_heap (Nat.le_refl _) fun b o hb e => ?_) hm) hS hacc
  have hb : b ≠ D := fun h => hb (h ▸ List.mem_cons_self)
  exact other b o hb (other b o hb (other b o hb e))
theorem call_list_map {Q : Value → Shared → Prop} (W : WalksS prog w A.in1.in1 I fp wr G n P St) (hT : ∀ i s, St i s → s.TypeIs (.ref I) "map") (hst : St 0 s) (hfp : ∀ b ∈ fp, b < s.heap.objs.size) (hI : I ∈ fp) (hn : n ≤ sizeLine)
    (hQ : ∀ s' acc c', Moved (s.heap.objs.size :: wr) G { s with heap := s.heap.push { cls := .type "list", data := .seq #[] } } s' →
      s'.heap.get? s.heap.objs.size = some { cls := .type "list", dict := none, data := .seq acc c', slots := #[] } → ItemsOf P acc n → Q (.ref s.heap.objs.size) s') :
    wpAny (model prog w) A (call (.type "list") [.ref I]) Q E s := by
  have hDf : s.heap.objs.size ∉ fp := fun hm => Nat.lt_irrefl _ (hfp _ hm)
  refine callType_codes (Q₁ := fun obj s₁ => obj = .ref s.heap.objs.size ∧ s₁ = { s with heap := s.heap.push { cls := .type "list", data := .seq #[] } }) F.called_list (F.typeCall_list_1 _) F.entry_list_init
    (code_list_new _ ⟨rfl, rfl⟩) fun obj s₁ h₁ => ?_
  obtain ⟨rfl, rfl⟩ := h₁
  have hD : (s.heap.push { cls := .type "list", data := .seq #[] }).get? s.heap.objs.size = some { cls := .type "list", data := .seq #[] } := Heap.get?_push_size _ rfl
  exact ⟨⟨_, hD, rfl⟩, F.args_list_init_2 _ _, init_map W hT _ (W.frame 0 s _ s.toks hst (Nat.le_refl _) fun b _ o e => Heap.get?_push_of_some _ e) hDf hI hD hn fun s' acc c' hm hS hacc => ⟨rfl, hQ s' acc c' hm hS hacc⟩⟩
end
theorem h1_size (P : Params) : (H1 P).objs.size = 195 := by kernel_rfl
section
variable {c : Cx} {K : Shared} {ρ : List (Str × PV)} {Q : Flow → Shared → Prop}
/-- a list that is going to be written, made in whatever way -/
theorem Act.addM {s₁ s₂ : Shared} {x : Str} {D : Addr} {pl : Bool} {ps : List PV} {its : Array Value} (X₁ : Act c K [] ρ s₁) (hH : c.H = []) (k : Kp s₁ s₂) (hD : s₁.heap.get? D = none) (hl : s₂.heap.IsList D its) (hp : pl = true → PlainL s₂.heap D its)
    (hz : its.size ≤ 65536) (r : Reps [D] s₂.heap ps its.toList) : Act c K [⟨x, D, pl, ps⟩] ρ s₂ ∧ K.heap.get? D = none := by
  have hfresh : ∀ b o, s₁.heap.get? b = some o → b ≠ D := fun b o e h => by rw [h, hD] at e; cases e
  have hKD : K.heap.get? D = none := by
    cases g : K.heap.get? D with
    | none => rfl
    | some o =>
      by_cases hown : own c [] D
      · rcases hown with h | ⟨n', h⟩ | h
        · obtain ⟨m, o, es, ep, g, _⟩ := X₁.ns
          rw [← h, hD] at g; cases g
        · obtain ⟨v, o, g, _⟩ := X₁.cell n' _ h
          rw [hD] at g; cases g
        · simp at h
      · have := X₁.keep _ o hown g
        rw [hD] at this; cases this
  have htb : D ≠ tb := fun h => by
    obtain ⟨o, e⟩ := X₁.sit.gd.tbe
    rw [← h, hD] at e; cases e
  have X₂ := X₁.kp k
  have hcH : (c.hide []).H = [] := by unfold Cx.hide; rw [hH]; rfl
  have e1 : (c.hide [⟨x, D, pl, ps⟩]).H = [D] := by unfold Cx.hide; rw [hH]; rfl
  refine ⟨⟨⟨X₂.sit.gd, fun a ha => ?_, X₂.sit.fn, X₂.sit.gl, X₂.sit.bl, fun e he => ?_, X₂.sit.hh, X₂.sit.ru, X₂.sit.rd, X₂.sit.fx⟩, fun e he => ?_, X₂.ns, X₂.cell, X₂.apart, X₂.above, fun b hb => ?_, fun b o hb e => X₂.keep b o (fun h => hb ?_) e, X₂.same, fun e he hown => by
        rcases hown with h | h | h
        · exact X₂.fo e he (.inl h)
        · exact X₂.fo e he (.inr (.inl h))
        · have h : e.1 = D := by simpa using h
          exact hfresh _ _ (X₁.sit.fx e he) h⟩, hKD⟩
  · have ha : a = D := by
      rw [e1] at ha; simpa using ha
    obtain ⟨o, e, _⟩ := hl
    rw [ha]; exact ⟨o, e⟩
  · obtain ⟨v, h1, h2⟩ := X₁.sit.vars e he
    refine ⟨v, h1.keeps k.get, ?_⟩
    rw [hcH] at h2
    rw [e1]
    exact Rep.sk (.of_keep k.get) _ _ (Rep.avoid hD _ _ h2)
  · rcases List.mem_singleton.mp he with rfl
    refine ⟨its, hl, hp, hz, ?_⟩
    rw [e1]; exact r
  · rcases hb with h | h | h
    · exact X₂.h1 b (.inl h)
    · exact X₂.h1 b (.inr (.inl h))
    · have hb' : b = D := by simpa using h
      subst hb'
      refine ⟨?_, htb⟩
      cases g : (H1 c.w.params).get? b with
      | none => rfl
      | some o =>
        have := X₁.sit.gd.keep _ o htb g
        rw [hD] at this; cases this
  · rcases h with h | h | h
    · exact .inl h
    · exact .inr (.inl h)
    · simp at h
/-- the place of a call from within built-in code -/
noncomputable abbrev Cx.inner (c : Cx) (n : Nat) : Cx := { c with A := c.A.in1.in1.in1, H := [], N := n, fix := [] }
theorem Sit.inner {n : Nat} {s : Shared} (S : Sit c ρ s) (hN : c.N = n + 1) : Sit (c.inner n) [] s :=
  ⟨S.gd, (fun a ha => nomatch ha), S.fn, S.gl, S.bl, (fun e he => nomatch he), S.hh, by have := S.ru; rw [hN] at this; show c.A.units + 1 + 1 + 1 + 50 * (n + 1) < cLine; omega, by have := S.rd; rw [hN] at this; show c.A.depth + 8 * (n + 1) < recursionLimit; omega, fun e he => nomatch he⟩
theorem Sit.moved {n : Nat} {s : Shared} {h' : Heap} {tk : Nat} {J : Addr} (S : Sit (c.inner n) [] s) (hJ : (H1 c.w.params).get? J = none ∧ J ≠ tb) (k : ∀ b o, b ≠ J → s.heap.get? b = some o → h'.get? b = some o) : Sit (c.inner n) [] { s with heap := h', toks := tk } :=
  ⟨⟨let ⟨o, e⟩ := S.gd.tbe; ⟨o, k _ _ hJ.2.symm e⟩, fun b o hb e => k b o (fun h => by rw [h, show (H1 (c.inner n).w.params).get? J = none from hJ.1] at e; cases e) (S.gd.keep b o hb e)⟩, (fun a ha => nomatch ha), S.fn, S.gl, S.bl, (fun e he => nomatch he), S.hh, S.ru, S.rd, fun e he => nomatch he⟩
theorem Gd.heap {w : World} {s s' : Shared} (g : Gd w s) (e : s'.heap = s.heap) : Gd w s' := ⟨by rw [e]; exact g.tbe, by rw [e]; exact g.keep⟩
theorem Sit.heap {c : Cx} {s s' : Shared} (hH : c.H = []) (hf : c.fix = []) (S : Sit c [] s) (e : s'.heap = s.heap) : Sit c [] s' :=
  ⟨S.gd.heap e, (fun a ha => by rw [hH] at ha; cases ha), S.fn, S.gl, S.bl, (fun e he => nomatch he), S.hh, S.ru, S.rd, (fun e he => by rw [hf] at he; cases he)⟩
/-- a map object over a list of strs, its function known on each of them -/
theorem walks_map {n : Nat} {I T J l f : Addr} {items : Array Value} {ps rs : List (List Nat)} {s₀ : Shared} (S₀ : Sit (c.inner n) [] s₀) (hJ : (H1 c.w.params).get? J = none ∧ J ≠ tb) (hne : I ≠ J ∧ T ≠ J ∧ l ≠ J) (hps : Reps [] s₀.heap (ps.map .str) items.toList) (hlen : rs.length = ps.length)
    (hf : ∀ (i : Nat) p r, ps[i]? = some p → rs[i]? = some r → Cl (c.inner n) [] (.ref f) [.str p] (.str r)) :
    Walks pg c.w c.A.in1.in1 I ([I, T, J, l] ++ List.range 195) [J] ps.length (fun i v => ∃ r t, rs[i]? = some r ∧ v = .str (S r) t) (fun i h => IsMap h I T J l (.ref f) i items ∧ ∀ s, s.heap = h → Sit (c.inner n) [] s) where
  sub := fun b hb => by rw [List.mem_singleton.mp hb]; simp
  frame := fun i h h' st hk => by
    obtain ⟨⟨x1, x2, x3, x4⟩, S⟩ := st
    refine ⟨⟨hk I (by simp) _ x1, hk T (by simp) _ x2, ?_, x4.at fun o e => hk l (by simp) o e⟩, fun s hs => ?_⟩
    · obtain ⟨o, ho, r⟩ := x3; exact ⟨o, hk J (by simp) _ ho, r⟩
    · have S' := S { s with heap := h } rfl
      have hr : ∀ b, b < 195 → b ∈ [I, T, J, l] ++ List.range 195 := fun b hb => List.mem_append_right _ (List.mem_range.mpr hb)
      refine ⟨⟨?_, fun b o hb e => ?_⟩, (fun a ha => nomatch ha), S'.fn, S'.gl, S'.bl, (fun e he => nomatch he), S'.hh, S'.ru, S'.rd, fun e he => nomatch he⟩
      · obtain ⟨o, e⟩ := S'.gd.tbe; rw [hs]; exact ⟨o, hk _ (hr _ (by decide)) o e⟩
      · rw [hs]
        have h2 := Heap.lt_size e
        rw [h1_size] at h2
        exact hk b (hr b h2) o (S'.gd.keep b o hb e)
  item := fun i s Q E hi st hQ => by
    obtain ⟨x, S⟩ := st
    have hl := hps.length
    simp only [Array.length_toList, List.length_map] at hl
    have hp : ps[i]? = some ps[i] := List.getElem?_eq_getElem hi
    have hr : rs[i]? = some (rs[i]'(by omega)) := List.getElem?_eq_getElem (by omega)
    obtain ⟨v, hv, rv⟩ := hps.get i (x := .str ps[i]) (by simp [hi])
    refine pyNext_map_item x (v := v) (by simpa using hv) hne fun h' x' hs => ?_
    have S' : Sit (c.inner n) [] { s with heap := h' } := (S s rfl).moved (tk := s.toks) hJ fun b o hb e => (hs.2 b hb).trans e
    refine (hf i _ _ hp hr).run _ _ _ [v] S' ⟨v, [], rfl, rv.flat rfl, rfl⟩ fun u s'' k ru => ?_
    obtain ⟨t, rfl⟩ := ru
    obtain ⟨h'', tk, rfl⟩ := k.eq
    refine hQ _ h'' tk ⟨_, t, hr, rfl⟩ ⟨⟨k.get _ _ x'.1, k.get _ _ x'.2.1, ?_, x'.2.2.2.at fun o e => k.get _ _ e⟩, fun s hs => (S'.keeps k).heap rfl rfl hs⟩ fun b o hb e => k.get _ _ ((hs.2 b (fun h => hb (by simp [h]))).trans e)
    obtain ⟨o, ho, r⟩ := x'.2.2.1
    exact ⟨o, k.get _ _ ho, r⟩
  done := fun s Q E st hQ => by
    obtain ⟨x, S⟩ := st
    have hl := hps.length
    simp only [Array.length_toList, List.length_map] at hl
    refine pyNext_map_end (S s rfl).hh x (by simp; omega) fun h' he => hQ h' s.toks fun b o hb e => he b o (fun h => hb (by simp [h])) e
  self := fun i s Q E st hQ => pyIter_map st.1 hQ
end

end
section
open PySem PySem.W PyProof.Rows PySem.Calls PySem.Builtin PySem.Builtin.SmallTypes
set_option Elab.async false
set_option maxRecDepth 100000
set_option linter.all false
section
variable {c : Cx} {K : Shared} {ρ : List (Str × PV)} {Q : Flow → Shared → Prop}
theorem Ev.isinst_str {e : Expr} {p q pos : Pos} {x : List Nat} (h1 : isGl c (Str.ofString "isinstance")) (h2 : isGl c (Str.ofString "str")) (he : Ev c ρ e (.str x))
    (hst : starEach [e, .Name (Str.ofString "str") q] c.env = [(false, eval e c.env), (false, eval (.Name (Str.ofString "str") q) c.env)]) (hp : plainArgs c [e, .Name (Str.ofString "str") q]) : Ev c ρ (.Call (.Name (Str.ofString "isinstance") p) [e, .Name (Str.ofString "str") q] [] pos) (.bool true) := .mk fun s Q E S hQ => by
  have hn : Nm c ρ (.Name (Str.ofString "str") q) (.type "str") := .bltn h2 (by intro P; kernel_rfl) (by intro P; kernel_rfl) (by kernel_rfl)
  refine Call_Name rfl ((nm_isinstance (ρ := ρ) h1).run s _ _ S (Calls.callWith_builtin (hp _) ?_))
  rw [hst]
  refine Calls.evalArgs_plain (spliced_cons (he.run s _ _ S fun v s₁ k₁ r₁ => spliced_cons (hn.run s₁ _ _ (S.keeps k₁) (spliced_nil ?_))))
  obtain ⟨t, rfl⟩ := r₁
  exact IsiPair.str_str (hQ _ _ k₁ rfl)
theorem Ev.fmt {e : Expr} {pos : Pos} {x : List Nat} (he : Ev c ρ e (.str x)) (hz : x.length ≤ 65536) : Ev c ρ (.FormattedValue e (-1) none pos) (.str x) := .mk fun s Q E S hQ =>
  wpAny_FormattedValue_plain (he.run s _ _ S fun v s₁ k₁ r₁ => by
    obtain ⟨t, rfl⟩ := r₁
    exact formatField_str (fun t' tk => hQ _ _ (k₁.trans (.tok s₁ _)) ⟨t', rfl⟩) (by simp [Str.length, sizeLine]; omega))
theorem Ev.joined2 {e₁ e₂ : Expr} {pos : Pos} {x y : List Nat} (h₁ : Ev c ρ e₁ (.str x)) (h₂ : Ev c ρ e₂ (.str y)) (hz : x.length + y.length ≤ 65536) : Ev c ρ (.JoinedStr [e₁, e₂] pos) (.str (x ++ y)) := .mk fun s Q E S hQ => by
  refine wpAny_JoinedStr (h₁.run s _ _ S fun v s₁ k₁ r₁ => ?_)
  obtain ⟨t, rfl⟩ := r₁
  have e0 : ∀ z : List Nat, (Str.empty ++ (⟨z.toArray⟩ : Str)) = ⟨z.toArray⟩ := fun z => by
    show (⟨#[] ++ z.toArray⟩ : Str) = _
    simp
  have e1 : ∀ z u : List Nat, ((⟨z.toArray⟩ : Str) ++ (⟨u.toArray⟩ : Str)) = ⟨(z ++ u).toArray⟩ := fun z u => by
    show (⟨z.toArray ++ u.toArray⟩ : Str) = _
    simp
  refine ⟨_, _, rfl, by rw [e0]; simp [Str.length, sizeLine]; omega, h₂.run s₁ _ _ (S.keeps k₁) fun v s₂ k₂ r₂ => ?_⟩
  obtain ⟨t, rfl⟩ := r₂
  refine ⟨_, _, rfl, by rw [e0, e1]; simp [Str.length, sizeLine]; omega, ?_⟩
  refine ⟨by rw [e0, e1]; simp [Str.length, sizeLine]; omega, hQ _ _ ((k₁.trans k₂).trans (.tok s₂ _)) ⟨_, by rw [e0, e1]⟩⟩
theorem Ev.joined3 {e₁ e₂ e₃ : Expr} {pos : Pos} {x y z : List Nat} (h₁ : Ev c ρ e₁ (.str x)) (h₂ : Ev c ρ e₂ (.str y)) (h₃ : Ev c ρ e₃ (.str z)) (hz : x.length + y.length + z.length ≤ 65536) : Ev c ρ (.JoinedStr [e₁, e₂, e₃] pos) (.str (x ++ y ++ z)) := .mk fun s Q E S hQ => by
  refine wpAny_JoinedStr (h₁.run s _ _ S fun v s₁ k₁ r₁ => ?_)
  obtain ⟨t, rfl⟩ := r₁
  have e0 : ∀ z : List Nat, (Str.empty ++ (⟨z.toArray⟩ : Str)) = ⟨z.toArray⟩ := fun z => by
    show (⟨#[] ++ z.toArray⟩ : Str) = _
    simp
  have e1 : ∀ z u : List Nat, ((⟨z.toArray⟩ : Str) ++ (⟨u.toArray⟩ : Str)) = ⟨(z ++ u).toArray⟩ := fun z u => by
    show (⟨z.toArray ++ u.toArray⟩ : Str) = _
    simp
  refine ⟨_, _, rfl, by rw [e0]; simp [Str.length, sizeLine]; omega, h₂.run s₁ _ _ (S.keeps k₁) fun v s₂ k₂ r₂ => ?_⟩
  obtain ⟨t, rfl⟩ := r₂
  refine ⟨_, _, rfl, by rw [e0, e1]; simp [Str.length, sizeLine]; omega, h₃.run s₂ _ _ ((S.keeps k₁).keeps k₂) fun v s₃ k₃ r₃ => ?_⟩
  obtain ⟨t, rfl⟩ := r₃
  refine ⟨_, _, rfl, by rw [e0, e1, e1]; simp [Str.length, sizeLine]; omega, ?_⟩
  refine ⟨by rw [e0, e1, e1]; simp [Str.length, sizeLine]; omega, hQ _ _ (((k₁.trans k₂).trans k₃).trans (.tok s₃ _)) ⟨_, by rw [e0, e1, e1]⟩⟩
theorem reps_of_strs {H : List Addr} {h : Heap} : ∀ {l : List (Str × Tok)} {xs : List (List Nat)}, l.map (·.1) = xs.map S → Reps H h (xs.map .str) (strValues l)
  | [], [], _ => rfl
  | [], x :: xs, e => by simp at e
  | a :: l, [], e => by simp at e
  | a :: l, x :: xs, e => by
    simp only [List.map_cons, List.cons.injEq] at e
    exact ⟨.str a.1 a.2, strValues l, rfl, ⟨a.2, by rw [e.1]; rfl⟩, reps_of_strs e.2⟩
theorem Cl.split {x : List Nat} {y : Nat} {ps : List (List Nat)} (hH : c.H = []) (hps : Txt.split (S x) (S [y]) = ps.map S) (hz : x.length ≤ 60000) (hz2 : ps.length ≤ 65536) : Cl c ρ (.builtin "str.split") [.str x, .str [y]] (.list (ps.map .str)) := Cl.two_str fun s Q E t u Si hQ => by
  refine SCH.split1 (P := fun h => (∀ b o, s.heap.get? b = some o → h.get? b = some o)) (fun h o p b o' e => Heap.get?_push_of_some _ (p b o' e)) (fun _ _ e => e) rfl (fun D l h' k hl hk hi => ?_) (by simp [S, Str.length, sizeLine]; omega) ?_
  · have hlen : l.length = ps.length := by
      have := congrArg List.length hl
      rw [hps] at this; simpa using this
    rw [hps] at hl
    have hsv : ∀ l : List (Str × Tok), (strValues l).length = l.length := fun l => by simp [strValues]
    refine hQ _ _ (.of s hk) ⟨D, (strValues l).toArray, rfl, by rw [hH]; simp, hi, by have := hsv l; simp; omega, ?_⟩
    simpa using reps_of_strs (H := c.H) (h := h') hl
  · have h1 := PyProof.Rows.len_partsBetween (S x) (Builtin.Str.occurrences (S x) (S [y]) 0 (S x).length ((S x).length + 1)) (S [y]).length
    have h2 := StrLaws.occ_length_le (S x) (S [y]) 0 (S x).length ((S x).length + 1)
    have h3 : (S x).length = x.length := by simp [S, Str.length]
    rw [h1]
    simp only [sizeLine]
    omega
/-- a list of what a def makes of the items of a list of strs, going to be written -/
theorem Bd.letMap (pl : Bool) {x y : Str} {px p1 p2 p3 pos1 pos2 pos : Pos} {f : Addr} {fd : FuncData} {e : Expr} {rest : List Stmt} {ps rs : List (List Nat)} {n : Nat} (hH : c.H = []) (hN : c.N = n + 1) (hok : stOk c.env x = true) (hx : (ρ.map (·.1)).contains x = false)
    (hs : swapsWith (.Call (.Name (Str.ofString "list") p1) [.Call (.Name (Str.ofString "map") p2) [.Name y p3, e] [] pos2] [] pos1) (some (.Name x px)) pos.line c.env = pure false)
    (hl : isGl c (Str.ofString "list")) (hm : isGl c (Str.ofString "map")) (hy : isGl c y) (hyv : ∀ P, (H1 P).nsMap mainNs y = some (.ref f)) (hyd : (y == ("__debug__" : Str)) = false)
    (hst1 : starEach [.Call (.Name (Str.ofString "map") p2) [.Name y p3, e] [] pos2] c.env = [(false, eval (.Call (.Name (Str.ofString "map") p2) [.Name y p3, e] [] pos2) c.env)])
    (hst2 : starEach [.Name y p3, e] c.env = [(false, eval (.Name y p3) c.env), (false, eval e c.env)])
    (he : Ev c ρ e (.list (ps.map .str))) (hlen : rs.length = ps.length) (hz : ps.length ≤ 60000)
    (hf : ∀ (i : Nat) p r, ps[i]? = some p → rs[i]? = some r → Cl (c.inner n) [] (.ref f) [.str p] (.str r))
    (k : ∀ D, K.heap.get? D = none → Bd c K [⟨x, D, pl, rs.map .str⟩] ((x, .obj D) :: ρ) rest Q) :
    Bd c K [] ρ (.Assign [.Name x px] (.Call (.Name (Str.ofString "list") p1) [.Call (.Name (Str.ofString "map") p2) [.Name y p3, e] [] pos2] [] pos1) pos :: rest) Q := Bd.seq fun s E X => by
  refine wpAny_Assign_Name ?_ hs
  have S := X.view0 hH
  refine PyProof.Rows.Call_Name1 ((nm_list (ρ := ρ) hl).run s _ _ S ?_) hst1
  refine PySem.callWith_type rfl (Calls.evalArgs_plain (spliced_cons ?_))
  refine PyProof.Rows.Call_Name2 ((nm_map (ρ := ρ) hm).run s _ _ S ?_) hst2
  have hn : Nm c ρ (.Name y p3) (.ref f) := Nm.glob hy hyv hyd
  refine PySem.callWith_type rfl (Calls.evalArgs_plain (spliced_cons (hn.run s _ _ S (spliced_cons (he.run s _ _ S fun v s₁ k₁ r₁ => spliced_nil ?_)))))
  obtain ⟨l, its, rfl, _, hli, hzi, ra⟩ := r₁
  have S₁ := S.keeps k₁
  refine call_map hli (spliced_nil ?_)
  -- behind map(..)
  have hJ0 : s₁.heap.get? s₁.heap.objs.size = none := get_ge (Nat.le_refl _)
  have hll : l < s₁.heap.objs.size := by obtain ⟨_, e, _⟩ := hli; exact Heap.lt_size e
  generalize hh₂ : ((s₁.heap.push { cls := .type "list_iterator", data := .fields #[.ref l, .int 0 0] }).push { cls := .type "tuple", data := .seq #[.ref s₁.heap.objs.size] }).push (mapObj (s₁.heap.objs.size + 1) (.ref f)) = h₂
  have keep2 : ∀ b o, s₁.heap.get? b = some o → h₂.get? b = some o := fun b o e => by
    rw [← hh₂]; exact Heap.get?_push_of_some _ (Heap.get?_push_of_some _ (Heap.get?_push_of_some _ e))
  have hsz2 : h₂.objs.size = s₁.heap.objs.size + 3 := by rw [← hh₂, Heap.size_push, Heap.size_push, Heap.size_push]
  have k₂ : Kp s₁ { s₁ with heap := h₂ } := .of s₁ keep2
  have S₂ := S₁.keeps k₂
  have hJ : (H1 c.w.params).get? s₁.heap.objs.size = none ∧ s₁.heap.objs.size ≠ tb := by
    have h1 : s₁.heap.objs.size ≠ tb := fun h => by
      obtain ⟨o, e⟩ := S₁.gd.tbe
      rw [← h, hJ0] at e; cases e
    refine ⟨?_, h1⟩
    cases g : (H1 c.w.params).get? s₁.heap.objs.size with
    | none => rfl
    | some o =>
      have := S₁.gd.keep _ o h1 g
      rw [hJ0] at this; cases this
  have hmap : IsMap h₂ (s₁.heap.objs.size + 2) (s₁.heap.objs.size + 1) s₁.heap.objs.size l (.ref f) 0 its := by
    refine ⟨?_, ?_, ?_, hli.at fun o e => keep2 _ o e⟩
    · have := Heap.get?_push_size ((s₁.heap.push { cls := .type "list_iterator", data := .fields #[.ref l, .int 0 0] }).push { cls := .type "tuple", data := .seq #[.ref s₁.heap.objs.size] }) (o := mapObj (s₁.heap.objs.size + 1) (.ref f)) rfl
      rw [Heap.size_push, Heap.size_push] at this
      rw [← hh₂]; exact this
    · have := Heap.get?_push_size (s₁.heap.push { cls := .type "list_iterator", data := .fields #[.ref l, .int 0 0] }) (o := { cls := .type "tuple", data := .seq #[.ref s₁.heap.objs.size] }) rfl
      rw [Heap.size_push] at this
      rw [← hh₂]; exact Heap.get?_push_of_some _ this
    · refine ⟨{ cls := .type "list_iterator", data := .fields #[.ref l, .int 0 0] }, ?_, rfl, rfl⟩
      rw [← hh₂]; exact Heap.get?_push_of_some _ (Heap.get?_push_of_some _ (Heap.get?_push_size _ rfl))
  have hra : Reps [] s₁.heap (ps.map .str) its.toList := by rw [hH] at ra; exact ra
  have W := (walks_map (n := n) (I := s₁.heap.objs.size + 2) (T := s₁.heap.objs.size + 1) (J := s₁.heap.objs.size) (l := l) (f := f) (items := its) (rs := rs) (S₂.inner hN) hJ ⟨fun h => absurd (show (s₁.heap.objs.size + 2 : Nat) = s₁.heap.objs.size from h) (by omega), fun h => absurd (show (s₁.heap.objs.size + 1 : Nat) = s₁.heap.objs.size from h) (by omega), Nat.ne_of_lt hll⟩ (Reps.sk (.of_keep keep2) _ _ hra) hlen hf).toS
  refine call_list_map (s := { s₁ with heap := h₂ }) W (fun i s st => st.1.typeIs) ⟨hmap, fun s hs => (S₂.inner hN).heap rfl rfl hs⟩ ?_ (by simp) (by simp only [sizeLine]; omega) fun s₃ acc c₃ hm hD hacc => ?_
  · intro b hb
    show b < h₂.objs.size
    rw [hsz2]
    rcases List.mem_append.mp hb with hb | hb
    · simp only [List.mem_cons, List.not_mem_nil, or_false] at hb
      rcases hb with rfl | rfl | rfl | rfl
      · show (s₁.heap.objs.size + 2 : Nat) < s₁.heap.objs.size + 3; omega
      · show (s₁.heap.objs.size + 1 : Nat) < s₁.heap.objs.size + 3; omega
      · show (s₁.heap.objs.size : Nat) < s₁.heap.objs.size + 3; omega
      · exact Nat.lt_of_lt_of_le hll (Nat.le_add_right _ _)
    · have hb := List.mem_range.mp hb
      have h3 : ∃ o, s₁.heap.get? 194 = some o := by
        have : ((H1 c.w.params).get? 194).isSome = true := by kernel_rfl
        obtain ⟨o, e⟩ := Option.isSome_iff_exists.mp this
        exact ⟨o, S₁.gd.keep _ _ (by decide) e⟩
      obtain ⟨o, e⟩ := h3
      exact Nat.lt_of_lt_of_le hb (Nat.le_trans (Nat.succ_le_of_lt (Heap.lt_size e)) (Nat.le_add_right _ _))
  have hgens : s₃.gens = s₁.gens := hm.gens
  have hdr : s₃.drawn = s₁.drawn := hm.drawn
  have hos : s₃.os = s₁.os := hm.os
  have hes : s₃ = { s₁ with heap := s₃.heap, toks := s₃.toks } := by
    obtain ⟨a1, a2, a3, a4, a5⟩ := s₃
    simp only at hgens hdr hos
    subst hgens hdr hos
    rfl
  have k₃ : Kp s₁ s₃ := ⟨fun b o e => hm.heap b o (by
    have hb : (b : Nat) < s₁.heap.objs.size := Heap.lt_size e
    simp only [List.mem_cons, List.not_mem_nil, or_false]
    rintro (h | h)
    · exact absurd hb (by rw [h, hsz2]; exact Nat.not_lt.mpr (Nat.le_add_right _ 3))
    · exact absurd hb (by rw [h]; exact Nat.lt_irrefl _)) (Heap.get?_push_of_some _ (keep2 b o e)), _, _, hes⟩
  have hDn : s₁.heap.get? h₂.objs.size = none := get_ge (by rw [hsz2]; omega)
  have hDn' : s.heap.get? h₂.objs.size = none := by
    cases g : s.heap.get? h₂.objs.size with
    | none => rfl
    | some o => have := k₁.get _ _ g; rw [hDn] at this; cases this
  have hrs : Reps [h₂.objs.size] s₃.heap (rs.map .str) acc.toList := by
    refine reps_of_get (by rw [Array.length_toList, List.length_map, hlen]; exact hacc.1) fun j v hv => ?_
    obtain ⟨r, t, hr, rfl⟩ := hacc.2 j v (by simpa using hv)
    exact ⟨.str r, by simp [hr], t, rfl⟩
  have hD' : s₃.heap.get? h₂.objs.size = some { cls := .type "list", dict := none, data := .seq acc c₃, slots := #[] } := hD
  obtain ⟨X₃, hKD⟩ := X.addM (x := x) (pl := pl) hH (k₁.trans k₃) hDn' ⟨_, hD', rfl, c₃, rfl⟩ (fun _ => ⟨_, c₃, hD', rfl, rfl, rfl⟩) (by rw [hacc.1]; omega) hrs
  exact X₃.store (p := .obj h₂.objs.size) rfl hok (fun _ h => h) hx fun s' X' E' => (k _ hKD).run s' E' X'
end

end
section
open PySem PySem.W PyProof.Rows PySem.Calls
set_option Elab.async false
set_option maxRecDepth 100000
set_option maxHeartbeats 0
set_option linter.all false

/-! escape -/
noncomputable def escFd : FuncData := { name := Str.ofString "escape", qualname := Str.ofString "escape", params := sArgs (stm 4), body := .stmts (sBody (stm 4)), scope := sScope (stm 4), globals := 3, closure := [], defaults := .none, kwdefaults := .none, doc := .none, pyModule := (.str (Str.ofString "re") 251), annotations := none, code := (.ref 67), closureTuple := .none, builtins := 0 }
theorem esc_o : ∀ P, ((H1 P).get? 68).map (·.data) = some (.func escFd) := by intro P; kernel_rfl
theorem esc_c : ∀ P, codeOk (Str.ofString "escape") ((H1 P).get? 67) = true := by intro P; kernel_rfl
noncomputable def escS (p : List Nat) : List Nat := p.flatMap escOf
section
variable {c : Cx} {ρ : List (Str × PV)}
theorem ev_special {pos : Pos} (hk : isGl c (Str.ofString "_special_chars_map")) : Ev c ρ (.Name (Str.ofString "_special_chars_map") pos) (.obj 58) := .mk fun s Q E Si hQ =>
  (Nm.glob (ρ := ρ) (x := Str.ofString "_special_chars_map") (pos := pos) (v := .ref 58) hk (by intro P; kernel_rfl) (by kernel_rfl)).run s Q E Si (hQ _ _ (.refl s) rfl)
theorem cl_translate {p : List Nat} (hp : p.length ≤ 1 ∧ ∀ x ∈ p, x < 128) : Cl c ρ (.builtin "str.translate") [.str p, .obj 58] (.str (escS p)) := by
  match p, hp with
  | [], _ => exact Cl.translate0
  | [x], hp =>
    rw [show escS [x] = escOf x by simp [escS]]
    exact Cl.translate1 (hp.2 x (by simp))
theorem cl_escape {n : Nat} (hH : c.H = []) (hN : c.N = n + 1) {p : List Nat} (hp : p.length ≤ 1 ∧ ∀ x ∈ p, x < 128) : Cl c ρ (.ref 68) [.str p] (.str (escS p)) := by
  refine Cl.fn (names := [Str.ofString "pattern"]) (fd := escFd) (cd := 67) hH hN esc_o (by decide) rfl esc_c (by decide) rfl rfl rfl rfl rfl (bind1 rfl (fun _ => rfl))
    (by kernel_rfl) (by decide +kernel) (by kernel_rfl) (by kernel_rfl) (by kernel_rfl) (ρ₀ := [(Str.ofString "pattern", .str p)]) rfl (fun L K => ?_)
  apply B0.ite rfl (b := true)
  case ht =>
    apply Tr.ofBool (by kernel_rfl)
    apply Ev.isinst_str (x := p) (by walk_at "gl") (by walk_at "gl")
    · walk_at "step"
    · kernel_rfl
    · intro _; kernel_rfl
  case h2 => intro h; cases h
  case h1 =>
    intro _
    apply B0.finC rfl
    apply Ev.meth_str F.slot_str_translate F.type_str_translate (x := p)
    · walk_at "step"
    · apply Evs.cons (p := .obj 58)
      · apply ev_special; walk_at "gl"
      · exact Evs.nil
      all_goals kernel_rfl
    · exact cl_translate hp
    all_goals first | kernel_rfl | (intro _; kernel_rfl)
end

/-! translate_pattern -/
noncomputable def trFd : FuncData := { name := Str.ofString "translate_pattern", qualname := Str.ofString "translate_pattern", params := sArgs (stm 6), body := .stmts (sBody (stm 6)), scope := sScope (stm 6), globals := 3, closure := [], defaults := .none, kwdefaults := .none, doc := .none, pyModule := (.str (Str.ofString "cpy313.urllib.robotparser") 406), annotations := none, code := (.ref 74), closureTuple := .none, builtins := 0 }
theorem tr_o : ∀ P, ((H1 P).get? 75).map (·.data) = some (.func trFd) := by intro P; kernel_rfl
theorem tr_c : ∀ P, codeOk (Str.ofString "translate_pattern") ((H1 P).get? 74) = true := by intro P; kernel_rfl
noncomputable def grpOf (p : List Nat) : List Nat := sG6 ++ escS p ++ [41]
noncomputable def trList (first : List Nat) (mid : List (List Nat)) (last : List Nat) (t : Nat) : List (List Nat) := escS first :: ((mid.take t).map grpOf ++ ((mid.drop t).map escS ++ [escS last]))
noncomputable def translated (first : List Nat) (mid : List (List Nat)) (last : List Nat) : List Nat := escS first ++ ((mid.map grpOf).flatten ++ ([46, 42] ++ escS last))
theorem set_mid {α : Type} (x y : α) (B : List α) : ∀ A : List α, (A ++ x :: B).set A.length y = A ++ y :: B
  | [] => rfl
  | a :: A => by simp [set_mid x y B A]
theorem trList_length (first : List Nat) (mid : List (List Nat)) (last : List Nat) (t : Nat) : (trList first mid last t).length = mid.length + 2 := by
  simp [trList]; omega
theorem trList_get {first : List Nat} {mid : List (List Nat)} {last : List Nat} {t : Nat} (h : t < mid.length) : (trList first mid last t)[1 + t]? = some (escS mid[t]) := by
  unfold trList
  rw [show 1 + t = t + 1 by omega, List.getElem?_cons_succ, List.getElem?_append_right (by simp; omega)]
  rw [List.drop_eq_getElem_cons h, List.length_map, List.length_take, Nat.min_eq_left (Nat.le_of_lt h), Nat.sub_self]
  rfl
theorem trList_set {first : List Nat} {mid : List (List Nat)} {last : List Nat} {t : Nat} (h : t < mid.length) : (trList first mid last t).set (1 + t) (grpOf mid[t]) = trList first mid last (t + 1) := by
  unfold trList
  rw [show 1 + t = t + 1 by omega, List.set_cons_succ]
  congr 1
  have h1 : mid.drop t = mid[t] :: mid.drop (t + 1) := List.drop_eq_getElem_cons h
  have h2 : mid.take (t + 1) = mid.take t ++ [mid[t]] := by rw [List.take_add_one, List.getElem?_eq_getElem h]; rfl
  rw [h1, h2]
  have h3 : ((mid.take t).map grpOf).length = t := by simp; omega
  have := set_mid (escS mid[t]) (grpOf mid[t]) ((mid.drop (t + 1)).map escS ++ [escS last]) ((mid.take t).map grpOf)
  rw [h3] at this
  rw [List.map_cons, List.map_append, List.cons_append, this]
  simp
theorem trList_end (first : List Nat) (mid : List (List Nat)) (last : List Nat) : ((trList first mid last mid.length).set ((trList first mid last mid.length).length - 1) ([46, 42] ++ escS last)).flatten = translated first mid last := by
  rw [trList_length]
  unfold trList translated
  rw [show mid.length + 2 - 1 = mid.length + 1 by omega, List.set_cons_succ, List.take_length, List.drop_length]
  have := set_mid (escS last) ([46, 42] ++ escS last) [] (mid.map grpOf)
  rw [List.length_map] at this
  simp only [List.map_nil, List.nil_append]
  rw [this]
  simp
theorem escOf_len (x : Nat) : (escOf x).length ≤ 2 := by
  unfold escOf
  cases h : escFind x with
  | none => simp
  | some s =>
    unfold escFind at h
    obtain ⟨p, hp, rfl⟩ := Option.map_eq_some_iff.mp h
    have : ∀ p ∈ escL, p.2.cps.toList.length ≤ 2 := by decide +kernel
    exact this p (List.mem_of_find?_eq_some hp)
theorem escS_len {p : List Nat} (h : p.length ≤ 1) : (escS p).length ≤ 2 := by
  match p, h with
  | [], _ => simp [escS]
  | [x], _ => have := escOf_len x; simpa [escS] using this
theorem flatten_le {k : Nat} : ∀ {xs : List (List Nat)}, (∀ x ∈ xs, x.length ≤ k) → xs.flatten.length ≤ k * xs.length
  | [], _ => by simp
  | x :: xs, h => by
    have h1 := flatten_le (xs := xs) fun y hy => h y (List.mem_cons_of_mem _ hy)
    have h2 := h x List.mem_cons_self
    rw [List.flatten_cons, List.length_append, List.length_cons, Nat.mul_succ]; omega
theorem dotstar_is : (Str.ofString ".*").cps.toList = [46, 42] := by decide +kernel
section
variable {c : Cx} {ρ : List (Str × PV)}
theorem cl_trans {n : Nat} (hH : c.H = []) (hN : c.N = n + 3) {path first last : List Nat} {mid : List (List Nat)} (hsp : Txt.split (S path) (S [42]) = (first :: (mid ++ [last])).map S)
    (hp : ∀ p ∈ first :: (mid ++ [last]), p.length ≤ 1 ∧ ∀ x ∈ p, x < 128) (hz : path.length ≤ 1000 ∧ mid.length ≤ 1000) : Cl c ρ (.ref 75) [.str path] (.str (translated first mid last)) := by
  refine Cl.fn (names := [Str.ofString "path"]) (fd := trFd) (cd := 74) hH hN tr_o (by decide) rfl tr_c (by decide) rfl rfl rfl rfl rfl (bind1 rfl (fun _ => rfl))
    (by kernel_rfl) (by decide +kernel) (by kernel_rfl) (by kernel_rfl) (by kernel_rfl) (ρ₀ := [(Str.ofString "path", .str path)]) rfl (fun L K => ?_)
  have hN' : (c.call trFd L 75).N = (n + 1) + 1 := by show c.N - 1 = _; omega
  have hlast : last.length ≤ 1 := (hp last (by simp)).1
  have hfirst : first.length ≤ 1 := (hp first (by simp)).1
  have hmid : ∀ p ∈ mid, p.length ≤ 1 := fun p hm => (hp p (by simp [hm])).1
  have hgrp : ∀ p ∈ mid, (grpOf p).length ≤ 10 := fun p hm => by
    have := escS_len (hmid p hm)
    simp only [grpOf, List.length_append, sG6, List.length_cons, List.length_nil]; omega
  apply Bd.letMap false (n := n + 1) (f := 68) (fd := escFd) (ps := first :: (mid ++ [last])) (rs := trList first mid last 0) rfl hN'
  case hok => kernel_rfl
  case hx => kernel_rfl
  case hs => kernel_rfl
  case hl => walk_at "gl"
  case hm => walk_at "gl"
  case hy => walk_at "gl"
  case hyv => intro P; kernel_rfl
  case hyd => kernel_rfl
  case hst1 => kernel_rfl
  case hst2 => kernel_rfl
  case he =>
    apply Ev.meth_str F.slot_str_split F.type_str_split (x := path)
    · walk_at "step"
    · exact Evs.cons (p := .str [42]) (Ev.eq Ev.cstr (by kernel_rfl)) Evs.nil (by kernel_rfl)
    · exact Cl.split rfl hsp (by omega) (by simp; omega)
    all_goals first | kernel_rfl | (intro _; kernel_rfl)
  case hlen => rw [trList_length]; simp
  case hz => simp; omega
  case hf =>
    intro i p r hpi hri
    have e : trList first mid last 0 = (first :: (mid ++ [last])).map escS := by simp [trList]
    rw [e, List.getElem?_map, hpi] at hri
    obtain rfl : escS p = r := by simpa using hri
    exact cl_escape rfl (n := n) rfl (hp p (List.mem_of_getElem? hpi))
  case k =>
    intro D hD
    apply B1.for (σ := Nat) (ys := rng 1 (((mid.length + 2 : Nat) : Int) - 1)) (fun i t => t = i) (fun t => (trList first mid last t).map .str) (fun _ => [(Str.ofString "parts", .obj D), (Str.ofString "path", .str path)]) 0 rfl (by walk_at "mem") (by intro v; kernel_rfl) (by kernel_rfl)
    · apply It.range2
      · walk_at "nmt"
      · walk_at "step"
      · apply Ev.binop (p := .int ((mid.length + 2 : Nat) : Int)) (q := .int 1)
        · with_reducible apply Ev.call_bltn
          · walk_at "nmb"
          · apply Evs.cons (p := .list ((trList first mid last 0).map .str))
            · walk_at "step"
            · exact Evs.nil
            all_goals kernel_rfl
          · rw [← trList_length first mid last 0, ← List.length_map (f := PV.str)]; exact Cl.len_list
          all_goals walk_at "step"
        · walk_at "step"
        · exact Bo.sub_int
      · omega
      · kernel_rfl
    · rfl
    · rfl
    · exact fun _ h => h
    · intro t; kernel_rfl
    · exact rng_flt _ _
    · intro i y t K' hy hInv
      obtain ⟨rfl, hi⟩ := rng_get hy
      subst hInv
      have hi : t < mid.length := by omega
      have hel := escS_len (hmid mid[t] (List.getElem_mem hi))
      have hget : Ev (c.call trFd L 75) [(Str.ofString "parts", .list ((trList first mid last t).map .str)), (Str.ofString "i", .int (1 + (t : Int))), (Str.ofString "parts", .obj D), (Str.ofString "path", .str path)] (.Name (Str.ofString "i") default) (.int (1 + (t : Int))) := by walk_at "step"
      have hk1 : (1 + (t : Int)).toNat = 1 + t := by omega
      apply Bd.setM rfl (by walk_at "mem") (by kernel_rfl) (p := .str (grpOf mid[t])) (k := 1 + (t : Int))
      · rw [show grpOf mid[t] = sG6 ++ escS mid[t] ++ [41] from rfl]
        apply Ev.joined3
        · exact Ev.eq Ev.cstr (by rw [sG6_is])
        · apply Ev.fmt
          · apply Ev.item_list (k := 1 + (t : Int))
            · walk_at "step"
            · walk_at "step"
            · exact ⟨by omega, by rw [hk1, List.getElem?_map, trList_get hi]; rfl⟩
          · omega
        · exact Ev.eq Ev.cstr (by kernel_rfl)
        · simp only [sG6, List.length_cons, List.length_nil]; omega
      · rfl
      · walk_at "step"
      · rw [List.length_map, trList_length]; omega
      · apply Bd.nil
        intro s X
        refine ⟨t + 1, rfl, ?_⟩
        have := X.weak (r := [(Str.ofString "parts", PV.obj D), (Str.ofString "path", .str path)]) (by walk_at "sub")
        rw [hk1, ← List.map_set, trList_set hi] at this
        exact this
    · intro t hInv
      rw [rng_length] at hInv
      have ht : t = mid.length := by omega
      subst ht
      have hfl : (trList first mid last mid.length).length = mid.length + 2 := trList_length _ _ _ _
      apply Bd.setN rfl (by walk_at "mem") (by kernel_rfl) (p := .str ([46, 42] ++ escS last)) (k := 1)
      · apply Ev.joined2
        · exact Ev.eq Ev.cstr (by rw [dotstar_is])
        · apply Ev.fmt
          · apply Ev.item_list_neg (k := 1)
            · walk_at "step"
            · exact Ev.neg Ev.cint
            · refine ⟨by omega, by rw [List.length_map, hfl]; omega, ?_⟩
              rw [List.length_map, hfl, List.getElem?_map]
              have : (trList first mid last mid.length)[mid.length + 2 - 1]? = some (escS last) := by
                unfold trList
                rw [show mid.length + 2 - 1 = mid.length + 1 by omega, List.getElem?_cons_succ, List.getElem?_append_right (by simp)]
                simp
              rw [this]; rfl
          · have := escS_len hlast; omega
        · have := escS_len hlast; simp only [List.length_cons, List.length_nil]; omega
      · rfl
      · exact Ev.neg Ev.cint
      · rw [List.length_map, hfl]; omega
      · apply B1.fin rfl (by walk_at "mem") hD
        rw [← trList_end, List.length_map, ← List.map_set]
        apply Ev.meth_str F.slot_str_join F.type_str_join (x := [])
        · exact Ev.eq Ev.cstr (by kernel_rfl)
        · exact Evs.cons (p := .list (((trList first mid last mid.length).set ((trList first mid last mid.length).length - 1) ([46, 42] ++ escS last)).map .str)) (by walk_at "step") Evs.nil (by kernel_rfl)
        · apply Cl.join
          refine Nat.le_trans (flatten_le (k := 10) fun x hx => ?_) ?_
          · rcases List.mem_or_eq_of_mem_set hx with hx | rfl
            · unfold trList at hx
              rw [List.take_length, List.drop_length] at hx
              simp only [List.map_nil, List.nil_append, List.mem_cons, List.mem_append, List.mem_map, List.not_mem_nil, or_false] at hx
              rcases hx with rfl | ⟨p, hp', rfl⟩ | rfl
              · have := escS_len hfirst; omega
              · exact hgrp p hp'
              · have := escS_len hlast; omega
            · have := escS_len hlast; simp only [List.length_append, List.length_cons, List.length_nil]; omega
          · rw [List.length_set, hfl]; omega
        all_goals first | kernel_rfl | (intro _; kernel_rfl)
end

end
section
open PySem PySem.W PyProof.Rows PySem.Calls PySem.Builtin PySem.Builtin.ObjectAttr
set_option Elab.async false
set_option maxRecDepth 100000
set_option linter.all false
theorem fn_lk_ga : typeLookup (.type "function") "__getattribute__" = pure (some (.builtin "object.__getattribute__")) := by rw [typeLookup_type, builtinLookup_eq_fast]; kernel_rfl
theorem fn_lk_hook : typeLookup (.type "function") "__getattr__" = pure none := by rw [typeLookup_type, builtinLookup_eq_fast]; kernel_rfl
theorem fn_mro : mroOf (.type "function") = pure [.type "function", .type "object"] := by rw [mroOf_type]; kernel_rfl
theorem fn_pass (self : Value) : refuseLoop self "__setattr__" [.type "function", .type "object"] = pure () := by kernel_rfl
theorem fn_dict : typeHasDict (.type "function") = true := by decide +kernel
theorem fn_made (a d : Addr) : dictMade (.type "function") a d = pure (some d) := by kernel_rfl
theorem slot_fn_sa : Slot "function" "__setattr__" "object.__setattr__" :=
  .of (owner := "object") (n := "__setattr__") (by rw [typeLookup_type, builtinLookup_eq_fast]; kernel_rfl) (by decide +kernel) (by decide +kernel) (by decide +kernel)
    (by first | exact .inl (by decide +kernel) | exact .inr (by decide +kernel)) (by rw [isSubtype_type]; kernel_rfl)
theorem args_sa_3 (a b c : Value) : argsOk "object.__setattr__" ⟨[a, b, c], []⟩ := by unfold argsOk; kernel_rfl
theorem entry_sa : entryFor table "object.__setattr__" = some Builtin.«object.__setattr__» := entryFor_of_tree (by kernel_rfl)
/-- a function object and its own attributes -/
noncomputable def FnObj (lo : Nat) (h : Heap) (r : Addr) (fd : FuncData) (m : Str → Option Value) : Prop :=
  ∃ dd, h.get? r = some { cls := .type "function", dict := dd, data := .func fd } ∧ ((dd = none ∧ m = fun _ => none) ∨ ∃ d, dd = some d ∧ d ≠ r ∧ lo ≤ d ∧ h.Ns1 d m)
section
variable {prog : Program} {w : World} {A : Around} {E : Value → Shared → Prop} {s : Shared}
theorem setattr_fn {r : Addr} {fd : FuncData} {m : Str → Option Value} {ns : List Str} {name : Str} {v : Value} {Q : Unit → Shared → Prop} {lo : Nat} (hlo : lo ≤ s.heap.objs.size) (x : FnObj lo s.heap r fd m) (hlk : typeLookup (.type "function") name = pure none) (hw : Within m ns) (hsz : ns.length ≤ 10)
    (h : ∀ h' tk, FnObj lo h' r fd (fun y => if y = name then some v else m y) → (∀ b o, b ≠ r → (∀ o₀ dx, s.heap.get? r = some o₀ → o₀.dict = some dx → b ≠ dx) → s.heap.get? b = some o → h'.get? b = some o) → Q () { s with heap := h', toks := tk }) :
    wpAny (model prog w) A (setAttr (.ref r) name v) Q E s := by
  obtain ⟨dd, hr, hd⟩ := x
  have hT : s.TypeIs (.ref r) "function" := ⟨_, hr, rfl⟩
  unfold setAttr
  refine wpAny_bind (wpAny_mkText (wpAny_bind ?_))
  have hT : ({ s with toks := s.toks + 1 } : Shared).TypeIs (.ref r) "function" := ⟨_, hr, rfl⟩
  refine wpAny_callSpecial?_slot (name := Str.ofString "__setattr__") hT slot_fn_sa (wpAny_call_entry slot_fn_sa hT entry_sa ?_ (args_sa_3 _ _ _))
  unfold Builtin.«object.__setattr__»
  rw [if_neg (show ¬ (!([] : List (Str × Value)).isEmpty) = true by decide)]
  dsimp only
  rw [refuse_eq]
  refine wpAny_bind (wpAny_bind (wpAny_typeOf hT (wpAny_bind (wpAny_of_eq fn_mro (wpAny_of_eq (fn_pass _) ?_)))))
  refine wpAny_bind (wpAny_of_eq (a := name) rfl ?_)
  refine wpAny_bind (wpAny_typeOf hT ?_)
  refine wpAny_bind (wpAny_of_eq hlk ?_)
  refine wpAny_bind (wpAny_of_eq (a := none) rfl ?_)
  dsimp only
  unfold storeInOwnDict
  refine wpAny_bind (wpAny_of_eq (a := ()) (by kernel_rfl) ?_)
  rw [if_neg (by decide)]
  have hxr : ∀ d, dd = some d → d ≠ r → True := fun _ _ _ => trivial
  rcases hd with ⟨rfl, rfl⟩ | ⟨d, rfl, hne, hlod, hns⟩
  · refine wpAny_bind (m := instanceDict r true) ?_
    unfold instanceDict
    refine wpAny_bind (wpAny_loadPart (s := { s with toks := s.toks + 1 }) hr ?_)
    dsimp only
    rw [if_neg (by rw [fn_dict]; decide)]
    refine wpAny_bind (wpAny_alloc ?_)
    have hr₁ : (s.heap.push { cls := .type "dict", data := .dict #[] }).get? r = some { cls := .type "function", dict := none, data := .func fd } := Heap.get?_push_of_some _ hr
    have hrs : r ≠ s.heap.objs.size := Nat.ne_of_lt (Heap.lt_size hr)
    refine wpAny_bind (wpAny_update hr₁ ?_)
    refine wpAny_of_eq (fn_made _ _) ?_
    have hgd : ((s.heap.push { cls := .type "dict", data := .dict #[] }).update r fun o => { cls := o.cls, dict := some s.heap.objs.size, data := o.data, slots := o.slots }).get? s.heap.objs.size
          = some { cls := .type "dict", data := .dict #[] } :=
      (Heap.get?_update_ne _ _ _ _ hrs.symm).trans (Heap.get?_push_at rfl rfl)
    have hnd : ((s.heap.push { cls := .type "dict", data := .dict #[] }).update r fun o => { cls := o.cls, dict := some s.heap.objs.size, data := o.data, slots := o.slots }).Ns s.heap.objs.size (fun _ => none) :=
        ⟨_, #[], _, hgd, rfl, fun e he => absurd he (by simp), fun _ => rfl⟩
    show wpAny _ _ (storeInDict s.heap.objs.size _ name v) _ _ _
    unfold storeInDict newKeyGuard
    refine wpAny_bind (wpAny_pure (wpAny_bind (wpAny_nsSet1 (Heap.Ns1.of_empty hnd) fun h' hn' hs => ?_)))
    obtain ⟨oD, esD, epD, hoD, hdD, hcD⟩ := hn'.count (Within.cons name v Within.nil)
    refine wpAny_bind (wpAny_lookBehind hoD (by rw [hdD]; exact pastItsLine_dict (Nat.le_trans hcD (by rw [List.length_cons, List.length_nil]; decide))) ?_)
    refine wpAny_pure ⟨_, rfl, wpAny_pure (h h' _ ?_ fun b o hb _ e => ?_)⟩
    · refine ⟨some s.heap.objs.size, ?_, .inr ⟨_, rfl, hrs.symm, hlo, hn'⟩⟩
      refine (hs.2 r hrs).trans ?_
      exact Heap.get?_update_self _ hr₁ rfl
    · exact (hs.2 b (Nat.ne_of_lt (Heap.lt_size e))).trans ((Heap.get?_update_ne _ _ _ _ hb).trans (Heap.get?_push_of_some _ e))
  · refine wpAny_bind (m := instanceDict r true) ?_
    unfold instanceDict
    refine wpAny_bind (wpAny_loadPart (s := { s with toks := s.toks + 1 }) hr ?_)
    dsimp only
    refine wpAny_pure ?_
    show wpAny _ _ (storeInDict d _ name v) _ _ _
    unfold storeInDict newKeyGuard
    refine wpAny_bind (wpAny_pure (wpAny_bind (wpAny_nsSet1 (s := { s with toks := s.toks + 1 }) hns fun h' hn' hs => ?_)))
    obtain ⟨oD, esD, epD, hoD, hdD, hcD⟩ := hn'.count (Within.cons name v hw)
    refine wpAny_bind (wpAny_lookBehind hoD (by rw [hdD]; exact pastItsLine_dict (Nat.le_trans hcD (by rw [List.length_cons, sizeLine]; omega))) ?_)
    refine wpAny_pure ⟨_, rfl, wpAny_pure (h h' _ ⟨some d, (hs.2 r hne.symm).trans hr, .inr ⟨d, rfl, hne, hlod, hn'⟩⟩ fun b o hb hbd e => (hs.2 b (hbd _ d hr rfl)).trans e)⟩
theorem find_fn {r : Addr} {fd : FuncData} {m : Str → Option Value} {name : Str} {v : Value} {Q : Found → Shared → Prop} {lo : Nat} (x : FnObj lo s.heap r fd m) (hlk : typeLookup (.type "function") name = pure none) (hv : m name = some v) (h : Q (.value v) s) :
    wpAny (model prog w) A (ObjectAttr.find (.ref r) (.type "function") name) Q E s := by
  obtain ⟨dd, hr, hd⟩ := x
  obtain ⟨rfl, rfl⟩ | ⟨d, rfl, hne, hlod, hns⟩ := hd
  · cases hv
  unfold ObjectAttr.find
  refine wpAny_bind (wpAny_of_eq hlk ?_)
  refine wpAny_bind (wpAny_of_eq (a := none) rfl ?_)
  refine wpAny_bind (wpAny_of_eq (a := none) rfl ?_)
  dsimp only
  unfold ownThenClass inOwnDict
  refine wpAny_bind (wpAny_bind ?_)
  unfold ObjectAttr.ownDict
  refine wpAny_bind (m := loadPart r (some headPart)) (wpAny_loadPart hr ?_)
  dsimp only
  unfold instanceDict
  refine wpAny_bind (wpAny_loadPart hr ?_)
  dsimp only
  refine wpAny_pure ?_
  show wpAny _ _ (nsGet d name) _ _ _
  refine wpAny_nsGet hns.ns ?_
  rw [hv]
  exact wpAny_bind (wpAny_rule (wpAny_pure h))
theorem slot_fn_ga : Slot "function" "__getattribute__" "object.__getattribute__" :=
  .of (owner := "object") (n := "__getattribute__") (by rw [typeLookup_type, builtinLookup_eq_fast]; kernel_rfl) (by decide +kernel) (by decide +kernel) (by decide +kernel)
    (by first | exact .inl (by decide +kernel) | exact .inr (by decide +kernel)) (by rw [isSubtype_type]; kernel_rfl)
theorem args_ga_2 (a b : Value) : argsOk "object.__getattribute__" ⟨[a, b], []⟩ := by unfold argsOk; kernel_rfl
theorem entry_ga : entryFor table "object.__getattribute__" = some Builtin.«object.__getattribute__» := entryFor_of_tree (by kernel_rfl)
theorem getattr_fn {r : Addr} {fd : FuncData} {m : Str → Option Value} {name : Str} {v : Value} {ex : Bool} {Q : Value → Shared → Prop} {lo : Nat} (x : FnObj lo s.heap r fd m) (hlk : typeLookup (.type "function") name = pure none) (hv : m name = some v) (hh : handedOut v = pure v)
    (h : Q v { s with toks := s.toks + 1 }) : wpAny (model prog w) A (getAttr (.ref r) name ex) Q E s := by
  have hT : ({ s with toks := s.toks + 1 } : Shared).TypeIs (.ref r) "function" := by obtain ⟨dd, hr, _⟩ := x; exact ⟨_, hr, rfl⟩
  unfold getAttr getAttrBy
  refine wpAny_bind (wpAny_mkText (wpAny_holding ?_))
  refine wpAny_bind (wpAny_typeOf hT (wpAny_bind (wpAny_of_eq fn_lk_ga ?_)))
  dsimp only
  rw [if_neg (by decide)]
  unfold getAttrByItsOwn
  refine wpAny_bind (wpAny_of_eq (a := none) rfl ?_)
  refine wpAny_bind (wpAny_attempt (wpAny_holding ?_))
  unfold callGetattribute
  rw [if_neg (by cases ex <;> decide)]
  unfold boundAndCalled
  refine wpAny_bind (wpAny_of_eq (slot_fn_ga.bind _) ?_)
  dsimp only
  refine wpAny_call_entry slot_fn_ga hT entry_ga ?_ (args_ga_2 _ _)
  unfold Builtin.«object.__getattribute__»
  refine wpAny_bind (wpAny_of_eq (a := (Value.ref r, [Value.str name s.toks])) rfl ?_)
  dsimp only
  refine wpAny_bind (wpAny_of_eq (a := name) rfl ?_)
  refine wpAny_bind (wpAny_typeOf hT ?_)
  refine wpAny_bind (find_fn (s := { s with toks := s.toks + 1 }) x hlk hv ?_)
  refine wpAny_pure ⟨v, rfl, ?_⟩
  exact wpAny_of_eq hh h
theorem getMethod_fn {r : Addr} {fd : FuncData} {m : Str → Option Value} {name : Str} {v : Value} {pl : Sem Bool} {Q : Value × List Value → Shared → Prop} {lo : Nat} (x : FnObj lo s.heap r fd m) (hlk : typeLookup (.type "function") name = pure none) (hv : m name = some v) (hh : handedOut v = pure v)
    (h : Q (v, []) { s with toks := s.toks + 1 }) : wpAny (model prog w) A (getMethod (.ref r) name pl) Q E s := by
  have hT : s.TypeIs (.ref r) "function" := by obtain ⟨dd, hr, _⟩ := x; exact ⟨_, hr, rfl⟩
  unfold getMethod
  refine wpAny_bind (wpAny_specialOf hT fn_lk_ga ?_)
  dsimp only
  rw [if_neg (by decide +kernel)]
  refine wpAny_bind (wpAny_specialOf hT fn_lk_hook ?_)
  rw [if_neg (by decide)]
  refine wpAny_bind (wpAny_specialOf hT hlk ?_)
  dsimp only
  exact wpAny_bind (getattr_fn x hlk hv hh (wpAny_pure h))
end
theorem fn_lk_at : typeLookup (.type "function") "applies_to" = pure none := by rw [typeLookup_type, builtinLookup_eq_fast]; kernel_rfl
theorem fn_lk_al : typeLookup (.type "function") "allowance" = pure none := by rw [typeLookup_type, builtinLookup_eq_fast]; kernel_rfl

end
section
open PySem PySem.W PyProof.Rows PySem.Calls PySem.Builtin
set_option Elab.async false
set_option maxRecDepth 100000
set_option linter.all false
noncomputable def lamQ : Str := Str.ofString "_law_rule.<locals>.<lambda>"
structure Kt (s s' : Shared) : Prop where
  get : ∀ b o, b ≠ tb → s.heap.get? b = some o → s'.heap.get? b = some o
  eq : ∃ h' tk, s' = { s with heap := h', toks := tk }
theorem Kt.of_kp {s s' : Shared} (k : Kp s s') : Kt s s' := ⟨fun b o _ e => k.get b o e, k.eq⟩
theorem Kt.trans {s s' s'' : Shared} (a : Kt s s') (b : Kt s' s'') : Kt s s'' := by
  obtain ⟨k, h', tk, rfl⟩ := a
  obtain ⟨k', h'', tk', rfl⟩ := b
  exact ⟨fun b o hb e => k' b o hb (k b o hb e), h'', tk', rfl⟩
/-- the table of the code objects of _law_rule's text -/
structure TabIs (h : Heap) (ps : Array Value) : Prop where
  at_ : h.get? tb = some (tabObj ps)
  ok : TriplesOk ps.toList
  recs : ∀ pos c', codeAmong pos ps.toList = some c' → h.CodeRec c' lamQ
theorem gd_codehd {w : World} {s : Shared} (g : Gd w s) : CodeHd s.heap 188 tb := by
  have : CodeHd (H1 w.params) 188 tb := by
    have h : ∃ o, (H1 w.params).get? 188 = some o ∧ o = o188_8 w.params := ⟨_, by kernel_rfl, rfl⟩
    obtain ⟨o, ho, rfl⟩ := h
    exact ⟨_, _, _, _, _, _, _, _, _, ho, rfl, rfl, rfl, rfl, rfl, rfl, rfl, rfl, by decide⟩
  obtain ⟨o, vs, file, tf, flags, tg, inF, text, tt, ho, r⟩ := this
  exact ⟨o, vs, file, tf, flags, tg, inF, text, tt, g.keep _ _ (by decide) ho, r⟩
theorem gd_builtinsAt {w : World} {s : Shared} (g : Gd w s) : s.heap.BuiltinsAt ((H1 w.params).nsMap mainNs) tb := by
  have h1 : (H1 w.params).nsMap mainNs "__builtins__" = some (.ref 4) := by kernel_rfl
  have h2 : ((H1 w.params).get? 4).map (fun o => (o.cls, o.dict, o.data)) = some (.type "module", some builtinsNs, .plain) := by kernel_rfl
  obtain ⟨o, ho, h3⟩ := Option.map_eq_some_iff.mp h2
  simp only [Prod.mk.injEq] at h3
  obtain ⟨hc, hd, hp⟩ := h3
  exact ⟨4, o, h1, by decide, by decide, by decide, g.keep _ _ (by decide) ho, hc, hd, hp⟩
theorem codeAmong_app {pos pos' : Pos} {c : Value} (l : List Value) (h : TriplesOk l) :
    codeAmong pos' (l ++ [rawInt pos.line, rawInt pos.col, c]) = (codeAmong pos' l).or (if ((pos.line : Int) == pos'.line && (pos.col : Int) == pos'.col) = true then some c else none) := by
  fun_induction TriplesOk l with
  | case1 => simp [codeAmong, rawInt]
  | case2 a t b u x rest ih =>
    simp only [List.cons_append, codeAmong]
    split
    · simp
    · exact ih h
  | case3 l h1 h2 => exact h.elim
theorem rec_ne {h : Heap} {ps : Array Value} (hat : h.get? tb = some (tabObj ps)) (ok : TriplesOk ps.toList) {c : Addr} {o : Obj} {vs : Array Value} {q : Str} {t : Tok} (ho : h.get? c = some o) (hd : o.data = .fields vs) (hv : vs[1]? = some (.str q t)) : c ≠ tb := by
  rintro rfl
  rw [hat] at ho; cases ho
  cases hd
  have : ps.toList[1]? = some (.str q t) := by simpa using hv
  revert this ok
  generalize ps.toList = l
  intro ok this
  fun_induction TriplesOk l with
  | case1 => simp at this
  | case2 a t b u x rest ih => simp at this
  | case3 l h1 h2 => exact ok
theorem CodeRec.kt {h h' : Heap} {ps : Array Value} (hat : h.get? tb = some (tabObj ps)) (ok : TriplesOk ps.toList) (k : ∀ b o, b ≠ tb → h.get? b = some o → h'.get? b = some o) {c : Value} {q : Str} (x : h.CodeRec c q) : h'.CodeRec c q := by
  obtain ⟨a, o, vs, t, rfl, ho, hd, hv⟩ := x
  exact ⟨a, o, vs, t, rfl, k a o (rec_ne hat ok ho hd hv) ho, hd, hv⟩
theorem CodeRec.kp {h h' : Heap} (k : ∀ b o, h.get? b = some o → h'.get? b = some o) {c : Value} {q : Str} (x : h.CodeRec c q) : h'.CodeRec c q := by
  obtain ⟨a, o, vs, t, rfl, ho, r⟩ := x
  exact ⟨a, o, vs, t, rfl, k a o ho, r⟩
theorem TabIs.kp {h h' : Heap} {ps : Array Value} (T : TabIs h ps) (k : ∀ b o, h.get? b = some o → h'.get? b = some o) : TabIs h' ps := ⟨k _ _ T.at_, T.ok, fun pos c' e => CodeRec.kp k (T.recs pos c' e)⟩
noncomputable def hasPos (ps : Array Value) (pos : Pos) : Prop := (codeAmong pos ps.toList).isSome = true
section
variable {c : Cx} {ρ : List (Str × PV)}
theorem ev_lambda {params : Arguments} {body : Expr} {scope : Scope} {pos : Pos} {ps : Array Value} {s : Shared} {Q : Value → Shared → Prop} {E : Value → Shared → Prop} (S : Sit c ρ s) (hcode : c.env.code = .ref 188) (hq : c.env.qual ++ "<lambda>" = lamQ) (hd : defaultsOf params c.env = ([], [])) (hok : closOk c.env scope.names = true) (T : TabIs s.heap ps)
    (hQ : ∀ r s' ps' pm cd ct, s.heap.objs.size ≤ r → s'.heap.get? r = some { cls := .type "function", data := .func (kla_fn "<lambda>" lamQ params body scope (closOf c.env scope.names []) pm cd ct) } → s'.heap.CodeRec cd lamQ → Kt s s' → TabIs s'.heap ps' → hasPos ps' pos → (∀ p, hasPos ps p → hasPos ps' p) →
      (hasPos ps pos → Kp s s' ∧ ps' = ps) → Q (.ref r) s') : wpAny (model pg c.w) c.A (eval (.Lambda params body scope pos) c.env) Q E s := by
  refine kla_eval hd ?_
  rw [hq]
  have hgl : c.env.globals = mainGlobals := S.gl
  have hge := S.gd.g
  cases hf : codeAmong pos ps.toList with
  | some cv =>
    refine kla_makeFunctionHit (mg := (H1 c.w.params).nsMap mainNs) (closureFor_eq scope c.env hok) hgl hge hcode (gd_codehd S.gd) T.at_ T.ok hf (gd_builtinsAt S.gd) fun ctv h' tk hk hsz => ?_
    have hk' : ∀ b o, s.heap.get? b = some o → (h'.push { cls := .type "function", data := .func (kla_fn "<lambda>" lamQ params body scope (closOf c.env scope.names []) (((H1 c.w.params).nsMap mainNs "__name__").getD .none) cv ctv) }).get? b = some o := fun b o e => Heap.get?_push_of_some _ (hk b o e)
    have kp : Kp s { s with heap := h'.push { cls := .type "function", data := .func (kla_fn "<lambda>" lamQ params body scope (closOf c.env scope.names []) (((H1 c.w.params).nsMap mainNs "__name__").getD .none) cv ctv) }, toks := tk } := .of s hk'
    exact hQ h'.objs.size _ ps _ cv ctv hsz (Heap.get?_push_size _ rfl) (CodeRec.kp hk' (T.recs pos cv hf)) (.of_kp kp) (T.kp hk') (by unfold hasPos; rw [hf]; rfl) (fun _ e => e) fun _ => ⟨kp, rfl⟩
  | none =>
    refine kla_makeFunction (mg := (H1 c.w.params).nsMap mainNs) (closureFor_eq scope c.env hok) hgl hge hcode (gd_codehd S.gd) T.at_ T.ok hf (by decide) (gd_builtinsAt S.gd) fun c' ctv h' tk hx hge' hlt hrec htb => ?_
    have hl : (ps ++ #[rawInt pos.line, rawInt pos.col, Value.ref c']).toList = ps.toList ++ [rawInt pos.line, rawInt pos.col, .ref c'] := by simp
    have kt : ∀ b o, b ≠ tb → s.heap.get? b = some o → h'.get? b = some o := fun b o hb e => hx b o hb e
    have kt' : ∀ b o, b ≠ tb → s.heap.get? b = some o → (h'.push (kla_obj "<lambda>" lamQ params body scope (closOf c.env scope.names []) (((H1 c.w.params).nsMap mainNs "__name__").getD .none) c' ctv)).get? b = some o := fun b o hb e => Heap.get?_push_of_some _ (kt b o hb e)
    refine hQ h'.objs.size _ _ _ (.ref c') ctv (Nat.le_trans hge' (Nat.le_of_lt hlt)) (Heap.get?_push_size _ rfl) (CodeRec.kp (fun b o e => Heap.get?_push_of_some _ e) hrec) ⟨kt', _, _, rfl⟩ ⟨Heap.get?_push_of_some _ htb, by rw [hl]; exact TriplesOk_snoc _ _ _ _ T.ok, fun p cv e => ?_⟩ ?_ (fun p e => ?_) fun e => ?_
    · rw [hl, codeAmong_app _ T.ok] at e
      cases hp : codeAmong p ps.toList with
      | some c₂ =>
        rw [hp] at e
        simp at e; subst e
        exact CodeRec.kt T.at_ T.ok kt' (T.recs p _ hp)
      | none =>
        rw [hp] at e
        simp only [Option.none_or] at e
        split at e
        · cases e
          exact CodeRec.kp (fun b o e => Heap.get?_push_of_some _ e) hrec
        · cases e
    · unfold hasPos; rw [hl, codeAmong_app _ T.ok, hf]; simp
    · unfold hasPos at e ⊢; rw [hl, codeAmong_app _ T.ok]
      cases hp : codeAmong p ps.toList with
      | some c₂ => simp
      | none => rw [hp] at e; cases e
    · unfold hasPos at e; rw [hf] at e; cases e
/-- a step that changes what is not the frame's own: to stand behind it -/
theorem Act.jump {K : Shared} {s s' : Shared} (X : Act c K [] ρ s) (W : Addr → Prop) (k : ∀ b o, ¬ W b → s.heap.get? b = some o → s'.heap.get? b = some o) (heq : ∃ h' tk, s' = { s with heap := h', toks := tk }) (hown : ∀ b, W b → ¬ own c [] b)
    (hh1 : ∀ b, W b → b = tb ∨ (H1 c.w.params).get? b = none) (htb : ∃ o, s'.heap.get? tb = some o) (hseq : ∀ b, W b → ∀ o, s.heap.get? b = some o → ∀ ys n, o.data ≠ .seq ys n) (hf : ∀ e ∈ c.fix, ¬ W e.1) (hHid : ∀ a ∈ c.H, ¬ W a) : Act c s' [] ρ s' := by
  obtain ⟨h', tk, rfl⟩ := heq
  have hsk : SK (c.hide []).H s.heap h' := fun b o _ ⟨ys, n, hd⟩ e => k b o (fun hw => hseq b hw o e ys n hd) e
  have hL : ¬ W c.env.locals := fun h => hown _ h (.inl rfl)
  have hC : ∀ n a, c.env.cells.lookup n = some a → ¬ W a := fun n a h hw => hown a hw (.inr (.inl ⟨n, h⟩))
  have hcell : ∀ n a v, c.env.cells.lookup n = some a → s.heap.IsCell a v → h'.IsCell a v := fun n a v h ⟨o, ho, hd⟩ => ⟨o, k a o (hC n a h) ho, hd⟩
  have hcH : (c.hide []).H = c.H := rfl
  refine ⟨⟨⟨htb, fun b o hb e => k b o (fun hw => (hh1 b hw).elim hb fun h => by rw [show (H1 (c.hide []).w.params).get? b = none from h] at e; cases e) (X.sit.gd.keep b o hb e)⟩, fun a ha => let ⟨o, e⟩ := X.sit.hid a ha; ⟨o, k a o (hHid a ha) e⟩, X.sit.fn, X.sit.gl, X.sit.bl, fun e he => ?_, X.sit.hh, X.sit.ru, X.sit.rd, fun e he => k _ _ (hf e he) (X.sit.fx e he)⟩,
    (fun e he => nomatch he), ?_, fun n a h => ?_, X.apart, X.above, X.h1, (fun b o _ e => e), ⟨_, _, rfl⟩, X.fo⟩
  · obtain ⟨v, h1, h2⟩ := X.sit.vars e he
    refine ⟨v, ⟨h1.1, ?_⟩, Rep.sk hsk _ _ h2⟩
    rcases h1.2 with ⟨g1, m, hn, hm⟩ | ⟨g1, a, ha, hc⟩ | ⟨g1, g2, a, ha, hc⟩
    · exact .inl ⟨g1, m, hn.at' fun o e => k _ o hL e, hm⟩
    · exact .inr (.inl ⟨g1, a, ha, hcell _ _ _ ha hc⟩)
    · exact .inr (.inr ⟨g1, g2, a, ha, hcell _ _ _ ha hc⟩)
  · obtain ⟨m, hm⟩ := X.ns
    exact ⟨m, hm.at' fun o e => k _ o hL e⟩
  · obtain ⟨v, hv⟩ := X.cell n a h
    exact ⟨v, hcell _ _ _ h hv⟩
end

end
section
open PySem PySem.W PyProof.Rows PySem.Calls PySem.Builtin
set_option Elab.async false
set_option maxRecDepth 100000
set_option linter.all false
section
variable {c : Cx} {ρ : List (Str × PV)}
/-- the entry of a def's call -/
theorem Cl.enter {f : Addr} {fd : FuncData} {body : List Stmt} {names : List Str} {ps : List PV} {cd : Addr} {n : Nat} {s : Shared} {Q : Value → Shared → Prop} {E : Value → Shared → Prop} {vs : List Value} (S : Sit c ρ s) (hr : Reps c.H s.heap ps vs) (hH : c.H = []) (hN : c.N = n + 1)
    (ho : ∀ P, ((H1 P).get? f).map (·.data) = some (.func fd)) (hf : f ≠ tb) (hc1 : fd.code = .ref cd) (hc2 : ∀ P, codeOk fd.qualname ((H1 P).get? cd) = true) (hc3 : cd ≠ tb)
    (hbody : fd.body = .stmts body) (hclo : fd.closure = []) (hgl : fd.globals = mainNs) (hbl : fd.builtins = builtinsNs)
    (hlen : ps.length = names.length) (hbind : ∀ vs : List Value, vs.length = names.length → bindArgs fd ⟨vs, []⟩ = pure (names.zip vs))
    (hkinds : names.all (parOk fd.scope) = true) (hnd : names.Nodup) (hco : fd.scope.isCoroutine = false) (hgen : fd.scope.isGenerator = false) (hk : fd.scope.kind = .function)
    (hb : ∀ s₁ E', Act (c.call fd s.heap.objs.size f) s [] (names.zip ps) s₁ → Kp s s₁ → wpAny (model pg c.w) (c.call fd s.heap.objs.size f).A (execs body (c.call fd s.heap.objs.size f).env) (fun fl s' => Q (match fl with | .ret v => v | _ => .none) s') E' s₁) :
    wpAny (model pg c.w) c.A (call (.ref f) vs) Q E s := by
  obtain ⟨o, ho, hd⟩ := Option.map_eq_some_iff.mp (ho c.w.params)
  obtain ⟨oc, cvs, ct, hc2, hc4, hc5⟩ : ∃ oc cvs ct, (H1 c.w.params).get? cd = some oc ∧ oc.data = .fields cvs ∧ cvs[1]? = some (.str fd.qualname ct) := by
    have h := hc2 c.w.params
    unfold codeOk at h
    split at h
    · rename_i vs _ e
      split at h
      · rename_i q' t e'
        exact ⟨_, vs, t, e, rfl, by rw [e']; rw [show q' = fd.qualname by simpa using h]⟩
      · cases h
    · cases h
  have hkinds : ∀ x ∈ names, (fd.scope.names.lookup x = some .local ∨ (fd.scope.names.lookup x = some .cell ∧ ∀ k, ((cellsFrom k fd.scope.names []).lookup x).isSome = true)) ∧ (x == ("__debug__" : Str)) = false := fun x hx => by
    have h := List.all_eq_true.mp hkinds x hx
    simp only [parOk, Bool.and_eq_true, Bool.or_eq_true, beq_iff_eq, Bool.not_eq_true'] at h
    exact ⟨h.1.imp id fun e => ⟨e, fun k => cellsFrom_some _ _ _ (.inl (mem_of_lookup e))⟩, h.2⟩
  have hroom : c.A.depth < recursionLimit := by have := S.rd; omega
  have hlv : vs.length = names.length := hr.length.trans hlen
  refine wpAny_call (codeAny_call_cells (binds := names.zip vs) (body := body) hroom (S.gd.keep _ _ hf ho) hd S.gd.nolimit ⟨cd, oc, cvs, ct, hc1, S.gd.keep _ _ hc3 hc2, hc4, hc5⟩ hbody (hbind vs hlv) hclo ?_ ?_ hco hgen hk)
  · intro x hx
    have hx' := (hkinds x.1 (List.of_mem_zip hx).1).1
    rcases hx' with h | ⟨h, h'⟩
    · exact .inl h
    · exact .inr ⟨h, h' _⟩
  · intro s₁ X
    have hnz : ((names.zip vs).map (·.1)) = names := by rw [List.map_fst_zip (by omega)]
    have hk1 : Kp s s₁ := ⟨fun b o e => X.toInCall.keep b o e, X.toInCall.same⟩
    have hA : Act (c.call fd s.heap.objs.size f) s [] (names.zip ps) s₁ := by
      have hcells : ∀ n a, (callEnvC fd s.heap.objs.size f).cells.lookup n = some a → s.heap.objs.size < a := fun n a h => X.above n a (mem_of_lookup h)
      have hownsz : ∀ b, own (c.call fd s.heap.objs.size f) [] b → s.heap.objs.size ≤ b := by
        rintro b (rfl | ⟨n', h⟩ | h)
        · exact Nat.le_refl _
        · exact Nat.le_of_lt (hcells n' b h)
        · simp at h
      refine ⟨⟨S.gd.keeps hk1, fun a ha => by simp [Cx.hide, Cx.call] at ha, hk, hgl, hbl, fun e he => ?_, S.hh, ?_, ?_, fun e he => hk1.get _ _ (S.fx e he)⟩, fun e he => by simp at he, ⟨_, X.toInCall.ns⟩, fun n a h => ⟨_, X.cell n a h⟩, X.apart, X.above, fun b hb => ?_, fun b o _ e => X.toInCall.keep b o e, X.toInCall.same, fun e he hown => by
        have h1 := hownsz _ hown
        have h2 := Heap.lt_size (S.fx e he)
        exact absurd h2 (Nat.not_lt.mpr h1)⟩
      · have he' : e ∈ names.zip ps := he
        obtain ⟨v, hv, hrv⟩ := zip_reps hr he'
        have hxn := (List.of_mem_zip he').1
        obtain ⟨hkd, hdb⟩ := hkinds e.1 hxn
        refine ⟨v, ⟨hdb, ?_⟩, ?_⟩
        · rcases hkd with h | ⟨h, h'⟩
          · exact .inl ⟨h, _, X.toInCall.ns, bindL_at _ _ _ _ (by rw [hnz]; exact hnd) hv h⟩
          · obtain ⟨a, ha⟩ := Option.isSome_iff_exists.mp (h' (s.heap.objs.size + 1))
            have hkc : (callEnvC fd s.heap.objs.size f).kindOf e.1 = some .cell := h
            have := X.cell e.1 a ha
            rw [bindC_at _ _ _ v (by rw [hnz]; exact hnd) hv (by rw [hkc]; decide)] at this
            exact .inr (.inl ⟨hkc, a, ha, this⟩)
        · rw [hH] at hrv
          exact hrv.kp hk1
      · have := S.ru; rw [hN] at this
        show c.A.units + 3 + 50 * (c.N - 1 + 1) < cLine
        rw [hN]; omega
      · have := S.rd; rw [hN] at this
        show c.A.depth + 1 + 8 * (c.N - 1 + 1) < recursionLimit
        rw [hN]; omega
      · have hge := hownsz b hb
        have hnone : s.heap.get? b = none := get_ge hge
        have htb : b ≠ tb := fun h => by
          obtain ⟨o, e⟩ := S.gd.tbe
          rw [← h, hnone] at e; cases e
        refine ⟨?_, htb⟩
        cases g : (H1 c.w.params).get? b with
        | none => exact g
        | some o' =>
          have := S.gd.keep b o' htb g
          rw [hnone] at this; cases this
    exact wpAny_mono (hb s₁ _ hA hk1) (fun fl s' hq => hq) fun _ _ e => e
end
theorem Kt.kp {s s' : Shared} {ps : Array Value} (k : Kt s s') (T : TabIs s.heap ps) (T' : TabIs s'.heap ps) : Kp s s' :=
  ⟨fun b o e => if h : b = tb then by rw [h] at e ⊢; rw [T.at_] at e; cases e; exact T'.at_ else k.get b o h e, k.eq⟩
noncomputable def lamOfAssign : Option Stmt → Arguments × Expr × Scope × Pos
  | some (.Assign _ (.Lambda a b s p) _) => (a, b, s, p)
  | _ => (⟨[], [], none, [], [], none, []⟩, .Constant .none 0 default, default, default)
noncomputable def lam1 := lamOfAssign (sBody (stm 20))[0]?
noncomputable def lam2 := lamOfAssign (sBody (stm 20))[1]?
noncomputable def full (ps : Array Value) : Prop := hasPos ps lam1.2.2.2 ∧ hasPos ps lam2.2.2.2
noncomputable def sevPV (sev : List (List (List Nat))) : PV := .list (sev.map fun p => .list (p.map .str))
/-- a rule, as _law_rule makes it -/
noncomputable def RuleAt (h : Heap) (r : Addr) (sev : List (List (List Nat))) (w : PV) : Prop :=
  ∃ fd0 m lam pm cd ct cl sv v, FnObj 0 h r fd0 m ∧ m "applies_to" = some (.ref lam) ∧ m "allowance" = some v ∧ Rep [] h w v ∧
    h.get? lam = some { cls := .type "function", data := .func (kla_fn "<lambda>" lamQ lam2.1 lam2.2.1 lam2.2.2.1 [(Str.ofString "several", cl)] pm cd ct) } ∧ h.CodeRec cd lamQ ∧ h.IsCell cl (some sv) ∧ Rep [] h (sevPV sev) sv
theorem FnObj.at {lo : Nat} {h h' : Heap} {r : Addr} {fd : FuncData} {m : Str → Option Value} (x : FnObj lo h r fd m) (k : ∀ b o, h.get? b = some o → h'.get? b = some o) : FnObj lo h' r fd m := by
  obtain ⟨dd, hr, h1 | ⟨d, h1, h2, h3, h4⟩⟩ := x
  · exact ⟨dd, k _ _ hr, .inl h1⟩
  · exact ⟨dd, k _ _ hr, .inr ⟨d, h1, h2, h3, h4.at fun o e => k _ o e⟩⟩
section
variable {c : Cx} {K : Shared} {ρ ρ' : List (Str × PV)}
/-- what is plain fields or a function is not the frame's own -/
theorem Act.notfields {s : Shared} (X : Act c K [] ρ s) {b : Addr} {o : Obj} (ho : s.heap.get? b = some o) (hd : (match o.data with | .fields _ => true | .func _ => true | _ => false) = true) : ¬ own c [] b := by
  rintro (h | ⟨n, h⟩ | h)
  · obtain ⟨m, o', es, ep, g, d, _⟩ := X.ns
    rw [h] at ho; rw [ho] at g; cases g
    rw [d] at hd; cases hd
  · obtain ⟨v, o', g, d⟩ := X.cell n b h
    rw [ho] at g; cases g
    rw [d] at hd; cases hd
  · simp at h
theorem TabIs.through {s s' : Shared} {ps : Array Value} (T : TabIs s.heap ps) (X : Act c K [] ρ s) (X' : Act c s [] ρ' s') : TabIs s'.heap ps := by
  have k : ∀ b o, (match o.data with | .fields _ => true | .func _ => true | _ => false) = true → s.heap.get? b = some o → s'.heap.get? b = some o := fun b o hd e => X'.keep b o (X.notfields e hd) e
  refine ⟨k _ _ rfl T.at_, T.ok, fun pos c' e => ?_⟩
  obtain ⟨a, o, vs, t, rfl, ho, hd, hv⟩ := T.recs pos c' e
  exact ⟨a, o, vs, t, rfl, k a o (by rw [hd]) ho, hd, hv⟩
end

end
section
open PySem PySem.W PyProof.Rows PySem.Calls
set_option Elab.async false
set_option maxRecDepth 100000
set_option maxHeartbeats 0
set_option linter.all false

/-! _law_rule -/
theorem rule_o : ∀ P, ((H1 P).get? 189).map (·.data) = some (.func (lawFd 20 "_law_rule" 188)) := by intro P; kernel_rfl
theorem rule_c : ∀ P, codeOk (Str.ofString "_law_rule") ((H1 P).get? 188) = true := by intro P; kernel_rfl
section
variable {c : Cx} {ρ : List (Str × PV)}
theorem ns1_ne {h : Heap} {d b : Addr} {m : Str → Option Value} (x : h.Ns1 d m) {o : Obj} (ho : h.get? b = some o) (hd : (match o.data with | .dict .. => false | _ => true) = true) : b ≠ d := by
  rintro rfl
  obtain ⟨o', es, ep, e, d', _⟩ := x
  rw [ho] at e; cases e
  rw [d'] at hd; cases hd
theorem FnObj.lower {lo lo' : Nat} {h : Heap} {r : Addr} {fd : FuncData} {m : Str → Option Value} (hl : lo' ≤ lo) (x : FnObj lo h r fd m) : FnObj lo' h r fd m := by
  obtain ⟨dd, hr, h1 | ⟨d, h1, h2, h3, h4⟩⟩ := x
  · exact ⟨dd, hr, .inl h1⟩
  · exact ⟨dd, hr, .inr ⟨d, h1, h2, Nat.le_trans hl h3, h4⟩⟩
/-- a rule whose table and cell lie above a mark -/
noncomputable def RuleLo (lo : Nat) (h : Heap) (r : Addr) (p : PV) (w : PV) : Prop :=
  ∃ fd0 m lam pm cd ct cl sv v, FnObj lo h r fd0 m ∧ m "applies_to" = some (.ref lam) ∧ m "allowance" = some v ∧ Rep [] h w v ∧
    h.get? lam = some { cls := .type "function", data := .func (kla_fn "<lambda>" lamQ lam2.1 lam2.2.1 lam2.2.2.1 [(Str.ofString "several", cl)] pm cd ct) } ∧ h.CodeRec cd lamQ ∧ h.IsCell cl (some sv) ∧ Rep [] h p sv ∧ lo ≤ cl
theorem call_rule {n : Nat} {s : Shared} {ps : Array Value} {p w : PV} {v1 v2 : Value} {Q : Value → Shared → Prop} {E : Value → Shared → Prop} (S : Sit c ρ s) (hH : c.H = []) (hN : c.N = n + 1) (hfx : ∀ e ∈ c.fix, e.1 ≠ tb) (T : TabIs s.heap ps)
    (r1 : Rep [] s.heap (p) v1) (r2 : Rep [] s.heap w v2)
    (hQ : ∀ r s' ps', s.heap.get? r = none → Kt s s' → TabIs s'.heap ps' → full ps' → RuleLo s.heap.objs.size s'.heap r p w → (full ps → ps' = ps) → Q (.ref r) s') : wpAny (model pg c.w) c.A (call (.ref 189) [v1, v2]) Q E s := by
  refine Cl.enter (names := [Str.ofString "several", Str.ofString "word"]) (fd := lawFd 20 "_law_rule" 188) (cd := 188) (ps := [p, w]) S (by rw [hH]; exact ⟨v1, _, rfl, r1, v2, _, rfl, r2, rfl⟩) hH hN rule_o (by decide) rfl rule_c (by decide) rfl rfl rfl rfl rfl (bind2 rfl (fun _ _ => rfl))
    (by kernel_rfl) (by decide +kernel) (by kernel_rfl) (by kernel_rfl) (by kernel_rfl) fun s₁ E' X₁ k₁ => ?_
  generalize hcc : c.call (lawFd 20 "_law_rule" 188) s.heap.objs.size 189 = cc at X₁
  have hccH : cc.H = [] := by rw [← hcc]; rfl
  have hccf : cc.fix = c.fix := by rw [← hcc]; rfl
  have hccw : cc.w = c.w := by rw [← hcc]; rfl
  have hcode : cc.env.code = .ref 188 := by rw [← hcc]; rfl
  have hqual : cc.env.qual ++ "<lambda>" = lamQ := by rw [← hcc]; kernel_rfl
  have T₁ : TabIs s₁.heap ps := T.kp k₁.get
  have hfx' : ∀ e ∈ cc.fix, e.1 ≠ tb := by rw [hccf]; exact hfx
  rw [← hccw]
  -- what is new behind the entry
  have fresh : ∀ b, s₁.heap.objs.size ≤ b → ¬ own cc [] b ∧ b ≠ tb ∧ (H1 cc.w.params).get? b = none ∧ (∀ e ∈ cc.fix, e.1 ≠ b) ∧ s.heap.get? b = none := fun b hb => by
    have hnone : s₁.heap.get? b = none := get_ge hb
    have h1 : b ≠ tb := fun h => by rw [h, T₁.at_] at hnone; cases hnone
    refine ⟨X₁.notown hb, h1, ?_, fun e he h => ?_, ?_⟩
    · cases g : (H1 cc.w.params).get? b with
      | none => rfl
      | some o => rw [X₁.sit.gd.keep b o h1 g] at hnone; cases hnone
    · have := X₁.sit.fx e he
      rw [h, show s₁.heap.get? b = none from hnone] at this; cases this
    · cases g : s.heap.get? b with
      | none => rfl
      | some o => rw [k₁.get _ _ g] at hnone; cases hnone
  have jumpT : ∀ {K s s' ps' ρ}, Act cc K [] ρ s → TabIs s.heap ps' → Kt s s' → (∃ o, s'.heap.get? tb = some o) → Act cc s' [] ρ s' := fun {K s s' ps' ρ} X T k htb => by
    refine X.jump (· = tb) k.get k.eq (fun b hb h => (X.h1 b h).2 hb) (fun b hb => .inl hb) htb (fun b hb o ho ys n hd => ?_) (fun e he h => hfx' e he h) (fun a ha => by rw [hccH] at ha; cases ha)
    rw [hb, T.at_] at ho; cases ho; cases hd
  -- rule = lambda: None
  show wpAny _ _ (execs (sBody (stm 20)) _) _ _ _
  refine wpAny_execs_cons (wpAny_Assign_Name ?_ (by rw [← hcc]; kernel_rfl))
  refine ev_lambda (X₁.view0 hccH) hcode hqual (by rw [← hcc]; kernel_rfl) (by rw [← hcc]; kernel_rfl) T₁ fun r s₂ ps₂ pm₁ cd₁ ct₁ hr hr₂ hcd₁ kt₂ T₂ hp₂ hm₂ hf₂ => ?_
  obtain ⟨rown, rtb, rh1, rfix, rnew⟩ := fresh r hr
  have X₂ := jumpT X₁ T₁ kt₂ ⟨_, T₂.at_⟩
  refine X₂.store (p := .obj r) rfl (by rw [← hcc]; kernel_rfl) (fun _ h => h) (by kernel_rfl) fun s₃ X₃ => ?_
  have T₃ := T₂.through X₂ X₃
  have hr₃ : s₃.heap.get? r = _ := X₃.keep r _ rown hr₂
  -- rule.applies_to = lambda name: ..
  refine wpAny_execs_cons (plainObj_wpAny_Assign_Attribute ?_ (by rw [← hcc]; kernel_rfl))
  refine ev_lambda (X₃.view0 hccH) hcode hqual (by rw [← hcc]; kernel_rfl) (by rw [← hcc]; kernel_rfl) T₃ fun lam s₄ ps₄ pm cd ct hlam hlam₄ hcd kt₄ T₄ hp₄ hm₄ hf₄ => ?_
  have X₄ := jumpT X₃.here T₃ kt₄ ⟨_, T₄.at_⟩
  have hr₄ : s₄.heap.get? r = _ := kt₄.get r _ rtb hr₃
  have hlr : lam ≠ r := fun h => by
    have := Heap.lt_size hr₃
    rw [← h] at this
    exact absurd this (Nat.not_lt.mpr hlam)
  refine (Ev.name (c := cc) (ρ := (Str.ofString "rule", PV.obj r) :: _) (p := .obj r) List.mem_cons_self).run s₄ _ _ (X₄.view0 hccH) fun rv s₅ k₅ hrv => ?_
  obtain rfl : rv = .ref r := hrv
  have X₅ := (X₄.kp k₅).here
  have hsz₅ : s₁.heap.objs.size ≤ s₅.heap.objs.size := Nat.le_of_lt (Nat.lt_of_le_of_lt hr (Heap.lt_size (k₅.get _ _ hr₄)))
  refine setattr_fn (lo := s₁.heap.objs.size) (m := fun _ => none) hsz₅ ⟨none, k₅.get _ _ hr₄, .inl ⟨rfl, rfl⟩⟩ fn_lk_at Within.nil (by decide) fun h₆ tk₆ F₆ keep₆ => ?_
  have keep₆' : ∀ b o, b ≠ r → s₅.heap.get? b = some o → h₆.get? b = some o := fun b o hb e => keep₆ b o hb (fun o₀ dx e₀ e₁ => by
    rw [k₅.get _ _ hr₄] at e₀; cases e₀; cases e₁) e
  have T₅ := T₄.kp k₅.get
  have T₆ : TabIs h₆ ps₄ := by
    refine ⟨keep₆' _ _ (Ne.symm rtb) T₅.at_, T₅.ok, fun pos c' e => ?_⟩
    obtain ⟨a, o, vs, t, rfl, ho, hd, hv⟩ := T₅.recs pos c' e
    refine ⟨a, o, vs, t, rfl, keep₆' a o (fun h => ?_) ho, hd, hv⟩
    rw [h, k₅.get _ _ hr₄] at ho; cases ho; cases hd
  have X₆ : Act cc { s₅ with heap := h₆, toks := tk₆ } [] _ { s₅ with heap := h₆, toks := tk₆ } := X₅.jump (· = r) (fun b o hb e => keep₆' b o hb e) ⟨_, _, rfl⟩ (fun b hb h => rown (hb ▸ h)) (fun b hb => .inr (hb ▸ rh1)) ⟨_, T₆.at_⟩
    (fun b hb o ho ys k hd => by rw [hb, k₅.get _ _ hr₄] at ho; cases ho; cases hd) (fun e he h => rfix e he h) (fun a ha => by rw [hccH] at ha; cases ha)
  have hlam₆ : h₆.get? lam = _ := keep₆' lam _ hlr (k₅.get _ _ hlam₄)
  -- rule.allowance = word
  refine wpAny_execs_cons (plainObj_wpAny_Assign_Attribute ?_ (by rw [← hcc]; kernel_rfl))
  refine (Ev.name (c := cc) (x := Str.ofString "word") (p := w) (List.mem_cons_of_mem _ (List.mem_cons_of_mem _ List.mem_cons_self))).run _ _ _ (X₆.view0 hccH) fun wv s₇ k₇ hwv => ?_
  have X₇ := X₆.kp k₇
  refine (Ev.name (c := cc) (ρ := (Str.ofString "rule", PV.obj r) :: _) (p := .obj r) List.mem_cons_self).run s₇ _ _ (X₇.view0 hccH) fun rv s₈ k₈ hrv => ?_
  obtain rfl : rv = .ref r := hrv
  have X₈ := (X₇.kp k₈).here
  have F₈ := (F₆.at k₇.get).at k₈.get
  have hr₈ := F₈
  obtain ⟨dd, hrd, hdd⟩ := hr₈
  obtain ⟨d, rfl, hdr, hdlo, hdns⟩ : ∃ d, dd = some d ∧ d ≠ r ∧ s₁.heap.objs.size ≤ d ∧ s₈.heap.Ns1 d _ := hdd.elim (fun h => by
    have := congrFun h.2 (Str.ofString "applies_to")
    simp at this) id
  have T₈ := (T₆.kp k₇.get).kp k₈.get
  have hsz₈ : s₁.heap.objs.size ≤ s₈.heap.objs.size := Nat.le_of_lt (Nat.lt_of_le_of_lt hdlo hdns.lt)
  refine setattr_fn hsz₈ F₈ fn_lk_al (Within.cons _ _ Within.nil) (by decide) fun h₉ tk₉ F₉ keep₉ => ?_
  have keep₉' : ∀ b o, b ≠ r → b ≠ d → s₈.heap.get? b = some o → h₉.get? b = some o := fun b o hb hbd e => keep₉ b o hb (fun o₀ dx e₀ e₁ => by
    rw [hrd] at e₀; cases e₀; cases e₁; exact hbd) e
  obtain ⟨down, dtb, dh1, dfix, dnew⟩ := fresh d hdlo
  have T₉ : TabIs h₉ ps₄ := by
    refine ⟨keep₉' _ _ (Ne.symm rtb) (Ne.symm dtb) T₈.at_, T₈.ok, fun pos c' e => ?_⟩
    obtain ⟨a, o, vs, t, rfl, ho, hd, hv⟩ := T₈.recs pos c' e
    refine ⟨a, o, vs, t, rfl, keep₉' a o (fun h => ?_) (ns1_ne hdns ho (by rw [hd])) ho, hd, hv⟩
    rw [h, hrd] at ho; cases ho; cases hd
  have X₉ : Act cc { s₈ with heap := h₉, toks := tk₉ } [] _ { s₈ with heap := h₉, toks := tk₉ } := X₈.jump (fun b => b = r ∨ b = d) (fun b o hb e => keep₉' b o (fun h => hb (.inl h)) (fun h => hb (.inr h)) e) ⟨_, _, rfl⟩
    (fun b hb h => hb.elim (fun hb => rown (hb ▸ h)) (fun hb => down (hb ▸ h))) (fun b hb => .inr (hb.elim (fun hb => hb ▸ rh1) (fun hb => hb ▸ dh1))) ⟨_, T₉.at_⟩
    (fun b hb o ho ys k hd => hb.elim (fun hb => by rw [hb, hrd] at ho; cases ho; cases hd) (fun hb => by
      obtain ⟨o', es, ep, e', d', _⟩ := hdns
      rw [hb, e'] at ho; cases ho
      rw [d'] at hd; cases hd)) (fun e he h => h.elim (fun h => rfix e he h) (fun h => dfix e he h)) (fun a ha => by rw [hccH] at ha; cases ha)
  have hlam₈ : s₈.heap.get? lam = _ := k₈.get _ _ (k₇.get _ _ hlam₆)
  have hlam₉ : h₉.get? lam = _ := keep₉' lam _ hlr (ns1_ne hdns hlam₈ rfl) hlam₈
  -- return rule
  refine wpAny_execs_cons (wpAny_Return_some ?_)
  refine (Ev.name (c := cc) (ρ := (Str.ofString "rule", PV.obj r) :: _) (p := .obj r) List.mem_cons_self).run _ _ _ (X₉.view0 hccH) fun rv s₁₀ k₁₀ hrv => ?_
  obtain rfl : rv = .ref r := hrv
  have X₁₀ := X₉.kp k₁₀
  have hkeepAll : ∀ b o, b ≠ tb → s.heap.get? b = some o → s₁₀.heap.get? b = some o := fun b o hb e => by
    have hbr : b ≠ r := fun h => by rw [h, rnew] at e; cases e
    have hbd : b ≠ d := fun h => by rw [h, dnew] at e; cases e
    have hbl : b < s.heap.objs.size := Heap.lt_size e
    have hbown : ¬ own cc [] b := by
      rw [← hcc]
      rintro (h | ⟨n', h⟩ | h)
      · rw [h] at hbl; exact Nat.lt_irrefl _ hbl
      · have := X₁.above n' b (by rw [← hcc]; exact mem_of_lookup h)
        rw [← hcc] at this
        exact Nat.lt_irrefl _ (Nat.lt_trans this hbl)
      · simp at h
    have e₃ := X₃.keep b o hbown (kt₂.get b o hb (k₁.get b o e))
    exact k₁₀.get _ _ (keep₉' b o hbr hbd (k₈.get _ _ (k₇.get _ _ (keep₆' b o hbr (k₅.get _ _ (kt₄.get b o hb e₃))))))
  have heqAll : ∃ h' tk, s₁₀ = { s with heap := h', toks := tk } := 
    sameS (sameS (sameS (sameS (sameS (sameS (sameS (sameS (sameS k₁.eq kt₂.eq) X₃.same) kt₄.eq) k₅.eq) (sameU _ _ _)) k₇.eq) k₈.eq) (sameU _ _ _)) k₁₀.eq
  have hfull : full ps₄ := ⟨hm₄ _ hp₂, hp₄⟩
  refine hQ r s₁₀ ps₄ rnew ⟨hkeepAll, heqAll⟩ (T₉.kp k₁₀.get) hfull ?_ fun hfu => ?_
  · -- the rule
    have hsv := X₁₀.sit.vars (Str.ofString "several", p) (List.mem_cons_of_mem _ List.mem_cons_self)
    obtain ⟨sv, hsv, hrep⟩ := hsv
    have hkind : cc.env.kindOf (Str.ofString "several") = some .cell := by rw [← hcc]; kernel_rfl
    obtain ⟨cl, hcl, hcell⟩ : ∃ cl, cc.env.cells.lookup (Str.ofString "several") = some cl ∧ s₁₀.heap.IsCell cl (some sv) := by
      rcases hsv.2 with ⟨h, _⟩ | ⟨_, cl, h1, h2⟩ | ⟨h, _⟩
      · rw [show cc.env.kindOf (Str.ofString "several") = some .local from h] at hkind; cases hkind
      · exact ⟨cl, h1, h2⟩
      · rw [show cc.env.kindOf (Str.ofString "several") = some .free from h] at hkind; cases hkind
    have hclos : closOf cc.env lam2.2.2.1.names [] = [(Str.ofString "several", cl)] := by
      have : closOf cc.env lam2.2.2.1.names [] = [(Str.ofString "several", (cc.env.cells.lookup (Str.ofString "several")).getD 0)] := by rw [← hcc]; kernel_rfl
      rw [this, hcl]; rfl
    have hle₁ : s.heap.objs.size ≤ s₁.heap.objs.size := by
      have : ∃ o, s₁.heap.get? s.heap.objs.size = some o := by
        obtain ⟨m, o, es, ep, g, _⟩ := X₁.ns
        rw [← hcc] at g
        exact ⟨o, g⟩
      obtain ⟨o, e⟩ := this
      exact Nat.le_of_lt (Heap.lt_size e)
    have hH0 : (cc.hide []).H = [] := by unfold Cx.hide; rw [hccH]; rfl
    refine ⟨_, _, lam, pm, cd, ct, cl, sv, wv, (F₉.at k₁₀.get).lower hle₁, ?_, ?_, ?_, ?_, ?_, hcell, by rw [hH0] at hrep; exact hrep, ?_⟩
    · simp
      intro h; exact absurd h (by decide +kernel)
    · simp
    · have h1 : Rep [] s₇.heap w wv := by rw [hccH] at hwv; exact hwv
      refine Rep.sk (fun b o _ ⟨ys, k, hd⟩ e => k₁₀.get _ _ (keep₉' b o (fun h => ?_) (ns1_ne hdns e (by rw [hd])) e)) _ _ (h1.kp k₈)
      rw [h, hrd] at e; cases e; cases hd
    · rw [← hclos]
      exact k₁₀.get _ _ hlam₉
    · refine CodeRec.kp k₁₀.get ?_
      have hc8 : s₈.heap.CodeRec cd lamQ := by
        refine CodeRec.kp k₈.get (CodeRec.kp k₇.get ?_)
        obtain ⟨a, o, vs, t, rfl, ho, hd, hv⟩ := CodeRec.kp k₅.get hcd
        refine ⟨a, o, vs, t, rfl, keep₆' a o (fun h => ?_) ho, hd, hv⟩
        rw [h, k₅.get _ _ hr₄] at ho; cases ho; cases hd
      obtain ⟨a, o, vs, t, rfl, ho, hd, hv⟩ := hc8
      refine ⟨a, o, vs, t, rfl, keep₉' a o (fun h => ?_) (ns1_ne hdns ho (by rw [hd])) ho, hd, hv⟩
      rw [h, hrd] at ho; cases ho; cases hd
    · have := X₁.above _ cl (mem_of_lookup hcl)
      rw [← hcc] at this
      exact Nat.le_of_lt this
  · have e2 := (hf₂ hfu.1).2
    rw [e2] at hf₄
    exact (hf₄ hfu.2).2
end

end
section
open PySem PySem.W PyProof.Rows PySem.Calls
set_option Elab.async false
set_option maxRecDepth 100000
set_option maxHeartbeats 0
set_option linter.all false

/-! a rule's call and its word -/
noncomputable def maxOf : List Int → Int
  | [] => 0
  | x :: xs => xs.foldl max x
theorem foldl_max (xs : List Int) : ∀ x : Int, (xs.foldl max x ∈ x :: xs) ∧ ∀ a ∈ x :: xs, a ≤ xs.foldl max x := by
  induction xs with
  | nil => intro x; simp
  | cons y ys ih =>
    intro x
    obtain ⟨h1, h2⟩ := ih (max x y)
    rw [List.foldl_cons]
    constructor
    · rcases List.mem_cons.mp h1 with h | h
      · rw [h]
        rcases Int.le_total x y with hxy | hxy
        · rw [Int.max_eq_right hxy]; simp
        · rw [Int.max_eq_left hxy]; simp
      · exact List.mem_cons_of_mem _ (List.mem_cons_of_mem _ h)
    · intro a ha
      have hm := h2 (max x y) List.mem_cons_self
      rcases List.mem_cons.mp ha with rfl | ha
      · exact Int.le_trans (Int.le_max_left _ _) hm
      · rcases List.mem_cons.mp ha with rfl | ha
        · exact Int.le_trans (Int.le_max_right _ _) hm
        · exact h2 a (List.mem_cons_of_mem _ ha)
theorem maxOf_is {xs : List Int} (h : xs ≠ []) : maxOf xs ∈ xs ∧ ∀ a ∈ xs, a ≤ maxOf xs := by
  cases xs with
  | nil => exact absurd rfl h
  | cons x xs => exact foldl_max xs x
noncomputable def endP (p : List (List Nat)) (nm : List Nat) : Int := match p with
  | [] => 0
  | first :: rest => lawEnd first rest.dropLast (rest.getLastD []) nm
noncomputable def GoodP (p : List (List Nat)) : Prop := ∃ first mid last, p = first :: (mid ++ [last]) ∧ first.length ≤ 1000 ∧ last.length ≤ 1000 ∧ mid.length ≤ 1000 ∧ ∀ q ∈ mid, q.length ≤ 1000
theorem endP_is (first : List Nat) (mid : List (List Nat)) (last nm : List Nat) : endP (first :: (mid ++ [last])) nm = lawEnd first mid last nm := by
  simp [endP, List.getLastD_eq_getLast?]
noncomputable def endsOf (sev : List (List (List Nat))) (nm : List Nat) : List Int := (if sev.isEmpty then 1 else 0) :: sev.map (endP · nm)
noncomputable def ruleVal (sev : List (List (List Nat))) (nm : List Nat) : Int := maxOf (endsOf sev nm)
noncomputable def unS : PV → List Nat
  | .str s => s
  | _ => []
theorem unS_map (p : List (List Nat)) : (p.map PV.str).map unS = p := by rw [List.map_map]; exact List.map_id _
noncomputable def fEnd (nm : List Nat) : PV → PV
  | .list ps => .int (endP (ps.map unS) nm)
  | _ => .none
theorem fEnd_is (sev : List (List (List Nat))) (nm : List Nat) : (((sev.map fun p => PV.list (p.map .str)).filter fun _ => true).map (fEnd nm)) = (sev.map (endP · nm)).map .int := by
  rw [List.filter_eq_self.mpr (by simp), List.map_map, List.map_map]
  apply List.map_congr_left
  intro p _
  simp only [Function.comp_def, fEnd, unS_map]
/-- a rule whose objects stand fixed -/
noncomputable def RuleFx (F : List (Addr × Obj)) (r : Addr) (sev : List (List (List Nat))) (w : PV) : Prop := ∀ h : Heap, (∀ e ∈ F, h.get? e.1 = some e.2) → RuleAt h r sev w
theorem RuleFx.mono {F G : List (Addr × Obj)} {r : Addr} {sev : List (List (List Nat))} {w : PV} (x : RuleFx F r sev w) (h : ∀ e ∈ F, e ∈ G) : RuleFx G r sev w := fun h' hh => x h' fun e he => hh e (h e he)
section
variable {c : Cx} {ρ : List (Str × PV)}
end
noncomputable def lamEnv (L cn cl lam : Addr) (cd : Value) : Env := newEnv lam2.2.2.1 L mainNs [(Str.ofString "name", cn), (Str.ofString "several", cl)] (lamQ ++ ".<locals>.") (some lam) cd none builtinsNs
noncomputable def Cx.lam (c : Cx) (env : Env) : Cx := ⟨c.w, c.A.deeper env, env, [], c.N - 1, c.fix⟩
theorem sev_noObj (sev : List (List (List Nat))) : noObjs (sev.map fun p => PV.list (p.map .str)) = true := noObjs_of fun x hx => by
  obtain ⟨p, _, rfl⟩ := List.mem_map.mp hx
  show noObjs _ = true
  exact noObjs_of fun y hy => by obtain ⟨q, _, rfl⟩ := List.mem_map.mp hy; rfl
theorem ev_lamBody {c : Cx} {n : Nat} {L cn cl lam : Addr} {cd : Value} {nm : List Nat} {sev : List (List (List Nat))} (hN : c.N = n + 2) (hz : nm.length ≤ 1000) (hs : sev.length ≤ 1000) (hg : ∀ p ∈ sev, GoodP p) :
    Ev (c.lam (lamEnv L cn cl lam cd)) [(Str.ofString "name", .str nm), (Str.ofString "several", sevPV sev)] lam2.2.1 (.int (ruleVal sev nm)) := by
  show Ev _ [(Str.ofString "name", .str nm), (Str.ofString "several", .list (sev.map fun p => .list (p.map .str)))] lam2.2.1 _
  apply Ev.call_bltn (ps := [.list ((endsOf sev nm).map .int)])
  · walk_at "nmb"
  · apply Evs.cons (p := .list ((endsOf sev nm).map .int))
    · have e1 : (endsOf sev nm).map PV.int = [PV.int (if sev.isEmpty then 1 else 0)] ++ (sev.map (endP · nm)).map .int := rfl
      rw [e1]
      apply Ev.binop (p := .list [PV.int (if sev.isEmpty then 1 else 0)]) (q := .list ((sev.map (endP · nm)).map .int))
      · apply Ev.list
        · apply Evs.cons
          · apply Ev.ifint (x := sev.isEmpty)
            · apply Tr.eq
              · apply Tr.cmp
                · walk_at "step"
                · exact Ev.list Evs.nil (by decide)
                · exact Cm.eq_nil
                · kernel_rfl
              · cases sev <;> rfl
            · intro _; exact Ev.cint
            · intro _; exact Ev.cint
          · exact Evs.nil
          all_goals kernel_rfl
        · show 1 ≤ 65536; decide
      · rw [← fEnd_is]
        apply Ev.comp (bb := false) (ρ' := [(Str.ofString "name", .str nm)]) (fun _ => true) (fEnd nm)
        case hit => walk_at "step"
        case hok => kernel_rfl
        case hcell => kernel_rfl
        case hkind => kernel_rfl
        case hnames => kernel_rfl
        case hx => kernel_rfl
        case hd => kernel_rfl
        case hsub => walk_at "sub"
        case hcap => kernel_rfl
        case hno => exact sev_noObj sev
        case hsz => simp; omega
        case hq => intro y _ C; exact Trs.nil
        case hf =>
          intro y hy _
          obtain ⟨p, hp, rfl⟩ := List.mem_map.mp hy
          obtain ⟨first, mid, last, rfl, h1, h2, h3, h4⟩ := hg p hp
          refine ⟨rfl, fun C => ?_⟩
          have e2 : fEnd nm (.list ((first :: (mid ++ [last])).map .str)) = .int (lawEnd first mid last nm) := by
            show PV.int (endP (((first :: (mid ++ [last])).map PV.str).map unS) nm) = _
            rw [unS_map, endP_is]
          rw [e2]
          apply Ev.fn (f := 182) (fd := lawFd 19 "_law_end" 181) (ps := [.list ((first :: (mid ++ [last])).map .str), .str nm]) (by walk_at "gl") (by intro P; kernel_rfl) (by kernel_rfl) end_o (by decide) (by kernel_rfl)
          · apply Evs.cons
            · walk_at "step"
            · apply Evs.cons
              · walk_at "step"
              · exact Evs.nil
              all_goals kernel_rfl
            all_goals kernel_rfl
          · exact cl_end (n := n) rfl (by show c.N - 1 = n + 1; omega) ⟨hz, h1, h2, h3, h4⟩
      · apply Bo.add_list; simp; omega
    · exact Evs.nil
    all_goals kernel_rfl
  · have hm := maxOf_is (xs := endsOf sev nm) (by simp [endsOf])
    exact Cl.max_list (by simp [endsOf]) hm
section
variable {c : Cx} {ρ : List (Str × PV)}
theorem lam_binds (pm cd ct : Value) (cl : Addr) (v : Value) : bindArgs (kla_fn "<lambda>" lamQ lam2.1 lam2.2.1 lam2.2.2.1 [(Str.ofString "several", cl)] pm cd ct) ⟨[v], []⟩ = pure [(Str.ofString "name", v)] := by kernel_rfl
theorem call_lam {n : Nat} {s : Shared} {Q : Value → Shared → Prop} {E : Value → Shared → Prop} {lam cl : Addr} {pm cd ct sv v : Value} {nm : List Nat} {sev : List (List (List Nat))} (S : Sit c ρ s) (hN : c.N = n + 2) (hz : nm.length ≤ 1000) (hs : sev.length ≤ 1000) (hg : ∀ p ∈ sev, GoodP p)
    (hlam : s.heap.get? lam = some { cls := .type "function", data := .func (kla_fn "<lambda>" lamQ lam2.1 lam2.2.1 lam2.2.2.1 [(Str.ofString "several", cl)] pm cd ct) }) (hcd : s.heap.CodeRec cd lamQ) (hcl : s.heap.IsCell cl (some sv)) (hsv : Rep [] s.heap (sevPV sev) sv) (hv : Rep [] s.heap (.str nm) v)
    (hQ : ∀ u s', Kp s s' → Rep c.H s'.heap (.int (ruleVal sev nm)) u → Q u s') : wpAny (model pg c.w) c.A (call (.ref lam) [v]) Q E s := by
  have hroom : c.A.depth < recursionLimit := by have := S.rd; omega
  refine wpAny_call (kla_callFunE (body := lam2.2.1) hroom hlam rfl rfl rfl rfl hcd ?_)
  rw [lam_binds]
  refine wpAny_pure ?_
  show wpAny _ _ (newFunctionEnv lam2.2.2.1 mainNs [(Str.ofString "several", cl)] [(Str.ofString "name", v)] (lamQ ++ ".<locals>.") (some lam) cd none builtinsNs) _ _ _
  simp only [newFunctionEnv, Option.isSome_none, Bool.false_eq_true, if_false]
  refine wpAny_bind (wpAny_alloc ?_)
  refine wpAny_bind (wpAny_layCells _ (fun name kind cells => by cases hkc : kind == NameKind.cell <;> simp [hkc]) _ _ _ _ ?_)
  have hnames : lam2.2.2.1.names = [(Str.ofString "name", .cell), (Str.ofString "several", .free), (Str.ofString "max", .globalImplicit)] := by kernel_rfl
  have hsz : (s.heap.push { cls := .type "frame", data := .dict #[] }).objs.size = s.heap.objs.size + 1 := Heap.size_push ..
  have hcells : cellsFrom (s.heap.push { cls := .type "frame", data := .dict #[] }).objs.size lam2.2.2.1.names [(Str.ofString "several", cl)] = [(Str.ofString "name", s.heap.objs.size + 1), (Str.ofString "several", cl)] := by
    rw [hnames, hsz]; rfl
  have hpush : pushCells (s.heap.push { cls := .type "frame", data := .dict #[] }) lam2.2.2.1.names = (s.heap.push { cls := .type "frame", data := .dict #[] }).push { cls := .type "cell", data := .cell none } := by rw [hnames]; rfl
  show wpAny _ _ (forIn [(Str.ofString "name", v)] PUnit.unit _ >>= _) _ _ { s with heap := pushCells (s.heap.push { cls := .type "frame", data := .dict #[] }) lam2.2.2.1.names }
  rw [hcells, hpush]
  have hnew : ((s.heap.push { cls := .type "frame", data := .dict #[] }).push { cls := .type "cell", data := .cell none }).IsCell (s.heap.objs.size + 1) none := by
    refine ⟨{ cls := .type "cell", data := .cell none }, ?_, rfl⟩
    rw [← hsz]; exact Heap.get?_push_size _ rfl
  rw [List.forIn_cons]
  have hold : ∀ b o, s.heap.get? b = some o → ((s.heap.push { cls := .type "frame", data := .dict #[] }).push { cls := .type "cell", data := .cell none }).get? b = some o := fun b o e => Heap.get?_push_of_some _ (Heap.get?_push_of_some _ e)
  refine wpAny_bind (wpAny_bind (wpAny_bind (wpAny_storeName_cell (env := lamEnv s.heap.objs.size (s.heap.objs.size + 1) cl lam cd) (c := s.heap.objs.size + 1) (by kernel_rfl) (by kernel_rfl) (by kernel_rfl) hnew fun h' hc' hs' => wpAny_pure ?_)))
  dsimp only
  rw [List.forIn_nil]
  refine wpAny_pure (wpAny_pure ?_)
  have hk : ∀ b o, s.heap.get? b = some o → h'.get? b = some o := fun b o e => (hs'.2 b (Nat.ne_of_lt (Nat.lt_succ_of_lt (Heap.lt_size e)))).trans (hold b o e)
  have k : Kp s { s with heap := h' } := .of s hk
  have S' := S.keeps k
  refine ⟨S'.gd.nolimit, ?_⟩
  show codeAny _ _ (.expr lam2.2.1 (lamEnv s.heap.objs.size (s.heap.objs.size + 1) cl lam cd)) _ _
  refine kla_codeExpr ?_
  have S₂ : Sit (c.lam (lamEnv s.heap.objs.size (s.heap.objs.size + 1) cl lam cd)) [(Str.ofString "name", .str nm), (Str.ofString "several", sevPV sev)] { s with heap := h' } := by
    refine ⟨S'.gd, (fun a ha => nomatch ha), rfl, rfl, rfl, fun e he => ?_, S'.hh, ?_, ?_, S'.fx⟩
    · simp only [List.mem_cons, List.not_mem_nil, or_false] at he
      rcases he with rfl | rfl
      · exact ⟨v, ⟨by kernel_rfl, .inr (.inl ⟨by kernel_rfl, s.heap.objs.size + 1, by kernel_rfl, hc'⟩)⟩, hv.kp k⟩
      · exact ⟨sv, ⟨by kernel_rfl, .inr (.inr ⟨by kernel_rfl, by kernel_rfl, cl, by kernel_rfl, hcl.keeps hk⟩)⟩, hsv.kp k⟩
    · have := S.ru; rw [hN] at this
      show c.A.units + 3 + 50 * (c.N - 1 + 1) < cLine
      rw [hN]; omega
    · have := S.rd; rw [hN] at this
      show c.A.depth + 1 + 8 * (c.N - 1 + 1) < recursionLimit
      rw [hN]; omega
  exact (ev_lamBody hN hz hs hg).run _ _ _ S₂ fun u s' k' hu => hQ u s' (k.trans k') hu
theorem Ev.applies {n : Nat} {x : Str} {p apos pos : Pos} {e : Expr} {r : Addr} {nm : List Nat} {sev : List (List (List Nat))} {w : PV} (hH : c.H = []) (hN : c.N = n + 2) (hz : nm.length ≤ 1000) (hs : sev.length ≤ 1000) (hg : ∀ p ∈ sev, GoodP p) (hR : RuleFx c.fix r sev w)
    (hline : (apos.endLine == pos.line) = true) (hst : starEach [e] c.env = [(false, eval e c.env)]) (hx : Ev c ρ (.Name x p) (.obj r)) (he : Ev c ρ e (.str nm)) :
    Ev c ρ (.Call (.Attribute (.Name x p) (Str.ofString "applies_to") apos) [e] [] pos) (.int (ruleVal sev nm)) := .mk fun s Q E S hQ => by
  rw [arm_eval_Call]
  refine wpAny_bind (m := eval (.Name x p) c.env) (hx.run s _ _ S fun ov s₁ k₁ r₁ => ?_)
  obtain rfl : ov = .ref r := r₁
  have S₁ := S.keeps k₁
  obtain ⟨fd0, m, lam, pm, cd, ct, cl, sv, v, F, h1, h2, h3, h4, h5, h6, h7⟩ := hR s₁.heap S₁.fx
  refine wpAny_bind (wpAny_standAt ?_)
  have hform : methodCallForm ([e].length + ([] : List Keyword).length) (backTo pos (starEach [e] c.env)) (backToKw pos (keywordEach [] c.env)) = true := by rw [hst]; rfl
  have hpos : methodCallPos true (.Name x p) c.env apos pos = pure pos := by unfold methodCallPos; simp [hline]
  unfold methodCall
  rw [hform]
  refine wpAny_bind (wpAny_holding (getMethod_fn F fn_lk_at h1 rfl ?_))
  refine wpAny_bind (wpAny_of_eq hpos ?_)
  have k₂ : Kp s₁ { s₁ with toks := s₁.toks + 1 } := .tok s₁ _
  refine callWith_function (o := { cls := .type "function", data := .func (kla_fn "<lambda>" lamQ lam2.1 lam2.2.1 lam2.2.2.1 [(Str.ofString "several", cl)] pm cd ct) }) (fd := kla_fn "<lambda>" lamQ lam2.1 lam2.2.1 lam2.2.2.1 [(Str.ofString "several", cl)] pm cd ct) (evalArgs_row (Evs.cons he Evs.nil hst) (S₁.keeps k₂) hst fun vs s₃ k₃ r₃ => ?_)
  obtain ⟨av, _, rfl, hav, rfl⟩ := r₃
  have k23 := k₂.trans k₃
  refine ⟨⟨k23.get _ _ h4, rfl⟩, ?_⟩
  refine call_lam ((S₁.keeps k₂).keeps k₃) hN hz hs hg (k23.get _ _ h4) (CodeRec.kp k23.get h5) (h6.keeps k23.get) (h7.kp k23) (by rw [hH] at hav; exact hav) fun u s' k' hu => hQ u s' ((k₁.trans k23).trans k') hu
theorem Ev.word {x : Str} {p apos : Pos} {r : Addr} {sev : List (List (List Nat))} {w : PV} (hH : c.H = []) (hR : RuleFx c.fix r sev w) (hx : Ev c ρ (.Name x p) (.obj r)) (hh : ∀ v, Rep [] (⟨#[], default⟩ : Heap) w v → handedOut v = pure v) (hw : flt w = true) :
    Ev c ρ (.Attribute (.Name x p) (Str.ofString "allowance") apos) w := .mk fun s Q E S hQ => by
  rw [arm_eval_Attribute]
  refine wpAny_bind (m := eval (.Name x p) c.env) (hx.run s _ _ S fun ov s₁ k₁ r₁ => ?_)
  obtain rfl : ov = .ref r := r₁
  have S₁ := S.keeps k₁
  obtain ⟨fd0, m, lam, pm, cd, ct, cl, sv, v, F, h1, h2, h3, h4, h5, h6, h7⟩ := hR s₁.heap S₁.fx
  refine wpAny_bind (wpAny_standAt (wpAny_bind (wpAny_holding (getattr_fn F fn_lk_al h2 (hh v (h3.flat hw)) ?_))))
  refine wpAny_bind (wpAny_of_eq (a := ()) rfl (wpAny_pure ?_))
  exact hQ v _ (k₁.trans (.tok s₁ _)) (by rw [hH]; exact h3)
end

end
section
open PySem PySem.W PyProof.Rows PySem.Calls
set_option Elab.async false
set_option maxRecDepth 100000
set_option maxHeartbeats 0
set_option linter.all false

/-- as SK, of lists and tuples alone -/
noncomputable def SK2 (H : List Addr) (h h' : Heap) : Prop := ∀ b o, b ∉ H → (∃ ys n, o.data = .seq ys n) → (o.cls = .type "list" ∨ o.cls = .type "tuple") → h.get? b = some o → h'.get? b = some o
mutual
theorem Rep.sk2 {H : List Addr} {h h' : Heap} (k : SK2 H h h') : ∀ (p : PV) (v : Value), Rep H h p v → Rep H h' p v
  | .none, _, x => x
  | .bool _, _, x => x
  | .int _, _, x => x
  | .str _, _, x => x
  | .list xs, v, x => by
    obtain ⟨a, items, e, ha, ⟨o, ho, hc, n, hn⟩, hz, hr⟩ := x
    exact ⟨a, items, e, ha, ⟨o, k _ _ ha ⟨_, _, hn⟩ (.inl hc) ho, hc, n, hn⟩, hz, Reps.sk2 k xs _ hr⟩
  | .tup xs, v, x => by
    obtain ⟨a, items, e, ha, ⟨o, ho, hc, n, hn⟩, hz, hr⟩ := x
    exact ⟨a, items, e, ha, ⟨o, k _ _ ha ⟨_, _, hn⟩ (.inr hc) ho, hc, n, hn⟩, hz, Reps.sk2 k xs _ hr⟩
  | .obj _, _, x => x
theorem Reps.sk2 {H : List Addr} {h h' : Heap} (k : SK2 H h h') : ∀ (p : List PV) (v : List Value), Reps H h p v → Reps H h' p v
  | [], _, x => x
  | p :: ps, _, x => by
    obtain ⟨v, r, e, h1, h2⟩ := x
    exact ⟨v, r, e, Rep.sk2 k p v h1, Reps.sk2 k ps r h2⟩
end
section
variable {c : Cx} {ρ : List (Str × PV)}
/-- a step that changes what is not the frame's own and no list or tuple; the base stands where it was -/
theorem Act.jump2 {K : Shared} {s s' : Shared} (X : Act c K [] ρ s) (W : Addr → Prop) (k : ∀ b o, ¬ W b → s.heap.get? b = some o → s'.heap.get? b = some o) (heq : ∃ h' tk, s' = { s with heap := h', toks := tk }) (hown : ∀ b, W b → ¬ own c [] b)
    (hh1 : ∀ b, W b → (H1 c.w.params).get? b = none ∧ b ≠ tb) (hseq : ∀ b, W b → ∀ o, s.heap.get? b = some o → (∃ ys n, o.data = .seq ys n) → ¬ (o.cls = .type "list" ∨ o.cls = .type "tuple")) (hf : ∀ e ∈ c.fix, ¬ W e.1) (hHid : ∀ a ∈ c.H, ¬ W a) (hK : ∀ b, W b → K.heap.get? b = none) : Act c K [] ρ s' := by
  obtain ⟨h', tk, rfl⟩ := heq
  have hsk : SK2 (c.hide []).H s.heap h' := fun b o _ hd hc e => k b o (fun hw => hseq b hw o e hd hc) e
  have hL : ¬ W c.env.locals := fun h => hown _ h (.inl rfl)
  have hC : ∀ n a, c.env.cells.lookup n = some a → ¬ W a := fun n a h hw => hown a hw (.inr (.inl ⟨n, h⟩))
  have hcell : ∀ n a v, c.env.cells.lookup n = some a → s.heap.IsCell a v → h'.IsCell a v := fun n a v h ⟨o, ho, hd⟩ => ⟨o, k a o (hC n a h) ho, hd⟩
  refine ⟨⟨⟨let ⟨o, e⟩ := X.sit.gd.tbe; ⟨o, k _ _ (fun h => (hh1 _ h).2 rfl) e⟩, fun b o hb e => k b o (fun hw => by rw [show (H1 (c.hide []).w.params).get? b = none from (hh1 b hw).1] at e; cases e) (X.sit.gd.keep b o hb e)⟩, fun a ha => let ⟨o, e⟩ := X.sit.hid a ha; ⟨o, k a o (hHid a ha) e⟩, X.sit.fn, X.sit.gl, X.sit.bl, fun e he => ?_, X.sit.hh, X.sit.ru, X.sit.rd, fun e he => k _ _ (hf e he) (X.sit.fx e he)⟩,
    (fun e he => nomatch he), ?_, fun n a h => ?_, X.apart, X.above, X.h1, (fun b o hb e => k b o (fun hw => by rw [hK b hw] at e; cases e) (X.keep b o hb e)), ?_, X.fo⟩
  · obtain ⟨v, h1, h2⟩ := X.sit.vars e he
    refine ⟨v, ⟨h1.1, ?_⟩, Rep.sk2 hsk _ _ h2⟩
    rcases h1.2 with ⟨g1, m, hn, hm⟩ | ⟨g1, a, ha, hc⟩ | ⟨g1, g2, a, ha, hc⟩
    · exact .inl ⟨g1, m, hn.at' fun o e => k _ o hL e, hm⟩
    · exact .inr (.inl ⟨g1, a, ha, hcell _ _ _ ha hc⟩)
    · exact .inr (.inr ⟨g1, g2, a, ha, hcell _ _ _ ha hc⟩)
  · obtain ⟨m, hm⟩ := X.ns
    exact ⟨m, hm.at' fun o e => k _ o hL e⟩
  · obtain ⟨v, hv⟩ := X.cell n a h
    exact ⟨v, hcell _ _ _ h hv⟩
  · exact sameS X.same (sameU _ _ _)
end
/-! Entry -/
noncomputable def initFd : FuncData := { name := Str.ofString "__init__", qualname := Str.ofString "Entry.__init__", params := sArgs (mth 0), body := .stmts (sBody (mth 0)), scope := sScope (mth 0), globals := 3, closure := [], defaults := .none, kwdefaults := .none, doc := .none, pyModule := (.str (Str.ofString "cpy313.urllib.robotparser") 187), annotations := none, code := (.ref 27), closureTuple := .none, builtins := 0 }
noncomputable def allowFd : FuncData := { name := Str.ofString "allowance", qualname := Str.ofString "Entry.allowance", params := sArgs (mth 3), body := .stmts (sBody (mth 3)), scope := sScope (mth 3), globals := 3, closure := [], defaults := .none, kwdefaults := .none, doc := .none, pyModule := (.str (Str.ofString "cpy313.urllib.robotparser") 187), annotations := none, code := (.ref 48), closureTuple := .none, builtins := 0 }
theorem init_o : ∀ P, ((H1 P).get? 28).map (·.data) = some (.func initFd) := by intro P; kernel_rfl
theorem init_c : ∀ P, codeOk (Str.ofString "Entry.__init__") ((H1 P).get? 27) = true := by intro P; kernel_rfl
theorem allow_o : ∀ P, ((H1 P).get? 49).map (·.data) = some (.func allowFd) := by intro P; kernel_rfl
theorem allow_c : ∀ P, codeOk (Str.ofString "Entry.allowance") ((H1 P).get? 48) = true := by intro P; kernel_rfl
noncomputable def entCls : Obj := excClassObj (Str.ofString "Entry") (Str.ofString "Entry") 52 51 [.type "object"] [.type "object"] true [] [] false none none none none (some (.str (Str.ofString "Entry") 189)) (some (.str (Str.ofString "Entry") 197)) (some (.bool true)) "object.__new__"
theorem ent_cls (P : Params) : (H1 P).get? 52 = some entCls := by kernel_rfl
theorem ent_ns (P : Params) : (H1 P).isNs 51 = true := by kernel_rfl
theorem ent_none (P : Params) : ∀ n ∈ [Str.ofString "useragents", Str.ofString "rulelines", Str.ofString "delay", Str.ofString "req_rate", Str.ofString "__setattr__", Str.ofString "__getattribute__", Str.ofString "__getattr__"], (H1 P).nsMap 51 n = none := by
  intro n hn
  simp only [List.mem_cons, List.not_mem_nil, or_false] at hn
  rcases hn with rfl | rfl | rfl | rfl | rfl | rfl | rfl <;> kernel_rfl
theorem ent_init (P : Params) : (H1 P).nsMap 51 (Str.ofString "__init__") = some (.ref 28) := by kernel_rfl
theorem ent_allow (P : Params) : (H1 P).nsMap 51 (Str.ofString "allowance") = some (.ref 49) := by kernel_rfl
theorem ob_none : ∀ n ∈ [Str.ofString "useragents", Str.ofString "rulelines", Str.ofString "delay", Str.ofString "req_rate", Str.ofString "allowance"], typeLookup (.type "object") n = pure none := by
  intro n hn
  simp only [List.mem_cons, List.not_mem_nil, or_false] at hn
  rcases hn with rfl | rfl | rfl | rfl | rfl <;> (rw [typeLookup_type, builtinLookup_eq_fast]; kernel_rfl)
theorem gd_cls {w : World} {s : Shared} (g : Gd w s) : s.heap.get? 52 = some entCls := g.keep _ _ (by decide) (ent_cls _)
theorem gd_cns {w : World} {s : Shared} (g : Gd w s) : s.heap.Ns 51 ((H1 w.params).nsMap 51) := (Heap.Ns.of_isNs (ent_ns _)).at' fun o e => g.keep _ o (by decide) e
/-- an entry: its list of rules -/
noncomputable def EntAt (h : Heap) (e L : Addr) (rs : List Addr) : Prop :=
  ∃ mA, h.Inst e 52 mA ∧ mA (Str.ofString "rulelines") = some (.ref L) ∧ mA (Str.ofString "allowance") = none ∧ PlainL h L (rs.map Value.ref).toArray
theorem Inst.at {h h' : Heap} {x C : Addr} {m : Str → Option Value} (k : ∀ b o, h.get? b = some o → h'.get? b = some o) (I : h.Inst x C m) : h'.Inst x C m := by
  obtain ⟨o, ho, hc, hnc, hd⟩ := I
  refine ⟨o, k _ _ ho, hc, hnc, hd.imp id ?_⟩
  rintro ⟨d, h1, h2, h3⟩
  exact ⟨d, h1, h2, h3.at fun o e => k _ o e⟩
theorem EntAt.kp {h h' : Heap} {e L : Addr} {rs : List Addr} (k : ∀ b o, h.get? b = some o → h'.get? b = some o) (x : EntAt h e L rs) : EntAt h' e L rs := by
  obtain ⟨mA, h1, h2, h3, h4⟩ := x
  exact ⟨mA, Inst.at k h1, h2, h3, h4.keeps k⟩
/-- an entry all whose objects lie above a mark -/
noncomputable def InstLo (lo : Nat) (h : Heap) (x dx : Addr) (m : Str → Option Value) : Prop := (∃ o, h.get? x = some o ∧ o.cls = .ref 52 ∧ (∀ c, o.data ≠ .cls c) ∧ o.dict = some dx) ∧ lo ≤ x ∧ lo ≤ dx ∧ dx ≠ x ∧ h.Ns1 dx m
theorem InstLo.inst {lo : Nat} {h : Heap} {x dx : Addr} {m : Str → Option Value} (I : InstLo lo h x dx m) : h.Inst x 52 m := by
  obtain ⟨⟨o, ho, hc, hnc, hd⟩, _, _, h1, h2⟩ := I
  exact ⟨o, ho, hc, hnc, .inr ⟨dx, hd, h1, h2⟩⟩
theorem InstLo.at {lo : Nat} {h h' : Heap} {x dx : Addr} {m : Str → Option Value} (I : InstLo lo h x dx m) (k : ∀ b o, h.get? b = some o → h'.get? b = some o) : InstLo lo h' x dx m := by
  obtain ⟨⟨o, ho, hr⟩, h1, h2, h3, h4⟩ := I
  exact ⟨⟨o, k _ _ ho, hr⟩, h1, h2, h3, h4.at fun o e => k _ o e⟩
section
variable {w : World} {A : Around} {s : Shared} {E : Value → Shared → Prop}
theorem setattr_ent {lo : Nat} {x dx : Addr} {m : Str → Option Value} {ns : List Str} {name : Str} {v : Value} {Q : Unit → Shared → Prop} (g : Gd w s) (I : InstLo lo s.heap x dx m) (h52 : x ≠ 52) (hn : (H1 w.params).nsMap 51 name = none) (ho : typeLookup (.type "object") name = pure none) (hw : Within m ns) (hz : ns.length ≤ 10)
    (h : ∀ h' tk, InstLo lo h' x dx (fun y => if y = name then some v else m y) → (∀ b o, b ≠ x → b ≠ dx → s.heap.get? b = some o → h'.get? b = some o) → Q () { s with heap := h', toks := tk }) :
    wpAny (model pg w) A (setAttr (.ref x) name v) Q E s := by
  have hI := I.inst
  obtain ⟨⟨o, hx, hc, hnc, hd⟩, hl1, hl2, hne, hns⟩ := I
  have h1 := gd_cls g
  have h2 := gd_cns g
  obtain ⟨hp, gg, d, t, os⟩ := s
  refine store_attr F.store_object h1 h2 (ent_none _ _ (by simp)) hn ho h52 hI (fun h' tk' I' hk hsame => ?_) hw (by simp only [sizeLine]; omega)
  obtain ⟨o₁, ho₁, hc₁, hd₁, hs₁, hdx⟩ := hsame _ hx
  have ho₁d := hdx dx hd
  refine h h' tk' ⟨?_, hl1, hl2, hne, ?_⟩ fun b o hb hbd e => hk b o hb (fun o₀ d' e₀ e₁ => ?_) e
  · exact ⟨o₁, ho₁, hc₁.trans hc, (by rw [hd₁]; exact hnc), ho₁d⟩
  · obtain ⟨o₂, ho₂, _, _, hd₂⟩ := I'
    rw [ho₁] at ho₂; cases ho₂
    rcases hd₂ with ⟨hd₂, _⟩ | ⟨d₂, hd₂, _, hn₂⟩
    · rw [ho₁d] at hd₂; cases hd₂
    · rw [ho₁d] at hd₂; cases hd₂; exact hn₂
  · rw [show hp.get? x = some _ from hx] at e₀; cases e₀; rw [hd] at e₁; cases e₁; exact hbd
end
section
variable {c : Cx} {ρ : List (Str × PV)}
theorem ent_store {K s s₁ : Shared} {lo : Nat} {x dx : Addr} {m : Str → Option Value} {ns : List Str} {nself name : Str} {p : Pos} {v : Value} {Q : Unit → Shared → Prop} {E : Value → Shared → Prop} (X : Act c K [] ρ s) (hH : c.H = []) (I : InstLo lo s.heap x dx m)
    (hown : ¬ own c [] x ∧ ¬ own c [] dx) (hh1 : (H1 c.w.params).get? x = none ∧ (H1 c.w.params).get? dx = none) (htb : x ≠ tb ∧ dx ≠ tb) (hf : ∀ e ∈ c.fix, e.1 ≠ x ∧ e.1 ≠ dx) (hn : (H1 c.w.params).nsMap 51 name = none) (ho : typeLookup (.type "object") name = pure none) (hw : Within m ns) (hz : ns.length ≤ 10)
    (k₁ : Kp s s₁) (hs : (nself, PV.obj x) ∈ ρ)
    (h : ∀ s₂, Act c s₂ [] ρ s₂ → InstLo lo s₂.heap x dx (fun y => if y = name then some v else m y) → (∀ b o, b ≠ x → b ≠ dx → s₁.heap.get? b = some o → s₂.heap.get? b = some o) → (∃ h' tk, s₂ = { s₁ with heap := h', toks := tk }) → Q () s₂) :
    wpAny (model pg c.w) c.A (eval (.Name nself p) c.env) (fun ov s₂ => wpAny (model pg c.w) c.A (setAttr ov name v) Q E s₂) E s₁ := by
  have X₁ := X.kp k₁
  refine (Ev.name (c := c) (ρ := ρ) (p := .obj x) hs).run s₁ _ _ (X₁.view0 hH) fun ov s₂ k₂ hov => ?_
  obtain rfl : ov = .ref x := hov
  have X₂ := (X₁.kp k₂).here
  have I₂ := (I.at k₁.get).at k₂.get
  have h52 : x ≠ 52 := fun h => by
    have := hh1.1
    rw [h, ent_cls] at this; cases this
  refine setattr_ent X₂.sit.gd I₂ h52 hn ho hw hz fun h' tk I' hk => ?_
  obtain ⟨h2, t2, e2⟩ := k₂.eq
  have X₃ : Act c { s₂ with heap := h', toks := tk } [] ρ { s₂ with heap := h', toks := tk } := by
    have X₂' : Act c { s₂ with heap := (⟨#[], default⟩ : Heap) } [] ρ s₂ := ⟨X₂.sit, X₂.mus, X₂.ns, X₂.cell, X₂.apart, X₂.above, X₂.h1, (fun b o _ e => by simp [Heap.get?] at e), ⟨s₂.heap, s₂.toks, rfl⟩, X₂.fo⟩
    have := X₂'.jump2 (s' := { s₂ with heap := h', toks := tk }) (fun b => b = x ∨ b = dx) (fun b o hb e => hk b o (fun h => hb (.inl h)) (fun h => hb (.inr h)) e) ⟨_, _, rfl⟩ (fun b hb h => hb.elim (fun hb => hown.1 (hb ▸ h)) (fun hb => hown.2 (hb ▸ h))) (fun b hb => hb.elim (fun hb => hb ▸ ⟨hh1.1, htb.1⟩) (fun hb => hb ▸ ⟨hh1.2, htb.2⟩))
      (fun b hb o ho hd hc => hb.elim (fun hb => by
        obtain ⟨o', ho', hc', _⟩ := I₂.1
        rw [hb, ho'] at ho; cases ho
        rw [hc'] at hc; simp at hc) (fun hb => by
        obtain ⟨o', es, ep, e', d', _⟩ := I₂.2.2.2.2
        rw [hb, e'] at ho; cases ho
        obtain ⟨ys, k, hd⟩ := hd
        rw [d'] at hd; cases hd)) (fun e he h => h.elim (hf e he).1 (hf e he).2) (fun a ha => by rw [hH] at ha; cases ha) (fun b _ => by simp [Heap.get?])
    exact this.here
  exact h _ X₃ I' (fun b o hb hbd e => hk b o hb hbd (k₂.get _ _ e)) ⟨h', tk, by rw [e2]⟩
theorem call_entry {n : Nat} {s : Shared} {Q : Value → Shared → Prop} {E : Value → Shared → Prop} (S : Sit c ρ s) (hH : c.H = []) (hN : c.N = n + 2)
    (hQ : ∀ e L s', s.heap.get? e = none → s.heap.get? L = none → Kp s s' → EntAt s'.heap e L [] → (∀ o d, s'.heap.get? e = some o → o.dict = some d → s.heap.get? d = none) → Q (.ref e) s') : wpAny (model pg c.w) c.A (call (.ref 52) []) Q E s := by
  obtain ⟨oI, hoI, hdI⟩ := Option.map_eq_some_iff.mp (init_o c.w.params)
  have hoI' := S.gd.keep _ _ (by decide) hoI
  have hcI : oI.cls = .type "function" := by
    have : ((H1 c.w.params).get? 28).map (·.cls) = some (.type "function") := by kernel_rfl
    rw [hoI] at this; simpa using this
  have h1 := gd_cls S.gd
  have h2 := gd_cns S.gd
  have hs : s = ⟨s.heap, s.gens, s.drawn, s.toks, s.os⟩ := rfl
  rw [hs]
  refine wpAny_call_obj_init F.objNew h1 h2 (ent_init _) hoI' hcI fun h' x dx M => ?_
  have kM : Kp s { s with heap := h' } := .of s M.keeps
  have S₀ := S.keeps kM
  have hfr : (Code.builtin "type.__call__" { pos := [Value.ref 52] }).frames ≤ 10 := by decide +kernel
  have hun : (c.A.under (.builtin "type.__call__" ⟨[.ref 52], []⟩)).units + 50 * (n + 1 + 1) < cLine := by
    have := S.ru; rw [hN] at this
    show c.A.units + _ + 50 * (n + 1 + 1) < cLine
    simp only [Code.cUnits]; omega
  have hdp : (c.A.under (.builtin "type.__call__" ⟨[.ref 52], []⟩)).depth + 8 * (n + 1 + 1) < recursionLimit := by
    have := S.rd; rw [hN] at this
    show c.A.depth + 1 + 8 * (n + 1 + 1) < recursionLimit
    omega
  -- the frame of __init__
  let c' : Cx := { c with A := c.A.under (.builtin "type.__call__" ⟨[.ref 52], []⟩), N := n + 1, H := [] }
  have S' : Sit c' [] { s with heap := h' } := ⟨S₀.gd, (fun a ha => nomatch ha), S₀.fn, S₀.gl, S₀.bl, (fun e he => nomatch he), S₀.hh, hun, hdp, S₀.fx⟩
  obtain ⟨o₀, hx₀, hc₀, hnc₀, hd₀⟩ := M.inst
  have hdx₀ := M.dict _ hx₀
  obtain ⟨d₀, hd₁, hne, hns⟩ : ∃ d, o₀.dict = some d ∧ d ≠ x ∧ h'.Ns1 d _ := hd₀.elim (fun h => by rw [h.1] at hdx₀; cases hdx₀) id
  rw [hdx₀] at hd₁; cases hd₁
  have I₀ : InstLo 0 h' x dx (fun _ => none) := ⟨⟨o₀, hx₀, hc₀, hnc₀, hdx₀⟩, Nat.zero_le _, Nat.zero_le _, hne, hns⟩
  show wpAny (model pg c'.w) c'.A (call (.ref 28) [.ref x]) _ _ _
  refine Cl.enter (c := c') (names := [Str.ofString "self"]) (fd := initFd) (cd := 27) (ps := [.obj x]) (n := n) S' ⟨.ref x, [], rfl, rfl, rfl⟩ rfl rfl init_o (by decide) rfl init_c (by decide) rfl rfl rfl rfl rfl (bind1 rfl (fun _ => rfl))
    (by kernel_rfl) (by decide +kernel) (by kernel_rfl) (by kernel_rfl) (by kernel_rfl) fun s₁ E' X₁ k₁ => ?_
  generalize hcc : c'.call initFd ({ s with heap := h' } : Shared).heap.objs.size 28 = cc at X₁
  have hccH : cc.H = [] := by rw [← hcc]; rfl
  have hccf : cc.fix = c.fix := by rw [← hcc]; rfl
  have hccw : cc.w = c.w := by rw [← hcc]; rfl
  have hcw' : c'.w = cc.w := by rw [hccw]
  rw [hcw']
  have old : ∀ b, (s.heap.get? b = none) → (∃ o, h'.get? b = some o) → ¬ own cc [] b ∧ (H1 cc.w.params).get? b = none ∧ b ≠ tb ∧ ∀ e ∈ cc.fix, e.1 ≠ b := fun b hb ⟨o, ho⟩ => by
    have htb : b ≠ tb := fun h => by
      obtain ⟨o', e⟩ := S.gd.tbe
      rw [← h, hb] at e; cases e
    refine ⟨?_, ?_, htb, fun e he h => ?_⟩
    · have hlt : b < h'.objs.size := Heap.lt_size ho
      rw [← hcc]
      rintro (h | ⟨n', h⟩ | h)
      · rw [h] at hlt; exact Nat.lt_irrefl _ hlt
      · have := X₁.above n' b (by rw [← hcc]; exact mem_of_lookup h)
        rw [← hcc] at this
        exact Nat.lt_irrefl _ (Nat.lt_trans this hlt)
      · simp at h
    · cases g : (H1 cc.w.params).get? b with
      | none => rfl
      | some o' => rw [hccw] at g; rw [S.gd.keep b o' htb g] at hb; cases hb
    · rw [hccf] at he
      have := S.fx e he
      rw [h, hb] at this; cases this
  obtain ⟨xo, xh, xt, xf⟩ := old x M.newX ⟨_, hx₀⟩
  obtain ⟨do_, dh, dt, df⟩ := old dx M.newD (let ⟨o, _, _, e, _⟩ := hns; ⟨o, e⟩)
  have hnone := ent_none cc.w.params
  have hmem : (Str.ofString "self", PV.obj x) ∈ [Str.ofString "self"].zip [PV.obj x] := List.mem_cons_self
  have stp : ∀ {K s s₁ : Shared} {m : Str → Option Value} {ns : List Str} {name : Str} {p : Pos} {v : Value} {Q : Unit → Shared → Prop} {E : Value → Shared → Prop}, Act cc K [] ([Str.ofString "self"].zip [PV.obj x]) s → InstLo 0 s.heap x dx m → (H1 cc.w.params).nsMap 51 name = none → typeLookup (.type "object") name = pure none → Within m ns → ns.length ≤ 10 → Kp s s₁ →
    (∀ s₂, Act cc s₂ [] ([Str.ofString "self"].zip [PV.obj x]) s₂ → InstLo 0 s₂.heap x dx (fun y => if y = name then some v else m y) → (∀ b o, b ≠ x → b ≠ dx → s₁.heap.get? b = some o → s₂.heap.get? b = some o) → (∃ h' tk, s₂ = { s₁ with heap := h', toks := tk }) → Q () s₂) →
    wpAny (model pg cc.w) cc.A (eval (.Name (Str.ofString "self") p) cc.env) (fun ov s₂ => wpAny (model pg cc.w) cc.A (setAttr ov name v) Q E s₂) E s₁ := fun X I hn ho hw hz k h =>
      ent_store X hccH I ⟨xo, do_⟩ ⟨xh, dh⟩ ⟨xt, dt⟩ (fun e he => ⟨xf e he, df e he⟩) hn ho hw hz k hmem h
  have lne : ∀ {h : Heap} {L : Addr} {m : Str → Option Value} {o : Obj}, InstLo 0 h x dx m → h.get? L = some o → o.cls = .type "list" → (∃ ys n, o.data = .seq ys n) → L ≠ x ∧ L ≠ dx := fun {h L m o} I ho hc hd => by
    obtain ⟨⟨o', ho', hc', _⟩, _, _, _, ⟨o₂, es, ep, e₂, d₂, _⟩⟩ := I
    refine ⟨?_, ?_⟩
    · rintro rfl; rw [ho] at ho'; cases ho'; rw [hc] at hc'; cases hc'
    · rintro rfl; rw [ho] at e₂; cases e₂; obtain ⟨ys, n, hd⟩ := hd; rw [hd] at d₂; cases d₂
  show wpAny _ _ (execs (sBody (mth 0)) _) _ _ _
  -- useragents
  refine wpAny_execs_cons (plainObj_wpAny_Assign_Attribute ?_ (by rw [← hcc]; kernel_rfl))
  refine wpAny_List (spliced_nil ⟨by decide, ?_⟩)
  have kp1 : Kp s₁ { s₁ with heap := s₁.heap.push { cls := .type "list", data := .seq ([] : List Value).toArray } } := .of s₁ fun b o e => Heap.get?_push_of_some _ e
  refine stp X₁ (I₀.at k₁.get) (hnone _ (by simp)) (ob_none _ (by simp)) Within.nil (by decide) kp1 fun s₂ X₂ I₂ hk₂ he₂ => ?_
  -- rulelines
  refine wpAny_execs_cons (plainObj_wpAny_Assign_Attribute ?_ (by rw [← hcc]; kernel_rfl))
  refine wpAny_List (spliced_nil ⟨by decide, ?_⟩)
  have kp2 : Kp s₂ { s₂ with heap := s₂.heap.push { cls := .type "list", data := .seq ([] : List Value).toArray } } := .of s₂ fun b o e => Heap.get?_push_of_some _ e
  have hL : (s₂.heap.push { cls := .type "list", data := .seq ([] : List Value).toArray }).get? s₂.heap.objs.size = some { cls := .type "list", data := .seq ([] : List Value).toArray } := Heap.get?_push_size _ rfl
  have hLne := lne (I₂.at kp2.get) hL rfl ⟨_, _, rfl⟩
  refine stp X₂ I₂ (hnone _ (by simp)) (ob_none _ (by simp)) (Within.cons _ _ Within.nil) (by decide) kp2 fun s₃ X₃ I₃ hk₃ he₃ => ?_
  have hL₃ := hk₃ _ _ hLne.1 hLne.2 hL
  -- delay
  refine wpAny_execs_cons (plainObj_wpAny_Assign_Attribute ?_ (by rw [← hcc]; kernel_rfl))
  refine wpAny_Constant_none ?_
  refine stp X₃ I₃ (hnone _ (by simp)) (ob_none _ (by simp)) (Within.cons _ _ (Within.cons _ _ Within.nil)) (by decide) (.refl s₃) fun s₄ X₄ I₄ hk₄ he₄ => ?_
  have hL₄ := hk₄ _ _ hLne.1 hLne.2 hL₃
  -- req_rate
  refine wpAny_execs_cons (plainObj_wpAny_Assign_Attribute ?_ (by rw [← hcc]; kernel_rfl))
  refine wpAny_Constant_none ?_
  refine stp X₄ I₄ (hnone _ (by simp)) (ob_none _ (by simp)) (Within.cons _ _ (Within.cons _ _ (Within.cons _ _ Within.nil))) (by decide) (.refl s₄) fun s₅ X₅ I₅ hk₅ he₅ => ?_
  have hL₅ := hk₅ _ _ hLne.1 hLne.2 hL₄
  refine wpAny_execs_nil ⟨rfl, ?_⟩
  have hall : ∀ b o, s.heap.get? b = some o → s₅.heap.get? b = some o := fun b o e => by
    have hbx : b ≠ x := fun h => by rw [h, M.newX] at e; cases e
    have hbd : b ≠ dx := fun h => by rw [h, M.newD] at e; cases e
    exact hk₅ b o hbx hbd (hk₄ b o hbx hbd (hk₃ b o hbx hbd (kp2.get b o (hk₂ b o hbx hbd (kp1.get b o (k₁.get b o (M.keeps b o e)))))))
  have heq : ∃ h' tk, s₅ = { s with heap := h', toks := tk } := 
    sameS (sameS (sameS (sameS (sameS (sameU _ _ _) k₁.eq) he₂) he₃) he₄) he₅
  refine hQ x s₂.heap.objs.size s₅ M.newX ?_ ⟨hall, heq⟩ ⟨_, I₅.inst, ?_, ?_, ⟨_, 0, hL₅, rfl, rfl, rfl⟩⟩ (fun o d ho hd => by
    obtain ⟨⟨o', ho', _, _, hd'⟩, _⟩ := I₅
    rw [ho] at ho'; cases ho'
    rw [hd] at hd'; cases hd'
    exact M.newD)
  · cases g : s.heap.get? s₂.heap.objs.size with
    | none => rfl
    | some o =>
      have hbx : s₂.heap.objs.size ≠ x := fun h => by rw [h, M.newX] at g; cases g
      have hbd : s₂.heap.objs.size ≠ dx := fun h => by rw [h, M.newD] at g; cases g
      have := hk₂ _ _ hbx hbd (kp1.get _ _ (k₁.get _ _ (M.keeps _ _ g)))
      exact absurd (Heap.lt_size this) (Nat.lt_irrefl _)
  · show (if _ then _ else if _ then _ else if _ then _ else _) = _
    rw [if_neg (by decide +kernel), if_neg (by decide +kernel), if_pos rfl]
  · show (if _ then _ else if _ then _ else if _ then _ else if _ then _ else _) = _
    rw [if_neg (by decide +kernel), if_neg (by decide +kernel), if_neg (by decide +kernel), if_neg (by decide +kernel)]
end

end
section
open PySem PySem.W PyProof.Rows PySem.Calls
set_option Elab.async false
set_option maxRecDepth 100000
set_option maxHeartbeats 0
set_option linter.all false

/-! Entry.allowance -/
structure RuleD where
  r : Addr
  sev : List (List (List Nat))
  w : PV
noncomputable def okW (w : PV) : Bool := flt w && sc w && (match w with | .str x => decide (x.length < 65536) | _ => true)
noncomputable def GoodR (F : List (Addr × Obj)) (d : RuleD) : Prop := RuleFx F d.r d.sev d.w ∧ d.sev.length ≤ 1000 ∧ (∀ p ∈ d.sev, GoodP p) ∧ okW d.w = true
noncomputable def EntFx (F : List (Addr × Obj)) (e L : Addr) (rs : List Addr) : Prop := ∀ h : Heap, (∀ x ∈ F, h.get? x.1 = some x.2) → EntAt h e L rs
noncomputable def allowStep (nm : List Nat) (t : Int × PV) (d : RuleD) : Int × PV :=
  if ruleVal d.sev nm = 0 then t
  else if ruleVal d.sev nm > t.1 then (ruleVal d.sev nm, d.w)
  else if ruleVal d.sev nm = t.1 ∧ truth t.2 = false then (t.1, d.w)
  else t
noncomputable def allowOf (ds : List RuleD) (nm : List Nat) : PV := (ds.foldl (allowStep nm) (-1, .bool true)).2
theorem okW_hand {w : PV} (h : okW w = true) : ∀ v, Rep [] (⟨#[], default⟩ : Heap) w v → handedOut v = pure v := by
  intro v r
  simp only [okW, Bool.and_eq_true] at h
  cases w <;> simp only [flt, sc, Bool.false_eq_true, false_and, and_false] at h <;> simp only [Rep] at r <;> (try obtain ⟨_, rfl⟩ := r) <;> (try subst r) <;> rfl
section
variable {c : Cx} {ρ : List (Str × PV)}
theorem Ev.rulelines {x : Str} {p apos : Pos} {e L : Addr} {rs : List Addr} (hH : c.H = []) (hE : EntFx c.fix e L rs) (hx : Ev c ρ (.Name x p) (.obj e)) (hz : rs.length ≤ 65536) : Ev c ρ (.Attribute (.Name x p) (Str.ofString "rulelines") apos) (.list (rs.map .obj)) := .mk fun s Q E S hQ => by
  rw [arm_eval_Attribute]
  refine wpAny_bind (m := eval (.Name x p) c.env) (hx.run s _ _ S fun ov s₁ k₁ r₁ => ?_)
  obtain rfl : ov = .ref e := r₁
  have S₁ := S.keeps k₁
  obtain ⟨mA, I, h1, h2, h3⟩ := hE s₁.heap S₁.fx
  have hc := gd_cls S₁.gd
  have hn := gd_cns S₁.gd
  have hnone := ent_none c.w.params
  obtain ⟨hp, gg, d, t, os⟩ := s₁
  refine wpAny_bind (wpAny_standAt (wpAny_bind (wpAny_holding (load_attr hc hn (hnone _ (by simp)) (hnone _ (by simp)) (ob_none _ (by simp)) I h1 rfl ?_))))
  refine wpAny_bind (wpAny_of_eq (a := ()) rfl (wpAny_pure ?_))
  have k₂ : Kp (⟨hp, gg, d, t, os⟩ : Shared) ⟨hp, gg, d, t + 1, os⟩ := .tok _ _
  refine hQ _ _ (k₁.trans k₂) ⟨L, _, rfl, by rw [hH]; simp, h3.isList, by simp; omega, ?_⟩
  have : ∀ l : List Addr, Reps c.H hp (l.map .obj) (l.map Value.ref) := fun l => by
    induction l with
    | nil => rfl
    | cons a l ih => exact ⟨_, _, rfl, rfl, ih⟩
  simpa using this rs
theorem cl_allow {n : Nat} (hH : c.H = []) (hN : c.N = n + 3) {e L : Addr} {ds : List RuleD} {nm : List Nat} (hz : nm.length ≤ 1000) (hd : ds.length ≤ 1000) (hE : EntFx c.fix e L (ds.map (·.r))) (hR : ∀ d ∈ ds, GoodR c.fix d) :
    Cl c ρ (.ref 49) [.obj e, .str nm] (allowOf ds nm) := by
  refine Cl.fn (names := [Str.ofString "self", Str.ofString "filename"]) (fd := allowFd) (cd := 48) hH hN allow_o (by decide) rfl allow_c (by decide) rfl rfl rfl rfl rfl (bind2 rfl (fun _ _ => rfl))
    (by kernel_rfl) (by decide +kernel) (by kernel_rfl) (by kernel_rfl) (by kernel_rfl) (ρ₀ := [(Str.ofString "self", .obj e), (Str.ofString "filename", .str nm)]) rfl (fun Lf K => ?_)
  have hN' : (c.call allowFd Lf 49).N = n + 2 := by show c.N - 1 = _; omega
  have hfx : (c.call allowFd Lf 49).fix = c.fix := rfl
  apply B0.let rfl (p := .int (-1))
  case hok => kernel_rfl
  case hx => kernel_rfl
  case hs => kernel_rfl
  case he => exact Ev.neg Ev.cint
  case k =>
    apply B0.let rfl (p := .bool true)
    case hok => kernel_rfl
    case hx => kernel_rfl
    case hs => kernel_rfl
    case he => walk_at "step"
    case k =>
      apply B0.for (σ := Int × PV) (bb := false) (ys := (ds.map (·.r)).map .obj) (fun i t => t = (ds.take i).foldl (allowStep nm) (-1, .bool true) ∧ okW t.2 = true) (fun t => [(Str.ofString "allowance", t.2), (Str.ofString "best_match", .int t.1), (Str.ofString "self", .obj e), (Str.ofString "filename", .str nm)]) (-1, .bool true) rfl (by intro v; kernel_rfl) (by kernel_rfl)
      · apply It.list
        apply Ev.rulelines (c := c.call allowFd Lf 49) rfl hE
        · walk_at "step"
        · simp; omega
      · exact ⟨rfl, rfl⟩
      · exact fun _ h => h
      · intro t; kernel_rfl
      · intro i y t K' hy hI
        have hi : i < ds.length := by
          have := (List.getElem?_eq_some_iff.mp hy).1; simpa using this
        obtain rfl : y = .obj (ds[i]).r := by
          have := (List.getElem?_eq_some_iff.mp hy).2; simpa using this.symm
        obtain ⟨hR1, hR2, hR3, hR4⟩ := hR ds[i] (List.getElem_mem hi)
        have hnext : allowStep nm t ds[i] = (ds.take (i + 1)).foldl (allowStep nm) (-1, .bool true) := by
          rw [hI.1, List.take_add_one, List.getElem?_eq_getElem hi, List.foldl_append]; rfl
        have hokt : okW (allowStep nm t ds[i]).2 = true := by
          unfold allowStep
          split
          · exact hI.2
          · split
            · exact hR4
            · split
              · exact hR4
              · exact hI.2
        have hflt : flt ds[i].w = true := by simp only [okW, Bool.and_eq_true] at hR4; exact hR4.1.1
        have hword : ∀ (ρ' : List (Str × PV)) (p q : Pos), (Str.ofString "line", PV.obj (ds[i]).r) ∈ ρ' → Ev (c.call allowFd Lf 49) ρ' (.Attribute (.Name (Str.ofString "line") p) (Str.ofString "allowance") q) ds[i].w := fun ρ' p q hm =>
          Ev.word (c := c.call allowFd Lf 49) rfl hR1 (Ev.name hm) (okW_hand hR4) hflt
        have fin : ∀ (s : Shared) (ρ' : List (Str × PV)) (t' : Int × PV), t' = allowStep nm t ds[i] → Act (c.call allowFd Lf 49) K' [] ρ' s → (∀ e' ∈ [(Str.ofString "allowance", t'.2), (Str.ofString "best_match", PV.int t'.1), (Str.ofString "self", .obj e), (Str.ofString "filename", .str nm)], e' ∈ ρ') →
            ∃ t', (t' = (ds.take (i + 1)).foldl (allowStep nm) (-1, .bool true) ∧ okW t'.2 = true) ∧ Act (c.call allowFd Lf 49) K' [] [(Str.ofString "allowance", t'.2), (Str.ofString "best_match", PV.int t'.1), (Str.ofString "self", .obj e), (Str.ofString "filename", .str nm)] s := fun s ρ' t' ht X hsub =>
          ⟨t', ⟨by rw [ht, hnext], by rw [ht]; exact hokt⟩, X.weak hsub⟩
        apply B0.let rfl (p := .int (ruleVal ds[i].sev nm))
        case hok => kernel_rfl
        case hx => kernel_rfl
        case hs => kernel_rfl
        case he =>
          apply Ev.applies (c := c.call allowFd Lf 49) rfl hN' hz hR2 hR3 hR1
          · kernel_rfl
          · kernel_rfl
          · walk_at "step"
          · walk_at "step"
        case k =>
          apply B0.ite rfl (b := truth (.int (ruleVal ds[i].sev nm)))
          case ht =>
            refine Tr.of_ev ?_ ?_ ?_
            · walk_at "step"
            · rfl
            · kernel_rfl
          case h2 =>
            intro hb
            have hb : ruleVal ds[i].sev nm = 0 := by simpa [truth_i] using hb
            apply Bd.cont
            apply Bd.nil
            intro s X
            exact fin s _ t (by rw [allowStep, if_pos hb]) X (by walk_at "sub")
          case h1 =>
            intro hb
            have hb : ¬ ruleVal ds[i].sev nm = 0 := by simpa [truth_i] using hb
            apply B0.ite rfl (b := decide (t.1 < ruleVal ds[i].sev nm))
            case ht =>
              apply Tr.cmp
              · walk_at "step"
              · walk_at "step"
              · exact Cm.gt_int
              · kernel_rfl
            case h1 =>
              intro hg
              have hg : ruleVal ds[i].sev nm > t.1 := of_decide_eq_true hg
              apply B0.set (p := .int (ruleVal ds[i].sev nm)) [(Str.ofString "m", .int (ruleVal ds[i].sev nm)), (Str.ofString "line", .obj (ds[i]).r), (Str.ofString "allowance", t.2), (Str.ofString "self", .obj e), (Str.ofString "filename", .str nm)] rfl
              case hok => kernel_rfl
              case hx => kernel_rfl
              case hs => kernel_rfl
              case hsub => walk_at "sub"
              case he => walk_at "step"
              case k =>
                apply B0.set (p := ds[i].w) [(Str.ofString "best_match", .int (ruleVal ds[i].sev nm)), (Str.ofString "self", .obj e), (Str.ofString "filename", .str nm)] rfl
                case hok => kernel_rfl
                case hx => kernel_rfl
                case hs => kernel_rfl
                case hsub => walk_at "sub"
                case he => apply hword; walk_at "mem"
                case k =>
                  apply Bd.cont
                  apply Bd.cont
                  apply Bd.nil
                  intro s X
                  exact fin s _ (ruleVal ds[i].sev nm, ds[i].w) (by rw [allowStep, if_neg hb, if_pos hg]) X (by walk_at "sub")
            case h2 =>
              intro hg
              have hg : ¬ ruleVal ds[i].sev nm > t.1 := of_decide_eq_false hg
              apply B0.ite rfl (b := (ruleVal ds[i].sev nm == t.1) && (!(truth t.2) && true))
              case ht =>
                apply Tr.and
                · apply Tr.eq
                  · apply Tr.cmp
                    · walk_at "step"
                    · walk_at "step"
                    · exact Cm.eq_sc rfl rfl
                    · kernel_rfl
                  · rfl
                · intro _
                  apply Tr.and
                  · apply Tr.not
                    refine Tr.of_ev ?_ ?_ ?_
                    · walk_at "step"
                    · have := hI.2
                      simp only [okW, Bool.and_eq_true] at this
                      rw [this.1.2, Bool.true_and]
                      have h2 := this.2
                      revert h2
                      cases t.2 with
                      | str x => exact fun h2 => decide_eq_true (Nat.lt_trans (of_decide_eq_true h2) (by decide))
                      | _ => exact fun _ => rfl
                    · kernel_rfl
                  · intro _; exact Tr.and_nil
              case h1 =>
                intro hq
                simp only [Bool.and_true, Bool.and_eq_true, beq_iff_eq, Bool.not_eq_true'] at hq
                apply B0.set (p := ds[i].w) [(Str.ofString "best_match", .int t.1), (Str.ofString "self", .obj e), (Str.ofString "filename", .str nm)] rfl
                case hok => kernel_rfl
                case hx => kernel_rfl
                case hs => kernel_rfl
                case hsub => walk_at "sub"
                case he => apply hword; walk_at "mem"
                case k =>
                  apply Bd.cont
                  apply Bd.cont
                  apply Bd.cont
                  apply Bd.nil
                  intro s X
                  exact fin s _ (t.1, ds[i].w) (by rw [allowStep, if_neg hb, if_neg hg, if_pos hq]) X (by walk_at "sub")
              case h2 =>
                intro hq
                have hq : ¬ (ruleVal ds[i].sev nm = t.1 ∧ truth t.2 = false) := fun ⟨h1, h2⟩ => by
                  simp [h1, h2] at hq
                apply Bd.cont
                apply Bd.cont
                apply Bd.cont
                apply Bd.nil
                intro s X
                exact fin s _ t (by rw [allowStep, if_neg hb, if_neg hg, if_neg hq]) X (by walk_at "sub")
      · intro t hI
        rw [List.length_map, List.length_map, List.take_length] at hI
        have ht : allowOf ds nm = t.2 := by rw [allowOf, hI.1]
        rw [ht]
        apply B0.fin rfl
        walk_at "step"
end

end
section
open PySem PySem.W PyProof.Rows PySem.Calls PySem.Builtin
set_option Elab.async false
set_option maxRecDepth 100000
set_option linter.all false
section
variable {c : Cx} {ρ : List (Str × PV)}
theorem fn_cls49 (P : Params) : ((H1 P).get? 49).map (·.cls) = some (.type "function") := by kernel_rfl
/-- an entry's verdict -/
theorem Ev.allowM {n : Nat} {x : Str} {p apos pos : Pos} {e : Expr} {ent L : Addr} {ds : List RuleD} {nm : List Nat} (hH : c.H = []) (hN : c.N = n + 3) (hz : nm.length ≤ 1000) (hd : ds.length ≤ 1000) (hE : EntFx c.fix ent L (ds.map (·.r))) (hR : ∀ d ∈ ds, GoodR c.fix d)
    (hline : (apos.endLine == pos.line) = true) (hst : starEach [e] c.env = [(false, eval e c.env)]) (hx : Ev c ρ (.Name x p) (.obj ent)) (he : Ev c ρ e (.str nm)) :
    Ev c ρ (.Call (.Attribute (.Name x p) (Str.ofString "allowance") apos) [e] [] pos) (allowOf ds nm) := .mk fun s Q E S hQ => by
  rw [arm_eval_Call]
  refine wpAny_bind (m := eval (.Name x p) c.env) (hx.run s _ _ S fun ov s₁ k₁ r₁ => ?_)
  obtain rfl : ov = .ref ent := r₁
  have S₁ := S.keeps k₁
  obtain ⟨mA, I, h1, h2, h3⟩ := hE s₁.heap S₁.fx
  have hc := gd_cls S₁.gd
  have hn := gd_cns S₁.gd
  have hnone := ent_none c.w.params
  obtain ⟨of, hof, hdf⟩ := Option.map_eq_some_iff.mp (allow_o c.w.params)
  have hof' := S₁.gd.keep _ _ (by decide) hof
  have hcf : of.cls = .type "function" := by
    have := fn_cls49 c.w.params
    rw [hof] at this; simpa using this
  refine wpAny_bind (wpAny_standAt ?_)
  have hform : methodCallForm ([e].length + ([] : List Keyword).length) (backTo pos (starEach [e] c.env)) (backToKw pos (keywordEach [] c.env)) = true := by rw [hst]; rfl
  have hpos : methodCallPos true (.Name x p) c.env apos pos = pure pos := by unfold methodCallPos; simp [hline]
  unfold methodCall
  rw [hform]
  have hs : s₁ = ⟨s₁.heap, s₁.gens, s₁.drawn, s₁.toks, s₁.os⟩ := rfl
  refine wpAny_bind (wpAny_holding ?_)
  rw [hs]
  refine method_of hc hn (hnone _ (by simp)) (hnone _ (by simp)) (ent_allow _) hof' hcf (ob_none _ (by simp)) I h2 ?_
  refine wpAny_bind (wpAny_of_eq hpos ?_)
  refine callWith_function (o := of) (fd := allowFd) (evalArgs_row (Evs.cons he Evs.nil hst) S₁ hst fun vs s₃ k₃ r₃ => ?_)
  obtain ⟨av, _, rfl, hav, rfl⟩ := r₃
  refine ⟨⟨(S₁.keeps k₃).gd.keep _ _ (by decide) hof, hdf⟩, ?_⟩
  exact (cl_allow (ρ := ρ) hH hN hz hd hE hR).run s₃ _ _ [.ref ent, av] (S₁.keeps k₃) ⟨.ref ent, _, rfl, rfl, av, _, rfl, hav, rfl⟩ fun u s' k' hu => hQ u s' ((k₁.trans k₃).trans k') hu

/-! the same place, other things that stand fixed -/
noncomputable abbrev Cx.fx (c : Cx) (F : List (Addr × Obj)) : Cx := { c with fix := F }
theorem Act.refix {K s : Shared} {μ : List Mu} {F F' : List (Addr × Obj)} (X : Act (c.fx F) K μ ρ s) (h : ∀ e ∈ F', s.heap.get? e.1 = some e.2) (hn : ∀ e ∈ F', ¬ own c μ e.1) : Act (c.fx F') K μ ρ s :=
  ⟨⟨X.sit.gd, X.sit.hid, X.sit.fn, X.sit.gl, X.sit.bl, X.sit.vars, X.sit.hh, X.sit.ru, X.sit.rd, h⟩, X.mus, X.ns, X.cell, X.apart, X.above, X.h1, X.keep, X.same, hn⟩
/-- other words for what the names stand for -/
theorem Act.revar {K s : Shared} {ρ' : List (Str × PV)} (X : Act c K [] ρ s) (hH : c.H = []) (h : ∀ e ∈ ρ', ∃ p, (e.1, p) ∈ ρ ∧ ∀ v, Rep [] s.heap p v → Rep [] s.heap e.2 v) : Act c K [] ρ' s := by
  have e0 : (c.hide []).H = [] := by unfold Cx.hide; rw [hH]; rfl
  refine ⟨⟨X.sit.gd, X.sit.hid, X.sit.fn, X.sit.gl, X.sit.bl, fun e he => ?_, X.sit.hh, X.sit.ru, X.sit.rd, X.sit.fx⟩, X.mus, X.ns, X.cell, X.apart, X.above, X.h1, X.keep, X.same, X.fo⟩
  obtain ⟨p, hp, hr⟩ := h e he
  obtain ⟨v, h1, h2⟩ := X.sit.vars (e.1, p) hp
  rw [e0] at h2
  refine ⟨v, h1, ?_⟩
  rw [e0]
  exact hr v h2
mutual
noncomputable def dis (em : Bool) : PV → Bool
  | .list xs => (match xs with | [] => false | x :: _ => em || sc x) && diss em xs
  | .tup _ => false
  | _ => true
noncomputable def diss (em : Bool) : List PV → Bool
  | [] => true
  | x :: xs => dis em x && diss em xs
end
mutual
theorem dis_ne {em : Bool} {H : List Addr} {h : Heap} {D : Addr} {o : Obj} {its : Array Value} {k : Nat} (hD : h.get? D = some o) (hd : o.data = .seq its k) (hem : em = true → its = #[]) (hel : em = false → its = #[] ∨ ∃ a, its[0]? = some (.ref a)) : ∀ (p : PV) (v : Value), dis em p = true → Rep H h p v → Rep (D :: H) h p v
  | .none, _, _, r => r
  | .bool _, _, _, r => r
  | .int _, _, _, r => r
  | .str _, _, _, r => r
  | .obj _, _, _, r => r
  | .tup _, _, hp, _ => by simp [dis] at hp
  | .list xs, v, hp, r => by
    obtain ⟨a, items, e, ha, ⟨o', ho', hc', n', hd'⟩, hz, hr⟩ := r
    simp only [dis, Bool.and_eq_true] at hp
    have hne : a ≠ D := by
      rintro rfl
      rw [hD] at ho'; cases ho'
      rw [hd] at hd'; cases hd'
      cases xs with
      | nil => simp at hp
      | cons x xs =>
        obtain ⟨u, us, eu, hu, hus⟩ := hr
        cases em with
        | true => rw [hem rfl] at eu; simp at eu
        | false =>
          rcases hel rfl with h0 | ⟨b, hb⟩
          · rw [h0] at eu; simp at eu
          have : its.toList[0]? = some (Value.ref b) := by simpa using hb
          rw [eu] at this
          simp only [List.getElem?_cons_zero, Option.some.injEq] at this
          subst this
          have hsx : sc x = true := by simpa using hp.1
          exact nomatch (ScV.of hsx hu)
    exact ⟨a, items, e, fun m => (List.mem_cons.mp m).elim hne ha, ⟨o', ho', hc', n', hd'⟩, hz, diss_ne hD hd hem hel xs _ hp.2 hr⟩
theorem diss_ne {em : Bool} {H : List Addr} {h : Heap} {D : Addr} {o : Obj} {its : Array Value} {k : Nat} (hD : h.get? D = some o) (hd : o.data = .seq its k) (hem : em = true → its = #[]) (hel : em = false → its = #[] ∨ ∃ a, its[0]? = some (.ref a)) : ∀ (ps : List PV) (vs : List Value), diss em ps = true → Reps H h ps vs → Reps (D :: H) h ps vs
  | [], _, _, r => r
  | p :: ps, _, hp, r => by
    obtain ⟨u, us, e, h1, h2⟩ := r
    simp only [diss, Bool.and_eq_true] at hp
    exact ⟨u, us, e, dis_ne hD hd hem hel p u hp.1 h1, diss_ne hD hd hem hel ps us hp.2 h2⟩
end
/-- a list that stands fixed is written: the names keep what is not that list -/
theorem Act.jumpL {K s s' : Shared} {F F' : List (Addr × Obj)} {ρ' : List (Str × PV)} {em : Bool} {D : Addr} {o : Obj} {its : Array Value} {k : Nat} (X : Act (c.fx F) K [] ρ s) (hH : c.H = []) (hD : s.heap.get? D = some o) (hd : o.data = .seq its k) (hem : em = true → its = #[]) (hel : em = false → its = #[] ∨ ∃ a, its[0]? = some (.ref a))
    (hk : ∀ b o, b ≠ D → s.heap.get? b = some o → s'.heap.get? b = some o) (heq : ∃ h' tk, s' = { s with heap := h', toks := tk }) (hown : ¬ own c [] D) (hh1 : (H1 c.w.params).get? D = none ∧ D ≠ tb) (hK : K.heap.get? D = none)
    (hsub : ∀ e ∈ ρ', e ∈ ρ ∧ dis em e.2 = true) (hF : ∀ e ∈ F', s'.heap.get? e.1 = some e.2) (hFo : ∀ e ∈ F', ¬ own c [] e.1) : Act (c.fx F') K [] ρ' s' := by
  obtain ⟨h', tk, rfl⟩ := heq
  have e0 : ((c.fx F).hide []).H = [] := by show [] ++ c.H = []; rw [hH]; rfl
  have e1 : ((c.fx F').hide []).H = [] := by show [] ++ c.H = []; rw [hH]; rfl
  have hL : c.env.locals ≠ D := fun h => hown (.inl h.symm)
  have hC : ∀ n a, c.env.cells.lookup n = some a → a ≠ D := fun n a h e => hown (.inr (.inl ⟨n, e ▸ h⟩))
  have hcell : ∀ n a v, c.env.cells.lookup n = some a → s.heap.IsCell a v → h'.IsCell a v := fun n a v h ⟨o, ho, hd⟩ => ⟨o, hk a o (hC n a h) ho, hd⟩
  refine ⟨⟨⟨let ⟨o, e⟩ := X.sit.gd.tbe; ⟨o, hk _ _ hh1.2.symm e⟩, fun b o hb e => hk b o (fun h => by rw [h, show (H1 ((c.fx F').hide []).w.params).get? D = none from hh1.1] at e; cases e) (X.sit.gd.keep b o hb e)⟩, (fun a ha => by rw [e1] at ha; cases ha), X.sit.fn, X.sit.gl, X.sit.bl, fun e he => ?_, X.sit.hh, X.sit.ru, X.sit.rd, hF⟩,
    (fun e he => nomatch he), ?_, fun n a h => ?_, X.apart, X.above, X.h1, (fun b o hb e => hk b o (fun h => by rw [h, hK] at e; cases e) (X.keep b o hb e)), ?_, hFo⟩
  · obtain ⟨hm, hdis⟩ := hsub e he
    obtain ⟨v, h1, h2⟩ := X.sit.vars e hm
    rw [e0] at h2
    have h3 := dis_ne hD hd hem hel e.2 v hdis h2
    have h4 : Rep [D] h' e.2 v := Rep.sk (fun b o hb _ e => hk b o (fun h => hb (by simp [h])) e) _ _ h3
    refine ⟨v, ⟨h1.1, ?_⟩, by rw [e1]; exact Rep.less (H := []) (H' := [D]) (fun a ha => nomatch ha) _ _ h4⟩
    rcases h1.2 with ⟨g1, m, hn, hm⟩ | ⟨g1, a, ha, hc⟩ | ⟨g1, g2, a, ha, hc⟩
    · exact .inl ⟨g1, m, hn.at' fun o e => hk _ o hL e, hm⟩
    · exact .inr (.inl ⟨g1, a, ha, hcell _ _ _ ha hc⟩)
    · exact .inr (.inr ⟨g1, g2, a, ha, hcell _ _ _ ha hc⟩)
  · obtain ⟨m, hm⟩ := X.ns
    exact ⟨m, hm.at' fun o e => hk _ o hL e⟩
  · obtain ⟨v, hv⟩ := X.cell n a h
    exact ⟨v, hcell _ _ _ h hv⟩
  · exact sameS X.same (sameU _ _ _)
end

end
section
open PySem PySem.W PyProof.Rows PySem.Calls PySem.Builtin
set_option Elab.async false
set_option maxRecDepth 100000
set_option linter.all false
mutual
theorem Rep.fixH {H : List Addr} {h : Heap} : ∀ (p : PV) (v : Value), Rep H h p v → ∃ F : List (Addr × Obj), (∀ e ∈ F, h.get? e.1 = some e.2 ∧ e.1 ∉ H ∧ ∃ ys n, e.2.data = .seq ys n) ∧ ∀ h' : Heap, (∀ e ∈ F, h'.get? e.1 = some e.2) → Rep H h' p v
  | .none, v, x => ⟨[], (fun e he => nomatch he), fun _ _ => x⟩
  | .bool _, v, x => ⟨[], (fun e he => nomatch he), fun _ _ => x⟩
  | .int _, v, x => ⟨[], (fun e he => nomatch he), fun _ _ => x⟩
  | .str _, v, x => ⟨[], (fun e he => nomatch he), fun _ _ => x⟩
  | .obj _, v, x => ⟨[], (fun e he => nomatch he), fun _ _ => x⟩
  | .list xs, v, x => by
    obtain ⟨a, items, e, ha, ⟨o, ho, hc, n, hd⟩, hz, hr⟩ := x
    obtain ⟨F, h1, h2⟩ := Reps.fixH xs _ hr
    refine ⟨(a, o) :: F, fun e he => ?_, fun h' hh => ⟨a, items, e, ha, ⟨o, hh (a, o) List.mem_cons_self, hc, n, hd⟩, hz, h2 h' fun e he => hh e (List.mem_cons_of_mem _ he)⟩⟩
    rcases List.mem_cons.mp he with rfl | he
    · exact ⟨ho, ha, _, _, hd⟩
    · exact h1 e he
  | .tup xs, v, x => by
    obtain ⟨a, items, e, ha, ⟨o, ho, hc, n, hd⟩, hz, hr⟩ := x
    obtain ⟨F, h1, h2⟩ := Reps.fixH xs _ hr
    refine ⟨(a, o) :: F, fun e he => ?_, fun h' hh => ⟨a, items, e, ha, ⟨o, hh (a, o) List.mem_cons_self, hc, n, hd⟩, hz, h2 h' fun e he => hh e (List.mem_cons_of_mem _ he)⟩⟩
    rcases List.mem_cons.mp he with rfl | he
    · exact ⟨ho, ha, _, _, hd⟩
    · exact h1 e he
theorem Reps.fixH {H : List Addr} {h : Heap} : ∀ (p : List PV) (v : List Value), Reps H h p v → ∃ F : List (Addr × Obj), (∀ e ∈ F, h.get? e.1 = some e.2 ∧ e.1 ∉ H ∧ ∃ ys n, e.2.data = .seq ys n) ∧ ∀ h' : Heap, (∀ e ∈ F, h'.get? e.1 = some e.2) → Reps H h' p v
  | [], v, x => ⟨[], (fun e he => nomatch he), fun _ _ => x⟩
  | p :: ps, v, x => by
    obtain ⟨u, r, e, h1, h2⟩ := x
    obtain ⟨F, f1, f2⟩ := Rep.fixH p u h1
    obtain ⟨G, g1, g2⟩ := Reps.fixH ps r h2
    refine ⟨F ++ G, fun e he => ?_, fun h' hh => ⟨u, r, e, f2 h' fun e he => hh e (List.mem_append_left _ he), g2 h' fun e he => hh e (List.mem_append_right _ he)⟩⟩
    rcases List.mem_append.mp he with he | he
    · exact f1 e he
    · exact g1 e he
end
section
variable {c : Cx} {K : Shared} {ρ : List (Str × PV)} {Q : Flow → Shared → Prop} {F : List (Addr × Obj)}
theorem Act.notseq {s : Shared} (X : Act c K [] ρ s) {b : Addr} {o : Obj} (ho : s.heap.get? b = some o) (hd : ∃ ys n, o.data = .seq ys n) : ¬ own c [] b := by
  obtain ⟨ys, k, hd⟩ := hd
  rintro (h | ⟨n, h⟩ | h)
  · obtain ⟨m, o', es, ep, g, d, _⟩ := X.ns
    rw [h] at ho; rw [ho] at g; cases g
    rw [d] at hd; cases hd
  · obtain ⟨v, o', g, d⟩ := X.cell n b h
    rw [ho] at g; cases g
    rw [d] at hd; cases hd
  · simp at h
/-- made since the frame's base -/
structure NewAt (c : Cx) (K : Shared) (D : Addr) : Prop where
  own : ¬ own c [] D
  h1 : (H1 c.w.params).get? D = none
  tb : D ≠ tb
  base : K.heap.get? D = none
theorem Act.newAt {s : Shared} (X : Act (c.fx F) K [] ρ s) {D : Addr} (h : s.heap.get? D = none) : NewAt c K D := by
  have htb : D ≠ tb := fun h' => by
    obtain ⟨o, e⟩ := X.sit.gd.tbe
    rw [← h', show s.heap.get? D = none from h] at e; cases e
  have hown : ¬ own c [] D := by
    rintro (h' | ⟨n, h'⟩ | h')
    · obtain ⟨m, o, es, ep, g, _⟩ := X.ns
      rw [show (c.fx F).env.locals = c.env.locals from rfl, ← h', h] at g; cases g
    · obtain ⟨v, o, g, _⟩ := X.cell n D h'
      rw [h] at g; cases g
    · simp at h'
  refine ⟨hown, ?_, htb, ?_⟩
  · cases g : (H1 c.w.params).get? D with
    | none => rfl
    | some o =>
      have := X.sit.gd.keep D o htb g
      rw [show s.heap.get? D = none from h] at this; cases this
  · cases g : K.heap.get? D with
    | none => rfl
    | some o =>
      have := X.keep D o hown g
      rw [h] at this; cases this
noncomputable def PlainO (o : Obj) (its : Array Value) : Prop := o.cls = .type "list" ∧ o.dict = none ∧ ∃ n, o.data = .seq its n
/-- an empty list that will be written, in a name -/
theorem B0.letF {x : Str} {px lp pos : Pos} {rest : List Stmt} (hH : c.H = []) (hok : stOk c.env x = true) (hx : (ρ.map (·.1)).contains x = false) (hs : swapsWith (.List [] lp) (some (.Name x px)) pos.line c.env = pure false)
    (k : ∀ D o, NewAt c K D → PlainO o #[] → Bd (c.fx ((D, o) :: F)) K [] ((x, .obj D) :: ρ) rest Q) : Bd (c.fx F) K [] ρ (.Assign [.Name x px] (.List [] lp) pos :: rest) Q :=
  Bd.seq fun s E X => wpAny_Assign_Name (wpAny_List (spliced_nil ⟨by decide, by
    have hnew := X.newAt (D := s.heap.objs.size) (get_ge (Nat.le_refl _))
    have kp : Kp s { s with heap := s.heap.push { cls := .type "list", data := .seq ([] : List Value).toArray } } := .of s fun b o e => Heap.get?_push_of_some _ e
    have X₁ : Act (c.fx ((s.heap.objs.size, { cls := .type "list", data := .seq ([] : List Value).toArray }) :: F)) K [] ρ _ := (X.kp kp).refix (fun e he => by
      rcases List.mem_cons.mp he with rfl | he
      · exact Heap.get?_push_size _ rfl
      · exact kp.get _ _ (X.sit.fx e he)) (fun e he => by
      rcases List.mem_cons.mp he with rfl | he
      · exact hnew.own
      · exact X.fo e he)
    exact X₁.store (p := .obj s.heap.objs.size) rfl hok (fun _ h => h) hx fun s' X' E' => (k _ _ hnew ⟨rfl, rfl, 0, rfl⟩).run s' E' X'⟩)) hs
/-- append to a list that stands fixed -/
theorem B0.appF {em : Bool} {x : Str} {xp apos pos pos' : Pos} {D : Addr} {o : Obj} {its : Array Value} {e : Expr} {rest : List Stmt} {p : PV} (r : List (Str × PV)) (hH : c.H = []) (hm : (x, PV.obj D) ∈ ρ) (hn : NewAt c K D) (ho : PlainO o its) (hline : (apos.endLine == pos.line) = true)
    (htr : ∀ pos, backTo pos (starEach [e] c.env) = [(false, eval e c.env)]) (hint : interactive c.env = false) (hem : em = true → its = #[]) (hel : em = false → its = #[] ∨ ∃ a, its[0]? = some (.ref a)) (hz : its.size + 1 ≤ 65536)
    (he : Ev (c.fx ((D, o) :: F)) ρ e p) (hp : dis em p = true) (hsub : ∀ e ∈ r, e ∈ ρ ∧ dis em e.2 = true) (hF : ∀ e ∈ F, e.1 ≠ D)
    (k : ∀ v o' G, PlainO o' (its.push v) → (∀ h : Heap, (∀ e ∈ G, h.get? e.1 = some e.2) → Rep [] h p v) → (∀ e ∈ G, e.1 ≠ D ∧ ∃ ys n, e.2.data = .seq ys n) → Bd (c.fx ((D, o') :: (G ++ F))) K [] r rest Q) :
    Bd (c.fx ((D, o) :: F)) K [] ρ (.Expr (.Call (.Attribute (.Name x xp) (Str.ofString "append") apos) [e] [] pos) pos' :: rest) Q := Bd.seq fun s E X => by
  have S := X.view0 hH
  refine wpAny_Expr (wpAny_Call_append rfl (by rw [htr]; rfl) hline (htr _) ((Ev.name hm).run s _ _ S fun ov s₀ k₀ r₀ => ?_)) hint
  obtain rfl : ov = .ref D := r₀
  have X₀ := X.kp k₀
  obtain ⟨hc, hd, n, hdt⟩ := ho
  have hD₀ : s₀.heap.get? D = some o := X₀.sit.fx (D, o) List.mem_cons_self
  refine ⟨D, its, rfl, ⟨o, n, hD₀, hc, hd, hdt⟩, he.run s₀ _ _ (X₀.view0 hH) fun v s₁ k₁ r₁ => ?_⟩
  have X₁ := X₀.kp k₁
  have hD₁ : s₁.heap.get? D = some o := X₁.sit.fx (D, o) List.mem_cons_self
  refine list_append_plainL ⟨o, n, hD₁, hc, hd, hdt⟩ (fun h' hl' hs' => ?_) (by simp [sizeLine]; omega)
  obtain ⟨o', n', ho', hc', hd', hdt'⟩ := hl'
  have r₁ : Rep [] s₁.heap p v := by rw [show (c.fx ((D, o) :: F)).H = c.H from rfl, hH] at r₁; exact r₁
  have r₂ := dis_ne hD₁ hdt hem hel p v hp r₁
  have hk : ∀ b o, b ≠ D → s₁.heap.get? b = some o → h'.get? b = some o := fun b o hb e => (hs'.2 b hb).trans e
  have r₃ : Rep [D] h' p v := Rep.sk (fun b o hb _ e => hk b o (fun h => hb (by simp [h])) e) _ _ r₂
  obtain ⟨G, g, g2'⟩ := Rep.fixH p v r₃
  have g1 : ∀ e ∈ G, h'.get? e.1 = some e.2 := fun e he => (g e he).1
  have g3 : ∀ e ∈ G, e.1 ≠ D := fun e he h => (g e he).2.1 (by simp [h])
  have g4 : ∀ e ∈ G, ¬ own c [] e.1 := fun e he => X₁.notseq (by rw [← hs'.2 _ (g3 e he)]; exact g1 e he) (g e he).2.2
  have g2 : ∀ h : Heap, (∀ e ∈ G, h.get? e.1 = some e.2) → Rep [] h p v := fun h hh => Rep.less (H := []) (H' := [D]) (fun a ha => nomatch ha) _ _ (g2' h hh)
  have X₂ : Act (c.fx ((D, o') :: (G ++ F))) K [] r { s₁ with heap := h' } := X₁.jumpL hH hD₁ hdt hem hel hk ⟨h', s₁.toks, rfl⟩ hn.own ⟨hn.h1, hn.tb⟩ hn.base hsub (fun e he => by
    rcases List.mem_cons.mp he with rfl | he
    · exact ho'
    · rcases List.mem_append.mp he with he | he
      · exact g1 e he
      · exact hk _ _ (hF e he) (X₁.sit.fx e (List.mem_cons_of_mem _ he))) (fun e he => by
    rcases List.mem_cons.mp he with rfl | he
    · exact hn.own
    · rcases List.mem_append.mp he with he | he
      · exact g4 e he
      · exact X₁.fo e (List.mem_cons_of_mem _ he))
  exact fun E' => (k v o' G ⟨hc', hd', n', hdt'⟩ g2 (fun e he => ⟨g3 e he, (g e he).2.2⟩)).run _ E' X₂
end

end
section
open PySem PySem.W PyProof.Rows PySem.Calls PySem.Builtin
set_option Elab.async false
set_option maxRecDepth 100000
set_option linter.all false
section
variable {c : Cx} {K : Shared} {ρ : List (Str × PV)} {Q : Flow → Shared → Prop} {F : List (Addr × Obj)}
/-- a for loop over a list in a name, while another list, that stands fixed, is written -/
theorem B0.forF {σ : Type} {em : Bool} {x y : Str} {px py pos : Pos} {body rest : List Stmt} {xs : List PV} {D : Addr} {o : Obj} {its : Array Value} {kk : Nat} (Inv : Nat → σ → Prop) (oo : σ → Obj) (Fo : σ → List (Addr × Obj)) (ρo : σ → List (Str × PV)) (t₀ : σ) (hH : c.H = []) (hm : (y, PV.list xs) ∈ ρ)
    (hn : NewAt c K D) (hd : o.data = .seq its kk) (hem : em = true → its = #[]) (hel : em = false → its = #[] ∨ ∃ a, its[0]? = some (.ref a)) (hdis : dis em (.list xs) = true)
    (hne : ∀ i t, Inv i t → ∀ e ∈ Fo t, e ∈ F ∨ ∃ ys n, e.2.data = .seq ys n) (h0 : Inv 0 t₀) (ho0 : oo t₀ = o) (hF0 : Fo t₀ = F) (hρ0 : ∀ e ∈ ρo t₀, e ∈ ρ) (hok : stOk c.env x = true) (hx : ∀ t, ((ρo t).map (·.1)).contains x = false) (hfl : ∀ z ∈ xs, flt z = true)
    (turn : ∀ i z t G, xs[i]? = some z → Inv i t → (∀ e ∈ G, e.1 ≠ D) → Bd (c.fx ((D, oo t) :: (G ++ Fo t))) K [] ((x, z) :: ρo t) body (fun f s' => match f with
      | .next | .cont => ∃ t', Inv (i + 1) t' ∧ Act (c.fx ((D, oo t') :: (G ++ Fo t'))) K [] (ρo t') s'
      | _ => False))
    (fin : ∀ t, Inv xs.length t → Bd (c.fx ((D, oo t) :: Fo t)) K [] (ρo t) rest Q)
    (hs : ∀ v, foldedSetIterable (.Name y py) c.env v = pure v) : Bd (c.fx ((D, o) :: F)) K [] ρ (.For (.Name x px) (.Name y py) body [] pos :: rest) Q := Bd.seq fun s E X => by
  refine wpAny_For ((Ev.name hm).run s _ _ (X.view0 hH) fun v s₁ k₁ r₁ => ?_) hs
  have X₁ := X.kp k₁
  have hD₁ : s₁.heap.get? D = some o := X₁.sit.fx (D, o) List.mem_cons_self
  have r₁' : Rep [] s₁.heap (.list xs) v := by rw [show (c.fx ((D, o) :: F)).H = c.H from rfl, hH] at r₁; exact r₁
  obtain ⟨a, items, rfl, haD, hl, hz, ra⟩ := dis_ne hD₁ hd hem hel _ _ hdis r₁'
  have haD : a ≠ D := fun h => haD (by simp [h])
  obtain ⟨oa, hoa, hca, na, hda⟩ := id hl
  have hlen := ra.length
  simp only [Array.length_toList] at hlen
  refine wpAny_pyIter_list hl ?_
  have hI0 : s₁.heap.get? s₁.heap.objs.size = none := get_ge (Nat.le_refl _)
  have hIn := X₁.newAt hI0
  generalize hI : s₁.heap.objs.size = I at hI0 hIn
  have hID : I ≠ D := fun h => by rw [h, hD₁] at hI0; cases hI0
  have hIa : I ≠ a := fun h => by rw [h, hoa] at hI0; cases hI0
  have haown : ¬ own c [] a := X₁.notseq hoa ⟨_, _, hda⟩
  have kp : Kp s₁ { s₁ with heap := s₁.heap.push { cls := .type "list_iterator", data := .fields #[.ref a, .int 0 0] } } := .of s₁ fun b o e => Heap.get?_push_of_some _ e
  have hfx : ∀ e ∈ (D, o) :: F, e.1 ≠ I := fun e he h => by
    have := X₁.sit.fx e he
    rw [h, hI0] at this; cases this
  refine codeAny_forLoop (fun k s' => ∃ i t, Inv i t ∧ i ≤ xs.length ∧ k = xs.length + 1 - i ∧ s'.heap.IsListIter I a i ∧ s'.heap.get? a = some oa ∧ Act (c.fx ((D, oo t) :: Fo t)) K [] (ρo t) s' ∧ ∀ e ∈ (D, oo t) :: Fo t, e.1 ≠ I) ?_ (xs.length + 1)
    ⟨0, t₀, h0, Nat.zero_le _, rfl, ⟨_, by rw [← hI]; exact Heap.get?_push_size _ rfl, rfl, rfl⟩, kp.get _ _ hoa, by rw [ho0, hF0]; exact (X₁.kp kp).weak hρ0, by rw [ho0, hF0]; exact hfx⟩
  rintro k s' ⟨i, t, hInv, hi, rfl, hit, hoa', X', hfx'⟩
  have hl' : s'.heap.IsList a items := ⟨oa, hoa', hca, na, hda⟩
  by_cases hlt : i < xs.length
  · obtain ⟨u, hu, ru⟩ := ra.get i (x := xs[i]) (List.getElem?_eq_getElem hlt)
    refine wpAny_pyNext_list_item hit hl' (x := u) (by simpa using hu) fun h' hit' hs' => ?_
    have hk : ∀ b o, b ∉ [I] → s'.heap.get? b = some o → h'.get? b = some o := fun b o hb e => (hs'.2 b (fun h => hb (by simp [h]))).trans e
    have X₂ := X'.iter (I := I) (h' := h') (tk := s'.toks) hH hIn.own hIn.base ⟨hIn.h1, hIn.tb⟩ hfx' (fun o ho ys n hd => by
      obtain ⟨o', g, _, d⟩ := hit
      rw [ho] at g; cases g
      rw [hd] at d; cases d) hk
    obtain ⟨oI, hoI, hcI, hdI⟩ := id hit'
    have X₃ : Act (c.fx ((D, oo t) :: ([(I, oI), (a, oa)] ++ Fo t))) K [] (ρo t) { s' with heap := h' } := X₂.refix (fun e he => by
      rcases List.mem_cons.mp he with rfl | he
      · exact X₂.sit.fx (D, oo t) List.mem_cons_self
      · rcases List.mem_append.mp he with he | he
        · simp only [List.mem_cons, List.not_mem_nil, or_false] at he
          rcases he with rfl | rfl
          · exact hoI
          · exact hk _ _ (by simp; exact Ne.symm hIa) hoa'
        · exact X₂.sit.fx e (List.mem_cons_of_mem _ he)) (fun e he => by
      rcases List.mem_cons.mp he with rfl | he
      · exact hn.own
      · rcases List.mem_append.mp he with he | he
        · simp only [List.mem_cons, List.not_mem_nil, or_false] at he
          rcases he with rfl | rfl
          · exact hIn.own
          · exact haown
        · exact X₂.fo e (List.mem_cons_of_mem _ he))
    have hfi : flt xs[i] = true := hfl _ (List.getElem_mem hlt)
    refine wpAny_assign_Name (X₃.store (p := xs[i]) (ru.flat hfi) hok (fun e he => he) (hx t) fun s₃ X₄ => ?_)
    refine wpAny_mono ((turn i xs[i] t [(I, oI), (a, oa)] (List.getElem?_eq_getElem hlt) hInv (fun e he => by
      simp only [List.mem_cons, List.not_mem_nil, or_false] at he
      rcases he with rfl | rfl
      · exact hID
      · exact haD)).run s₃ _ X₄) (fun f s₄ hq => ?_) fun _ _ e => e
    have next : (∃ t', Inv (i + 1) t' ∧ Act (c.fx ((D, oo t') :: ([(I, oI), (a, oa)] ++ Fo t'))) K [] (ρo t') s₄) → ∃ m, m < xs.length + 1 - i ∧ ∃ i t, Inv i t ∧ i ≤ xs.length ∧ m = xs.length + 1 - i ∧ s₄.heap.IsListIter I a i ∧ s₄.heap.get? a = some oa ∧ Act (c.fx ((D, oo t) :: Fo t)) K [] (ρo t) s₄ ∧ ∀ e ∈ (D, oo t) :: Fo t, e.1 ≠ I := by
      rintro ⟨t', hInv', X₅⟩
      have fx5 : ∀ e ∈ (D, oo t') :: ([(I, oI), (a, oa)] ++ Fo t'), s₄.heap.get? e.1 = some e.2 := X₅.sit.fx
      have fo5 : ∀ e ∈ (D, oo t') :: ([(I, oI), (a, oa)] ++ Fo t'), ¬ own c [] e.1 := X₅.fo
      refine ⟨xs.length + 1 - (i + 1), by omega, i + 1, t', hInv', hlt, rfl, ⟨oI, fx5 (I, oI) (by simp), hcI, hdI⟩, fx5 (a, oa) (by simp), X₅.refix (fun e he => ?_) (fun e he => ?_), fun e he h => ?_⟩
      · rcases List.mem_cons.mp he with rfl | he
        · exact fx5 (D, oo t') List.mem_cons_self
        · exact fx5 e (by simp [he])
      · rcases List.mem_cons.mp he with rfl | he
        · exact hn.own
        · exact fo5 e (by simp [he])
      · rcases List.mem_cons.mp he with rfl | he
        · exact hID h.symm
        · rcases hne _ _ hInv' e he with hF | ⟨ys, n, hq⟩
          · exact hfx e (List.mem_cons_of_mem _ hF) h
          · have e1 := fx5 e (by simp [he])
            have e2 := fx5 (I, oI) (by simp)
            rw [h, show s₄.heap.get? I = some oI from e2] at e1
            rw [← Option.some.inj e1, hdI] at hq
            cases hq
    cases f with
    | next => exact next hq
    | cont => exact next hq
    | brk => exact hq.elim
    | ret v => exact hq.elim
  · obtain rfl : i = xs.length := by omega
    refine wpAny_pyNext_list_end X'.sit.hh hit hl' (by simp; omega) fun h' he' => wpAny_execs_nil ?_
    have X₂ := X'.iter (I := I) (h' := h') (tk := s'.toks) hH hIn.own hIn.base ⟨hIn.h1, hIn.tb⟩ hfx' (fun o ho ys n hd => by
      obtain ⟨o', g, _, d⟩ := hit
      rw [ho] at g; cases g
      rw [hd] at d; cases d) (fun b o hb e => he' b o (fun h => hb (by simp [h])) e)
    exact fun E' => (fin t hInv).run _ E' X₂
end

end
section
open PySem PySem.W PyProof.Rows PySem.Calls PySem.Builtin
set_option Elab.async false
set_option maxRecDepth 100000
set_option linter.all false
section
variable {c : Cx} {K : Shared} {ρ : List (Str × PV)} {Q : Flow → Shared → Prop}
theorem mul_list_run2 {prog : Program} {w : World} {A : Around} {E : Value → Shared → Prop} {s : Shared} {l : Addr} {its : Array Value} {x : Int} {t : Tok} {Q : Value → Shared → Prop} (hl : s.heap.IsList l its) (h0 : 0 ≤ x) (hx : x ≤ 65536) (hsz : its.size * x.toNat ≤ 65536)
    (h : Q (.ref s.heap.objs.size) { s with heap := s.heap.push { cls := .type "list", data := .seq (List.foldl (fun x1 x2 => x1 ++ x2) #[] (List.replicate (if its.isEmpty = true then 0 else x.toNat) its)) } }) : wpAny (model prog w) A (binaryOp .Mult (.ref l) (.int x t)) Q E s := by
  obtain ⟨⟨cls, dd, data, sl⟩, ho, hc, k, hd⟩ := id hl
  simp only at hc hd
  subst hc hd
  exact wpAny_binaryOp_repeat_ref (T := "list") (U := "int") (by decide) ⟨_, ho, rfl⟩ (fun s' => typeIs_int s' x t) noFill_list_mul F.fills_int_mul F.slot_int_rmul repeat_list F.slot_int_index.lookup
    (call_meets F.slot_int_rmul (typeIs_int s x t) F.entry_int_rmul (F.args_int_rmul_2 _ _) (lm_int_rmul_list_any x t l its k dd sl)
      ⟨ho, rfl, ⟨_, ho, rfl⟩, call_meets F.slot_list_mul ⟨_, ho, rfl⟩ F.entry_list_mul (F.args_list_mul_2 _ _)
        (lm_list_mul_any l its k dd sl x t (by simp [Builtin.List.listFitsIndex]; omega) (by omega) (by simp [Builtin.List.listTooLong, sizeLine]; omega))
        ⟨ho, h⟩⟩)
theorem fold_rep2 (its : Array Value) (n : Nat) : List.foldl (fun x1 x2 => x1 ++ x2) #[] (List.replicate (if its.isEmpty = true then 0 else n) its) = ((List.replicate n its.toList).flatten).toArray := by
  have hfold : ∀ (m : Nat) (acc : List Value), (List.replicate m its).foldl (fun x1 x2 => x1 ++ x2) acc.toArray = (acc ++ (List.replicate m its.toList).flatten).toArray := by
    intro m
    induction m with
    | zero => intro acc; simp
    | succ m ih =>
      intro acc
      rw [List.replicate_succ, List.foldl_cons]
      have := ih (acc ++ its.toList)
      rw [show acc.toArray ++ its = (acc ++ its.toList).toArray by apply Array.ext'; simp, this]
      simp [List.replicate_succ]
  by_cases he : its.isEmpty = true
  · have : its = #[] := by simpa using he
    subst this
    simp
  · rw [if_neg he]
    have := hfold n []
    simpa using this
theorem reps_rep2 {H : List Addr} {h : Heap} {xs : List PV} {vs : List Value} (hr : Reps H h xs vs) : ∀ m : Nat, Reps H h (List.replicate m xs).flatten (List.replicate m vs).flatten
  | 0 => rfl
  | m + 1 => by rw [List.replicate_succ, List.replicate_succ, List.flatten_cons, List.flatten_cons]; exact hr.append (reps_rep2 hr m)
theorem len_flat_rep2 (vs : List Value) (n : Nat) : (List.replicate n vs).flatten.length = vs.length * n := by
  induction n with
  | zero => rfl
  | succ n ih => rw [List.replicate_succ, List.flatten_cons, List.length_append, ih, Nat.mul_succ, Nat.add_comm]
theorem Bo.mul_list {xs : List PV} {n : Nat} (h : xs.length * n ≤ 65536 ∧ n ≤ 65536) : Bo c ρ .Mult (.list xs) (.int (n : Int)) (.list (List.replicate n xs).flatten) := .mk fun s Q E a b Si ha hb hQ => by
  obtain ⟨l, its, rfl, _, hl, hz, ra⟩ := ha
  obtain ⟨t, rfl⟩ := hb
  have e1 := ra.length
  rw [Array.length_toList] at e1
  have hprod : its.size * n ≤ 65536 := by rw [e1]; exact h.1
  refine mul_list_run2 hl (Int.natCast_nonneg n) (by have := h.2; omega) (by rw [Int.toNat_natCast]; exact hprod) ?_
  rw [Int.toNat_natCast, fold_rep2]
  have kp : Kp s { s with heap := s.heap.push { cls := .type "list", data := .seq ((List.replicate n its.toList).flatten).toArray } } := .of s fun b o e => Heap.get?_push_of_some _ e
  refine hQ _ _ kp ⟨_, _, rfl, Si.fresh (Nat.le_refl _), ⟨_, Heap.get?_push_size _ rfl, rfl, 0, rfl⟩, ?_, ?_⟩
  · rw [List.size_toArray, len_flat_rep2, Array.length_toList]
    exact hprod
  · exact Reps.sk (.of_keep kp.get) _ _ (reps_rep2 ra n)
/-- the signs of a str, as a list -/
theorem Ev.list_str {p pos : Pos} {e : Expr} {x : List Nat} (hl : isGl c (Str.ofString "list")) (he : Ev c ρ e (.str x)) (hz : x.length ≤ 65536) (hst : starEach [e] c.env = [(false, eval e c.env)]) : Ev c ρ (.Call (.Name (Str.ofString "list") p) [e] [] pos) (.list (x.map fun n => .str [n])) := .mk fun s Q E S hQ => by
  refine PyProof.Rows.Call_Name1 ((nm_list (ρ := ρ) hl).run s _ _ S ?_) hst
  refine PySem.callWith_type rfl (Calls.evalArgs_plain (spliced_cons (he.run s _ _ S fun v s₁ k₁ r₁ => spliced_nil ?_)))
  obtain ⟨t, rfl⟩ := r₁
  have S₁ := S.keeps k₁
  refine call_list_str S₁.hh ⟨x.toArray⟩ t (fun h' tk acc k hk hD hacc => ?_) (by simp [sizeLine]; omega)
  have kp : Kp s₁ { s₁ with heap := h', toks := tk } := .of s₁ hk
  refine hQ _ _ (k₁.trans kp) ⟨_, acc, rfl, S₁.fresh (Nat.le_refl _), ⟨_, hD, rfl, k, rfl⟩, by rw [hacc.1]; simp; omega, ?_⟩
  refine reps_of_get (by rw [Array.length_toList, List.length_map]; rw [hacc.1]; simp) fun j v hv => ?_
  obtain ⟨n, u, hn, rfl⟩ := hacc.2 j v (by simpa using hv)
  have hn' : x[j]? = some n := by simpa using hn
  exact ⟨.str [n], by simp [hn'], u, rfl⟩
theorem Ev.or_one {e : Expr} {pos : Pos} {p : PV} (h : Ev c ρ e p) : Ev c ρ (.BoolOp .Or [e] pos) p := .mk fun s Q E S hQ => BoolOp_one (h.run s _ _ S hQ)
theorem Ev.or_cons {e₁ e₂ : Expr} {r : List Expr} {pos : Pos} {a b : Bool} (h : Ev c ρ e₁ (.bool a)) (hr : a = false → Ev c ρ (.BoolOp .Or (e₂ :: r) pos) (.bool b)) : Ev c ρ (.BoolOp .Or (e₁ :: e₂ :: r) pos) (.bool (a || b)) := .mk fun s Q E S hQ => by
  refine BoolOp_or (h.run s _ _ S fun v s₁ k₁ r₁ => ?_)
  obtain rfl : v = .bool a := r₁
  refine wpAny_truthy_bool ?_
  cases a with
  | true => exact hQ _ s₁ k₁ rfl
  | false => exact (hr rfl).run s₁ _ _ (S.keeps k₁) fun v s₂ k₂ r₂ => hQ v s₂ (k₁.trans k₂) r₂
/-- two names at once from a list of two -/
theorem B0.pairL {x y : Str} {px py tpos pos : Pos} {kk : Nat} {e : Expr} {rest : List Stmt} {p q : PV} (r : List (Str × PV)) (hH : c.H = []) (h1 : stOk c.env x = true) (h2 : stOk c.env y = true) (hx : (r.map (·.1)).contains x = false) (hy : (((x, p) :: r).map (·.1)).contains y = false)
    (hs : swapsWithSole [.Tuple [.Name x px, .Name y py] kk tpos] e pos.line c.env = pure false) (hw : swappedStores [.Tuple [.Name x px, .Name y py] kk tpos] e c.env = pure none) (hsub : ∀ e ∈ r, e ∈ ρ)
    (he : Ev c ρ e (.list [p, q])) (k : Bd c K [] ((y, q) :: (x, p) :: r) rest Q) : Bd c K [] ρ (.Assign [.Tuple [.Name x px, .Name y py] kk tpos] e pos :: rest) Q := Bd.seq fun s E X => by
  refine Assign_Tuple (he.run s _ _ (X.view hH (fun _ h => nomatch h)) fun v s₁ k₁ r₁ => ?_) hs hw
  obtain ⟨a, its, rfl, _, hl, hz, v1, _, e1, rp, v2, _, rfl, rq, e3⟩ := r₁
  have e3 : _ = [] := e3
  subst e3
  have X₁ := X.kp k₁
  have hsz : its.size = 2 := by rw [← Array.length_toList, e1]; rfl
  have i0 : its[0]? = some v1 := by have : its.toList[0]? = some v1 := by rw [e1]; rfl
                                    simpa using this
  have i1 : its[1]? = some v2 := by have : its.toList[1]? = some v2 := by rw [e1]; rfl
                                    simpa using this
  have i2 : its[2]? = none := by simp; omega
  have e0 : (c.hide []).H = [] := by unfold Cx.hide; rw [hH]; rfl
  rw [hH] at rp rq
  rw [PyProof.Rows.assign_Tuple]
  refine wpAny_bind (wpAny_standAt ?_)
  unfold unpack
  show wpAny _ _ (holding [.ref a] (unpackItems (.ref a) 2 none) >>= fun items => assignInOrder ((assignEach [.Name x px, .Name y py] c.env).map (·.2)) items) _ _ _
  refine wpAny_bind (wpAny_holding ?_)
  unfold unpackItems
  refine wpAny_bind ?_
  · unfold notIterableAtAll
    refine wpAny_bind (wpAny_specialOf hl.typeIs slot_list_iter.lookup ?_)
    refine wpAny_pure ?_
    simp only [Bool.false_eq_true, if_false]
    have hal : a ≠ s₁.heap.objs.size := by obtain ⟨o, ho, _⟩ := hl; exact Nat.ne_of_lt (Heap.lt_size ho)
    refine wpAny_bind (wpAny_holding (wpAny_pyIter_list hl ?_))
    have hit : (s₁.heap.push { cls := .type "list_iterator", data := .fields #[.ref a, .int 0 0] }).IsListIter s₁.heap.objs.size a 0 := ⟨_, Heap.get?_push_size _ rfl, rfl, rfl⟩
    have hl1 := hl.push { cls := .type "list_iterator", data := .fields #[.ref a, .int 0 0] }
    refine wpAny_bind (wpAny_holding ?_)
    unfold draw
    refine wpAny_bind (wpAny_pyNext_list_item (s := { s₁ with heap := s₁.heap.push { cls := .type "list_iterator", data := .fields #[.ref a, .int 0 0] } }) hit hl1 i0 fun g2 hit2 hs2 => ?_)
    have hl2 := hl1.extBut hs2.extBut hal
    dsimp only
    refine wpAny_bind (wpAny_holding ?_)
    unfold draw
    refine wpAny_bind (wpAny_pyNext_list_item hit2 hl2 i1 fun g3 hit3 hs3 => ?_)
    have hl3 := hl2.extBut hs3.extBut hal
    dsimp only
    refine wpAny_bind (wpAny_holding (wpAny_pure (wpAny_pure (wpAny_pure ?_))))
    rw [if_neg (by simp)]
    refine wpAny_bind (wpAny_holding (wpAny_pyNext_list_end X₁.sit.hh hit3 hl3 i2 fun h4 he4 => ?_))
    simp only [Option.isSome_none, Bool.false_eq_true, if_false]
    refine wpAny_pure ?_
    have k2 : Kp s₁ { s₁ with heap := h4 } := .of s₁ fun b o e => by
      have hb : b ≠ s₁.heap.objs.size := Nat.ne_of_lt (Heap.lt_size e)
      exact he4 b o hb (hs3.extBut b o hb (hs2.extBut b o hb (Heap.get?_push_of_some _ e)))
    have X₂ := X₁.kp k2
    show wpAny _ _ (do holding [v2] (assign (.Name x px) c.env v1); (do holding [] (assign (.Name y py) c.env v2); pure ())) _ _ _
    refine wpAny_bind (wpAny_holding (wpAny_assign_Name (X₂.here.store (p := p) (by rw [e0]; exact rp.kp k2) h1 hsub hx fun s₃ X₃ => ?_)))
    have rq₃ : Rep [] s₃.heap q v2 := Rep.sk (X₂.sk0 X₃) _ _ (rq.kp k2)
    refine wpAny_bind (wpAny_holding (wpAny_assign_Name (X₃.store (p := q) (by rw [e0]; exact rq₃) h2 (fun _ h => h) hy fun s₄ X₄ => wpAny_pure ?_)))
    exact fun E' => k.run _ E' (X₄.rebase X₂ rfl)
end

end
section
open PySem PySem.W PyProof.Rows PySem.Calls PySem.Builtin
set_option Elab.async false
set_option maxRecDepth 100000
set_option linter.all false
theorem lookup_relabel_cell {env : Env} : ∀ {names : List (Str × NameKind)} {x : Str}, names.lookup x = some .cell →
    (names.map fun (n, k) => if (k == NameKind.free && env.scope.kind == .function && env.kindOf n == some .cell) then (n, NameKind.cell) else (n, k)).lookup x = some .cell
  | [], _, h => by simp at h
  | (n, k) :: r, x, h => by
    have ih := @lookup_relabel_cell env r x
    show List.lookup x ((if (k == NameKind.free && env.scope.kind == .function && env.kindOf n == some .cell) = true then (n, NameKind.cell) else (n, k)) :: _) = _
    cases hx : x == n with
    | true =>
      simp only [List.lookup_cons, hx] at h
      cases h
      simp [List.lookup_cons, hx]
    | false =>
      simp only [List.lookup_cons, hx] at h
      by_cases hc : (k == NameKind.free && env.scope.kind == .function && env.kindOf n == some .cell) = true
      · rw [if_pos hc]; simp only [List.lookup_cons, hx]; exact ih h
      · rw [if_neg hc]; simp only [List.lookup_cons, hx]; exact ih h
/-- the frame of a comprehension whose loop variable is a cell -/
noncomputable abbrev Cx.compK (c : Cx) (scope : Scope) (x : Str) (C K : Addr) : Cx := { c with env := compEnvC scope ((x, K) :: closOf c.env scope.names []) C c.env }
section
variable {c : Cx} {ρ : List (Str × PV)}
theorem comp_sitK {scope : Scope} {x : Str} {p : PV} {v : Value} {ρ' : List (Str × PV)} {xs : List PV} {s s₂ s₃ : Shared} {I C K : Addr} {fp : List Addr} {P : Nat → Value → Prop} {St : Nat → Heap → Prop}
    (S : Sit c ρ s) {bb : Bool} (T : Itr c bb xs s s₂ I fp P St) (hok : closOk c.env scope.names = true) (hkind : scope.kind = .function) (hx : scope.names.lookup x = some .cell) (hd : (x == ("__debug__" : Str)) = false)
    (hsub : ∀ e ∈ ρ', e ∈ ρ) (hcap : (ρ'.map (·.1)).all (capOk c.env scope) = true)
    (hv : Rep c.H s₂.heap p v) (hn : s₃.heap.IsCell K (some v)) (hk : ∀ b o, b ∉ [I] → s₂.heap.get? b = some o → s₃.heap.get? b = some o) : Sit (c.compK scope x C K) ((x, p) :: ρ') s₃ := by
  have k2 := T.kp.get
  have hI : ∀ b o, s.heap.get? b = some o → s₃.heap.get? b = some o := fun b o e => hk b o (fun hb => by rw [List.mem_singleton.mp hb, T.new] at e; cases e) (k2 b o e)
  have hsk : SK c.H s₂.heap s₃.heap := fun b o _ ⟨ys, n, hd⟩ e => hk b o (fun hb => by rw [List.mem_singleton.mp hb] at e; exact T.seq 0 _ T.st o e ys n hd) e
  refine ⟨⟨let ⟨o, e⟩ := S.gd.tbe; ⟨o, hI _ _ e⟩, fun b o hb e => hI b o (S.gd.keep b o hb e)⟩, fun a ha => let ⟨o, e⟩ := S.hid a ha; ⟨o, hI a o e⟩, by simp [Cx.compK, compEnvC, relabel, hkind], S.gl, S.bl, fun e he => ?_, S.hh, S.ru, S.rd, fun e he => hI _ _ (S.fx e he)⟩
  rcases List.mem_cons.mp he with rfl | he
  · refine ⟨v, ⟨hd, .inr (.inl ⟨lookup_relabel_cell hx, K, ?_, hn⟩)⟩, Rep.sk hsk _ _ hv⟩
    show List.lookup x ((x, K) :: _) = some K
    rw [List.lookup_cons, beq_self_eq_true]
  · obtain ⟨v', hh, hr⟩ := S.vars e (hsub e he)
    have hc := List.all_eq_true.mp hcap e.1 (List.mem_map.mpr ⟨e, he, rfl⟩)
    simp only [capOk, Bool.and_eq_true, Bool.or_eq_true, beq_iff_eq, Bool.not_eq_true'] at hc
    obtain ⟨⟨hfree, hkd⟩, hcd⟩ := hc
    refine ⟨v', ⟨hh.1, ?_⟩, Rep.sk (.of_keep hI) _ _ hr⟩
    have hne : (e.1 == x) = false := by
      cases h : e.1 == x with
      | false => rfl
      | true =>
        have h' : e.1 = x := by simpa using h
        rw [h', hx] at hfree
        cases hfree
    have hkind' : (c.compK scope x C K).env.kindOf e.1 = some (if (c.env.scope.kind == .function && c.env.kindOf e.1 == some .cell) = true then .cell else .free) := lookup_relabel_free hfree
    have hlk : ∀ a, c.env.cells.lookup e.1 = some a → (c.compK scope x C K).env.cells.lookup e.1 = some a := fun a ha => by
      show List.lookup e.1 ((x, K) :: closOf c.env scope.names []) = _
      rw [List.lookup_cons, hne]
      show (closOf c.env scope.names []).lookup e.1 = _
      rw [closOf_lookup c.env scope.names [] e.1 (by simp) (.inl (mem_of_lookup' hfree)), ha]; rfl
    rcases hh.2 with ⟨hl, _⟩ | ⟨hl, a, ha, hv⟩ | ⟨hl, hn', a, ha, hv⟩
    · rw [hl] at hkd; simp at hkd
    · rw [hl, S.fn] at hkind'
      exact .inr (.inl ⟨by simpa using hkind', a, hlk a ha, hv.keeps hI⟩)
    · rw [hl, S.fn] at hkind'
      exact .inr (.inr ⟨by simpa using hkind', hn', a, hlk a ha, hv.keeps hI⟩)

theorem Ev.compK {elt iter : Expr} {x : Str} {px : Pos} {scope : Scope} {pos : Pos} {ρ' : List (Str × PV)} {xs : List PV} (f : PV → PV)
    {bb : Bool} (hit : It c ρ bb iter xs) (hok : closOk c.env scope.names = true) (hcells : ∀ n acc, cellsFrom n scope.names acc = (x, n) :: acc)
    (hpush : ∀ h, pushCells h scope.names = h.push { cls := .type "cell", data := .cell none }) (hkind : scope.kind = .function)
    (hnames : scope.names.all (fun y => !(y.2 == .local) || (scope.names.lookup y.1 == some .local)) = true) (hx : scope.names.lookup x = some .cell) (hd : (x == ("__debug__" : Str)) = false)
    (hsub : ∀ e ∈ ρ', e ∈ ρ) (hcap : (ρ'.map (·.1)).all (capOk c.env scope) = true) (hsz : xs.length ≤ 65536)
    (hf : ∀ y, y ∈ xs → flt (f y) = true ∧ ∀ C K, Ev (c.compK scope x C K) ((x, y) :: ρ') elt (f y))
    (hs : ∀ v, foldedSetIterable iter c.env v = pure v := by intro _; kernel_rfl) :
    Ev c ρ (.ListComp elt [⟨.Name x px, iter, [], 0⟩] scope pos) (.list (xs.map f)) := .mk fun s Q E S hQ => by
  have hnames' : ∀ y ∈ scope.names, y.2 = .local → scope.names.lookup y.1 = some .local := fun y hy e => by
    have := List.all_eq_true.mp hnames y hy
    rw [e] at this
    simpa using this
  rw [eval_ListComp]
  refine wpAny_comprehension_free (use := none) rfl hs (closureFor_eq scope c.env hok) hkind hnames' (hit.run s _ _ S fun s₂ I fp P St T => ?_)
  refine wpAny_newObj_type ?_
  simp only [newFunctionEnv, Option.isSome_some, if_true]
  refine wpAny_bind (wpAny_alloc ?_)
  refine wpAny_bind (wpAny_layCells _ (fun name kind cells => by cases hkc : kind == NameKind.cell <;> simp [hkc]) _ _ _ _ ?_)
  rw [hcells, hpush]
  refine wpAny_bind ?_
  rw [List.forIn_nil]
  refine wpAny_pure (wpAny_pure ?_)
  simp only [Heap.size_push]
  have hI : I ∈ fp := T.walks.sub _ (by simp)
  have hIlt := T.lt I hI
  generalize hD : s₂.heap.objs.size = D at *
  generalize hH : ((s₂.heap.push { cls := .type "list", dict := none, data := .seq ([] : List Value).toArray }).push { cls := .type "dict", data := .dict #[] }).push { cls := .type "cell", data := .cell none } = H
  have hh2 : (s₂.heap.push { cls := .type "list", dict := none, data := .seq ([] : List Value).toArray }).objs.size = D + 1 := by rw [Heap.size_push, hD]
  have hh3 : ((s₂.heap.push { cls := .type "list", dict := none, data := .seq ([] : List Value).toArray }).push { cls := .type "dict", data := .dict #[] }).objs.size = D + 1 + 1 := by rw [Heap.size_push, hh2]
  have hDC : D ≠ D + 1 := Nat.ne_of_lt (Nat.lt_succ_self _)
  have hDK : D ≠ D + 1 + 1 := Nat.ne_of_lt (Nat.lt_succ_of_lt (Nat.lt_succ_self _))
  have hCK : D + 1 ≠ D + 1 + 1 := Nat.ne_of_lt (Nat.lt_succ_self _)
  have lo : ∀ b, b < D → b ≠ D ∧ b ≠ D + 1 ∧ b ≠ D + 1 + 1 := fun b hb => ⟨Nat.ne_of_lt hb, Nat.ne_of_lt (Nat.lt_succ_of_lt hb), Nat.ne_of_lt (Nat.lt_succ_of_lt (Nat.lt_succ_of_lt hb))⟩
  have kH : ∀ b o, s₂.heap.get? b = some o → H.get? b = some o := fun b o e => by
    rw [← hH]; exact Heap.get?_push_of_some _ (Heap.get?_push_of_some _ (Heap.get?_push_of_some _ e))
  have pl : H.PlainList D #[] := by
    refine ⟨0, ?_⟩
    rw [← hH]
    refine Heap.get?_push_of_some _ (Heap.get?_push_of_some _ ?_)
    rw [← hD]; exact Heap.get?_push_size _ rfl
  have ns : H.Ns (D + 1) fun _ => none := by
    have := Heap.Ns.new (s₂.heap.push { cls := .type "list", dict := none, data := .seq ([] : List Value).toArray }) (.type "dict")
    rw [hh2] at this
    rw [← hH]
    exact this.keeps fun b o e => Heap.get?_push_of_some _ e
  have cl : H.IsCell (D + 1 + 1) none := by
    refine ⟨{ cls := .type "cell", data := .cell none }, ?_, rfl⟩
    rw [← hH, ← hh3]; exact Heap.get?_push_size _ rfl
  have st₁ : St 0 H := T.walks.frame _ _ _ T.st fun b _ o e => kH b o e
  have fpn : ∀ b ∈ fp, b ≠ D ∧ b ≠ D + 1 ∧ b ≠ D + 1 + 1 := fun b hb => lo b (hD ▸ T.lt b hb)
  have loop : ∀ s₃ : Shared, s₃ = { s₂ with heap := H } → codeAny (model pg c.w) c.A (.compLoop (.ListComp elt [⟨.Name x px, iter, [], 0⟩] scope pos) 0 (.ref I) (.ref D) (c.compK scope x (D + 1) (D + 1 + 1)).env)
      (compPost (model pg c.w) c.A E none Q (.ref D) (D + 1)) s₃ := by
    rintro s₃ rfl
    refine codeAny_compLoop_tests (fun k s' => ∃ i us m v₀ h' tk, s' = { s₂ with heap := h', toks := tk } ∧ i ≤ xs.length ∧ k = xs.length + 1 - i ∧ St i h' ∧ h'.PlainList D us ∧ Reps [] h' ((xs.take i).map f) us.toList ∧
      ((xs.take i).map f).all flt = true ∧ h'.Ns (D + 1) m ∧ h'.IsCell (D + 1 + 1) v₀ ∧ (∀ b o, b ∉ [I] → s₂.heap.get? b = some o → h'.get? b = some o)) ?_ (xs.length + 1)
      ⟨0, #[], _, _, H, s₂.toks, rfl, Nat.zero_le _, rfl, st₁, pl, rfl, rfl, ns, cl, fun b o _ e => kH b o e⟩
    rintro k s' ⟨i, us, m, v₀, h', tk, rfl, hi, rfl, hst, hpl, hre, hfl, hns, hcl, hk⟩
    by_cases hlt : i < xs.length
    · refine T.walks.item i _ _ _ hlt hst fun v h₁ tk₁ hPv hst₁ hk₁ => ?_
      have nI : D ≠ I ∧ D + 1 ≠ I ∧ D + 1 + 1 ≠ I := ⟨(lo I hIlt).1.symm, (lo I hIlt).2.1.symm, (lo I hIlt).2.2.symm⟩
      have hcl₁ : h₁.IsCell (D + 1 + 1) v₀ := let ⟨o, e, d⟩ := hcl; ⟨o, hk₁ _ _ (by simpa using nI.2.2) e, d⟩
      refine wpAny_assign_Name (wpAny_storeName_cell (c := D + 1 + 1) (by simp [Cx.compK, compEnvC, relabel, hkind]) (lookup_relabel_cell hx) (by
        show List.lookup x ((x, D + 1 + 1) :: _) = some _
        rw [List.lookup_cons, beq_self_eq_true]) hcl₁ fun h₂ hc₂ hs₂ => ?_)
      refine wpAny_tests_nil ?_
      simp only [if_true]
      obtain ⟨y, hy, hr⟩ := T.item i v hPv
      obtain ⟨f1, f2⟩ := hf y (List.mem_of_getElem? hy)
      have k2 : ∀ b o, b ∉ [I] → s₂.heap.get? b = some o → h₂.get? b = some o := fun b o hb e => hs₂.extBut b o (lo b (by rw [← hD]; exact Heap.lt_size e)).2.2 (hk₁ b o hb (hk b o hb e))
      refine (f2 (D + 1) (D + 1 + 1)).run { s₂ with heap := h₂, toks := tk₁ } _ _ (comp_sitK S T hok hkind hx hd hsub hcap hr hc₂ k2) fun u s₄ k₄ r₄ => ?_
      obtain ⟨h₄, tk₄, rfl⟩ := k₄.eq
      have kk : ∀ b o, b ∉ [I] → b ≠ D + 1 + 1 → h'.get? b = some o → h₄.get? b = some o := fun b o hb hbK e => k₄.get b o (hs₂.extBut b o hbK (hk₁ b o hb e))
      have hpl₄ : h₄.PlainList D us := hpl.at fun o e => kk _ o (by simpa using nI.1) hDK e
      have e1 := hre.length
      have hus : us.size = i := by rw [← Array.length_toList, e1, List.length_map, List.length_take]; omega
      refine wpAny_list_append_plain (hsz := by rw [hus]; simp [sizeLine]; omega) hpl₄ fun h₅ hl₅ hs₅ => ?_
      have hst₅ : St (i + 1) h₅ := T.walks.frame _ _ _ hst₁ fun b hb o e => hs₅.extBut b o (fpn b hb).1 (k₄.get b o (hs₂.extBut b o (fpn b hb).2.2 e))
      have hns₅ : h₅.Ns (D + 1) m := hns.at' fun o e => hs₅.extBut _ o hDC.symm (kk _ o (by simpa using nI.2.1) hCK e)
      have hcl₅ : h₅.IsCell (D + 1 + 1) (some v) := let ⟨o, e, d⟩ := hc₂; ⟨o, hs₅.extBut _ o hDK.symm (k₄.get _ o e), d⟩
      have htake : (xs.take (i + 1)).map f = (xs.take i).map f ++ [f y] := by
        rw [List.take_add_one, hy]; simp
      refine ⟨xs.length + 1 - (i + 1), by omega, i + 1, us.push u, m, _, h₅, tk₄, rfl, hlt, rfl, hst₅, hl₅, ?_, ?_, hns₅, hcl₅, fun b o hb e => hs₅.extBut b o (lo b (by rw [← hD]; exact Heap.lt_size e)).1 (k₄.get b o (k2 b o hb e))⟩
      · rw [htake, Array.toList_push]
        exact (reps_flat hfl hre).append ⟨u, [], rfl, r₄.flat f1, rfl⟩
      · rw [htake, List.all_append, hfl]; simp [f1]
    · obtain rfl : i = xs.length := by omega
      refine T.walks.done _ _ _ hst fun h₁ tk₁ hk₁ => ?_
      have nI : D ≠ I ∧ D + 1 ≠ I ∧ D + 1 + 1 ≠ I := ⟨(lo I hIlt).1.symm, (lo I hIlt).2.1.symm, (lo I hIlt).2.2.symm⟩
      refine ⟨m, hns.at' fun o e => hk₁ _ o (by simpa using nI.2.1) e, fun h'' hs'' => hQ _ _ ?_ ?_⟩
      · obtain ⟨k, h₂, tk₂, rfl⟩ := T.kp
        refine .of s fun b o e => ?_
        have e2 := k b o e
        refine hs''.extBut b o (lo b (by rw [← hD]; exact Heap.lt_size e2)).2.1 ?_
        have hb : b ∉ [I] := fun hb => by rw [List.mem_singleton.mp hb, T.new] at e; cases e
        exact hk₁ b o hb (hk b o hb e2)
      · rw [List.take_length] at hre hfl
        have e1 := hre.length
        rw [Array.length_toList, List.length_map] at e1
        refine ⟨D, us, rfl, fun hm => ?_, ((hpl.at fun o e => hk₁ _ o (by simpa using nI.1) e).isList).extBut hs''.extBut hDC, by rw [e1]; exact hsz, reps_flat hfl hre⟩
        obtain ⟨o, e⟩ := S.hid D hm
        have := Heap.lt_size (T.kp.get _ _ e)
        rw [hD] at this
        exact Nat.lt_irrefl _ this
  exact codeAny_compStart_list (loop _ rfl) (T.walks.self 0 _ _ _ st₁ (loop _ rfl))
end

end
section
open PySem PySem.W PyProof.Rows PySem.Calls PySem.Builtin
set_option Elab.async false
set_option maxRecDepth 100000
set_option linter.all false
theorem mine_extend (l : Addr) (n : Nat) (b : Addr) (items2 : Array Value) (n2 : Nat) (d1 d2 : Option Addr) (sl1 sl2 : Array (Option Value)) (hs2 : items2.size ≤ 1000) :
    Meets (Builtin.«list.extend» ⟨[.ref l, .ref b], []⟩) (fun _ R s => s.heap.get? l = some { cls := .type "list", dict := d1, data := .seq #[] n, slots := sl1 } ∧ s.heap.get? b = some { cls := .type "list", dict := d2, data := .seq items2 n2, slots := sl2 } ∧ R (.ok (.ret Value.none)) { s with heap := s.heap.update l (Obj.mapSeq fun x => x ++ items2), toks := s.toks }) :=
  .of_wp fun prog w A R s h => by
    obtain ⟨hp, g, d, tk, os⟩ := s; obtain ⟨hl, hb, h⟩ := h
    have f3 := PySem.AutoSeq1.sub_list_list; have f5 := PySem.AutoSeq1.sub_list_tuple
    have hc0 : ¬(!(#[] : Array Value).isEmpty && Builtin.List.listTooLong ((#[] : Array Value).size + items2.size)) = true := by simp
    have hz' : ((#[] : Array Value) ++ items2).size ≤ sizeLine + 1 := by rw [Array.size_append, show sizeLine = 16777216 from rfl]; simp; omega
    wp_walk using (wpAny_updateSeq hl rfl (hz := by simp) (_hz' := hz')), wpAny_loadPart' hl, wpAny_loadPart' hb; exact ⟨_, rfl, h⟩
mutual
theorem Rep.newH {H Hs : List Addr} {h : Heap} (hn : ∀ b ∈ Hs, h.get? b = none) : ∀ (p : PV) (v : Value), Rep H h p v → Rep (Hs ++ H) h p v
  | .none, _, x => x
  | .bool _, _, x => x
  | .int _, _, x => x
  | .str _, _, x => x
  | .obj _, _, x => x
  | .list xs, v, x => by
    obtain ⟨a, items, e, ha, ⟨o, ho, hc⟩, hz, hr⟩ := x
    exact ⟨a, items, e, fun m => (List.mem_append.mp m).elim (fun m => by rw [hn a m] at ho; cases ho) ha, ⟨o, ho, hc⟩, hz, Reps.newH hn xs _ hr⟩
  | .tup xs, v, x => by
    obtain ⟨a, items, e, ha, ⟨o, ho, hc⟩, hz, hr⟩ := x
    exact ⟨a, items, e, fun m => (List.mem_append.mp m).elim (fun m => by rw [hn a m] at ho; cases ho) ha, ⟨o, ho, hc⟩, hz, Reps.newH hn xs _ hr⟩
theorem Reps.newH {H Hs : List Addr} {h : Heap} (hn : ∀ b ∈ Hs, h.get? b = none) : ∀ (p : List PV) (v : List Value), Reps H h p v → Reps (Hs ++ H) h p v
  | [], _, x => x
  | p :: ps, _, x => by
    obtain ⟨v, r, e, h1, h2⟩ := x
    exact ⟨v, r, e, Rep.newH hn p v h1, Reps.newH hn ps r h2⟩
end
/-- a list that holds nothing -/
noncomputable def EmptyAt (h : Heap) (b : Addr) : Prop := ∃ o k, h.get? b = some o ∧ o.data = .seq #[] k
theorem Rep.emH {H : List Addr} {h : Heap} {p : PV} {v : Value} (hp : dis true p = true) (r : Rep H h p v) : ∀ (Hs : List Addr), (∀ b ∈ Hs, EmptyAt h b) → Rep (Hs ++ H) h p v
  | [], _ => r
  | b :: Hs, hn => by
    have ih := Rep.emH hp r Hs fun b hb => hn b (List.mem_cons_of_mem _ hb)
    obtain ⟨o, k, ho, hd⟩ := hn b List.mem_cons_self
    exact dis_ne (em := true) ho hd (fun _ => rfl) (fun h => nomatch h) p v hp ih

/-- what of a rule stands fixed: none of its tables and cells below a mark, none of the hidden lists -/
structure NewO (lo : Nat) (Hs : List Addr) (e : Addr × Obj) : Prop where
  nh : e.1 ∉ Hs
  fr : (match e.2.data with | .dict .. => true | .cell _ => true | _ => false) = true → lo ≤ e.1
  fd : ∀ vs, e.2.data = .fields vs → ∃ q t, vs[1]? = some (.str q t)
  kd : (match e.2.data with | .dict .. => true | .cell _ => true | .fields _ => true | .func _ => true | .seq .. => true | _ => false) = true
theorem RuleLo.fix {lo : Nat} {h : Heap} {r a : Addr} {sev : List (List (List Nat))} {w : PV} {Hs : List Addr} (x : RuleLo lo h r (.obj a) w) (hs : Rep Hs h (sevPV sev) (.ref a)) (hw : flt w = true) (hH : ∀ b ∈ Hs, ∃ o its k, h.get? b = some o ∧ o.data = .seq its k) :
    ∃ F : List (Addr × Obj), (∀ e ∈ F, h.get? e.1 = some e.2 ∧ NewO lo Hs e) ∧ RuleFx F r sev w := by
  obtain ⟨fd0, m, lam, pm, cd, ct, cl, sv, v, ⟨dd, hr, hd⟩, h1, h2, h3, h4, ⟨ca, co, cvs, ctk, rfl, hco, hcdat, hcr⟩, ⟨oc, hoc, hcd⟩, h7, hlo⟩ := x
  obtain rfl : sv = .ref a := h7
  obtain ⟨G, g1, g2⟩ := Rep.fixH _ _ hs
  obtain ⟨d, rfl, hne, hdlo, ⟨od, es, ep, hod, hdd, hdr⟩⟩ : ∃ d, dd = some d ∧ d ≠ r ∧ lo ≤ d ∧ h.Ns1 d m := hd.elim (fun h => by rw [h.2] at h1; cases h1) id
  have nh : ∀ b o, h.get? b = some o → (∀ its k, o.data ≠ .seq its k) → b ∉ Hs := fun b o ho hn hb => by
    obtain ⟨o', its, k, ho', hk⟩ := hH b hb
    rw [ho] at ho'; cases ho'
    exact hn its k hk
  obtain ⟨o1, e1, hr⟩ : ∃ o1, o1 = ({ cls := .type "function", dict := some d, data := .func fd0 } : Obj) ∧ h.get? r = some o1 := ⟨_, rfl, hr⟩
  obtain ⟨o2, e2, h4⟩ : ∃ o2, o2 = ({ cls := .type "function", data := .func (kla_fn "<lambda>" lamQ lam2.1 lam2.2.1 lam2.2.2.1 [(Str.ofString "several", cl)] pm (.ref ca) ct) } : Obj) ∧ h.get? lam = some o2 := ⟨_, rfl, h4⟩
  refine ⟨(r, o1) :: (lam, o2) :: (ca, co) :: (cl, oc) :: (d, od) :: G, fun e he => ?_, fun h' hh => ?_⟩
  rotate_left 1
  · have hG : ∀ e ∈ G, h'.get? e.1 = some e.2 := fun e he => hh e (by simp [he])
    refine ⟨fd0, m, lam, pm, .ref ca, ct, cl, .ref a, v, ⟨some d, e1 ▸ hh (r, o1) List.mem_cons_self, .inr ⟨d, rfl, hne, Nat.zero_le _, od, es, ep, hh (d, od) (by simp), hdd, hdr⟩⟩, h1, h2, h3.flat hw, e2 ▸ hh (lam, o2) (by simp), ⟨ca, co, cvs, ctk, rfl, hh (ca, co) (by simp), hcdat, hcr⟩, ⟨oc, hh (cl, oc) (by simp), hcd⟩, ?_⟩
    exact Rep.less (H := []) (H' := Hs) (fun a ha => nomatch ha) _ _ (g2 h' hG)
  · simp only [List.mem_cons] at he
    rcases he with rfl | rfl | rfl | rfl | rfl | he
    · have hdat : o1.data = .func fd0 := by rw [e1]
      refine ⟨hr, nh r o1 hr (by intro its k; rw [hdat]; exact fun h => nomatch h), ?_, ?_, ?_⟩
      · show (match o1.data with | .dict .. => true | .cell _ => true | _ => false) = true → _
        rw [hdat]; exact fun h => nomatch h
      · intro vs; show o1.data = _ → _; rw [hdat]; exact fun h => nomatch h
      · show (match o1.data with | .dict .. => true | .cell _ => true | .fields _ => true | .func _ => true | .seq .. => true | _ => false) = true
        rw [hdat]
    · obtain ⟨f2, hdat⟩ : ∃ f2, o2.data = .func f2 := ⟨_, by rw [e2]⟩
      refine ⟨h4, nh lam o2 h4 (by intro its k; rw [hdat]; exact fun h => nomatch h), ?_, ?_, ?_⟩
      · show (match o2.data with | .dict .. => true | .cell _ => true | _ => false) = true → _
        rw [hdat]; exact fun h => nomatch h
      · intro vs; show o2.data = _ → _; rw [hdat]; exact fun h => nomatch h
      · show (match o2.data with | .dict .. => true | .cell _ => true | .fields _ => true | .func _ => true | .seq .. => true | _ => false) = true
        rw [hdat]
    · refine ⟨hco, nh ca co hco (by intro its k; rw [hcdat]; exact fun h => nomatch h), ?_, ?_, ?_⟩
      · show (match co.data with | .dict .. => true | .cell _ => true | _ => false) = true → _
        rw [hcdat]; exact fun h => nomatch h
      · intro vs hvs
        have hvs : co.data = .fields vs := hvs
        rw [hcdat] at hvs; cases hvs
        exact ⟨_, _, hcr⟩
      · show (match co.data with | .dict .. => true | .cell _ => true | .fields _ => true | .func _ => true | .seq .. => true | _ => false) = true
        rw [hcdat]
    · refine ⟨hoc, nh cl oc hoc (by intro its k; rw [hcd]; exact fun h => nomatch h), fun _ => hlo, ?_, ?_⟩
      · intro vs; show oc.data = _ → _; rw [hcd]; exact fun h => nomatch h
      · show (match oc.data with | .dict .. => true | .cell _ => true | .fields _ => true | .func _ => true | .seq .. => true | _ => false) = true
        rw [hcd]
    · refine ⟨hod, nh d od hod (by intro its k; rw [hdd]; exact fun h => nomatch h), fun _ => hdlo, ?_, ?_⟩
      · intro vs; show od.data = _ → _; rw [hdd]; exact fun h => nomatch h
      · show (match od.data with | .dict .. => true | .cell _ => true | .fields _ => true | .func _ => true | .seq .. => true | _ => false) = true
        rw [hdd]
    · obtain ⟨g, gH, ys, n, gd⟩ := g1 e he
      refine ⟨g, gH, ?_, ?_, ?_⟩
      · rw [gd]; exact fun h => nomatch h
      · intro vs; rw [gd]; exact fun h => nomatch h
      · rw [gd]
section
variable {c : Cx} {ρ : List (Str × PV)}
theorem nm_rule {pos : Pos} (hk : isGl c (Str.ofString "_law_rule")) : Nm c ρ (.Name (Str.ofString "_law_rule") pos) (.ref 189) := Nm.glob hk (by intro P; kernel_rfl) (by kernel_rfl)
theorem sevPV_ref {H : List Addr} {h : Heap} {sev : List (List (List Nat))} {v : Value} (r : Rep H h (sevPV sev) v) : ∃ a, v = .ref a := by
  obtain ⟨a, items, rfl, _⟩ := r
  exact ⟨a, rfl⟩
theorem Rep.skt {H : List Addr} {h h' : Heap} {ps : Array Value} {p : PV} {v : Value} (T : h.get? tb = some (tabObj ps)) (k : ∀ b o, b ≠ tb → h.get? b = some o → h'.get? b = some o) (r : Rep H h p v) : Rep H h' p v :=
  Rep.sk (fun b o _ ⟨ys, n, hd⟩ e => k b o (fun hb => by rw [hb, T] at e; cases e; cases hd) e) _ _ r
/-- a call of _law_rule -/
theorem run_rule {n : Nat} {s : Shared} {ps : Array Value} {sev : List (List (List Nat))} {w : PV} {e1 e2 : Expr} {p pos : Pos} {Q : Value → Shared → Prop} {E : Value → Shared → Prop} (S : Sit c ρ s) (hN : c.N = n + 1) (hfx : ∀ e ∈ c.fix, e.1 ≠ tb) (T : TabIs s.heap ps)
    (hgl : isGl c (Str.ofString "_law_rule")) (h1 : Ev c ρ e1 (sevPV sev)) (h2 : Ev c ρ e2 w) (hw : flt w = true) (hHs : ∀ b ∈ c.H, ∃ o its k, s.heap.get? b = some o ∧ o.data = .seq its k)
    (hst : starEach [e1, e2] c.env = (false, eval e1 c.env) :: starEach [e2] c.env) (hst2 : starEach [e2] c.env = (false, eval e2 c.env) :: starEach [] c.env)
    (hQ : ∀ r s' ps' F lo, (∀ b o, s.heap.get? b = some o → b < lo) → s.heap.get? r = none → Kt s s' → TabIs s'.heap ps' → full ps' → (full ps → Kp s s') → (∀ e ∈ F, s'.heap.get? e.1 = some e.2 ∧ NewO lo c.H e) → RuleFx F r sev w → Q (.ref r) s') :
    wpAny (model pg c.w) c.A (eval (.Call (.Name (Str.ofString "_law_rule") p) [e1, e2] [] pos) c.env) Q E s := by
  obtain ⟨o, ho, hd⟩ := Option.map_eq_some_iff.mp (rule_o c.w.params)
  refine Call_Name rfl ((nm_rule (ρ := ρ) hgl).run s _ _ S (callWith_function (o := o) (fd := lawFd 20 "_law_rule" 188) (evalArgs_row (Evs.cons h1 (Evs.cons h2 Evs.nil hst2) hst) S hst fun vs s₁ k₁ r₁ => ⟨⟨(S.keeps k₁).gd.keep _ _ (by decide) ho, hd⟩, ?_⟩)))
  obtain ⟨v1, _, rfl, hv1, v2, _, rfl, hv2, rfl⟩ := r₁
  have S₁ := S.keeps k₁
  obtain ⟨a, rfl⟩ := sevPV_ref hv1
  have T₁ := T.kp k₁.get
  have S₁' : Sit { c with H := [] } [] s₁ := ⟨S₁.gd, (fun a ha => nomatch ha), S₁.fn, S₁.gl, S₁.bl, (fun e he => nomatch he), S₁.hh, S₁.ru, S₁.rd, S₁.fx⟩
  refine call_rule (c := { c with H := [] }) (p := .obj a) (w := w) S₁' rfl hN hfx T₁ rfl (hv2.flat hw) fun r s' ps' hr kt T' hf hrl hfp => ?_
  have hsev : Rep c.H s'.heap (sevPV sev) (.ref a) := Rep.skt T₁.at_ kt.get hv1
  obtain ⟨F, f1, f2⟩ := hrl.fix hsev hw fun b hb => by
    obtain ⟨o, its, k, e, d⟩ := hHs b hb
    exact ⟨o, its, k, kt.get b o (fun h => by rw [h, T.at_] at e; cases e; cases d) (k₁.get _ _ e), d⟩
  refine hQ r s' ps' F s₁.heap.objs.size (fun b o e => Heap.lt_size (k₁.get b o e)) ?_ ((Kt.of_kp k₁).trans kt) T' hf (fun hfu => ?_) f1 f2
  · cases e : s.heap.get? r with
    | none => rfl
    | some o => rw [k₁.get _ _ e] at hr; cases hr
  · have := hfp hfu
    subst this
    exact k₁.trans (kt.kp T₁ T')
end

end
section
open PySem PySem.W PyProof.Rows PySem.Calls PySem.Builtin
set_option Elab.async false
set_option maxRecDepth 100000
set_option linter.all false
theorem NewO.mono {lo lo' : Nat} {Hs Hs' : List Addr} {e : Addr × Obj} (x : NewO lo Hs e) (hl : lo' ≤ lo) (hh : ∀ b ∈ Hs', b ∈ Hs) : NewO lo' Hs' e := ⟨fun h => x.nh (hh _ h), fun h => Nat.le_trans hl (x.fr h), x.fd, x.kd⟩
theorem NewO.netb {lo : Nat} {Hs : List Addr} {e : Addr × Obj} {h : Heap} {ps : Array Value} (x : NewO lo Hs e) (he : h.get? e.1 = some e.2) (T : TabIs h ps) : e.1 ≠ tb := fun ht => by
  have h1 := T.at_
  rw [← ht, he] at h1
  obtain ⟨q, t, hv⟩ := x.fd ps (by rw [Option.some.inj h1])
  exact rec_ne T.at_ T.ok (c := tb) (o := tabObj ps) T.at_ rfl hv rfl
section
variable {c : Cx} {ρ : List (Str × PV)}
noncomputable abbrev Cx.hid (c : Cx) (D : Addr) : Cx := { c with H := D :: c.H }
theorem comp_sitT {scope : Scope} {x : Str} {p : PV} {v : Value} {ρ' : List (Str × PV)} {s s₃ : Shared} {C D : Addr} {m : Str → Option Value} {ps : Array Value}
    (S : Sit c ρ s) (T : TabIs s.heap ps) (hfx : ∀ e ∈ c.fix, e.1 ≠ tb) (hHs : ∀ b ∈ c.H, ∃ o its k, s.heap.get? b = some o ∧ o.data = .seq its k) (hDn : s.heap.get? D = none) (hD3 : ∃ o, s₃.heap.get? D = some o) (htb3 : ∃ o, s₃.heap.get? tb = some o)
    (hok : closOk c.env scope.names = true) (hkind : scope.kind = .function) (hx : scope.names.lookup x = some .local) (hd : (x == ("__debug__" : Str)) = false)
    (hsub : ∀ e ∈ ρ', e ∈ ρ) (hcap : (ρ'.map (·.1)).all (capOk c.env scope) = true)
    (hv : Rep (D :: c.H) s₃.heap p v) (hn : s₃.heap.Ns C m) (hm : m x = some v) (hk : ∀ b o, b ≠ tb → s.heap.get? b = some o → s₃.heap.get? b = some o) : Sit ((c.hid D).comp scope C) ((x, p) :: ρ') s₃ := by
  refine ⟨⟨htb3, fun b o hb e => hk b o hb (S.gd.keep b o hb e)⟩, fun a ha => ?_, by simp [Cx.comp, compEnvC, relabel, hkind], S.gl, S.bl, fun e he => ?_, S.hh, S.ru, S.rd, fun e he => hk _ _ (hfx e he) (S.fx e he)⟩
  · rcases List.mem_cons.mp ha with rfl | ha
    · exact hD3
    · obtain ⟨o, its, k, e, d⟩ := hHs a ha
      exact ⟨o, hk a o (fun h => by rw [h, T.at_] at e; cases e; cases d) e⟩
  rcases List.mem_cons.mp he with rfl | he
  · exact ⟨v, ⟨hd, .inl ⟨lookup_relabel_local hx, m, hn, hm⟩⟩, hv⟩
  · obtain ⟨v', hh, hr⟩ := S.vars e (hsub e he)
    have hc := List.all_eq_true.mp hcap e.1 (List.mem_map.mpr ⟨e, he, rfl⟩)
    simp only [capOk, Bool.and_eq_true, Bool.or_eq_true, beq_iff_eq, Bool.not_eq_true'] at hc
    obtain ⟨⟨hfree, hkd⟩, hcd⟩ := hc
    have hr' : Rep (D :: c.H) s.heap e.2 v' := Rep.newH (Hs := [D]) (fun b hb => by rw [List.mem_singleton.mp hb]; exact hDn) _ _ hr
    refine ⟨v', ⟨hh.1, ?_⟩, Rep.skt T.at_ hk hr'⟩
    have hcl : ∀ a u, s.heap.IsCell a u → s₃.heap.IsCell a u := fun a u ⟨o, ho, hd⟩ => ⟨o, hk a o (fun h => by rw [h, T.at_] at ho; cases ho; cases hd) ho, hd⟩
    have hkind' : ((c.hid D).comp scope C).env.kindOf e.1 = some (if (c.env.scope.kind == .function && c.env.kindOf e.1 == some .cell) = true then .cell else .free) := lookup_relabel_free hfree
    have hlk : ∀ a, c.env.cells.lookup e.1 = some a → ((c.hid D).comp scope C).env.cells.lookup e.1 = some a := fun a ha => by
      show (closOf c.env scope.names []).lookup e.1 = _
      rw [closOf_lookup c.env scope.names [] e.1 (by simp) (.inl (mem_of_lookup' hfree)), ha]; rfl
    rcases hh.2 with ⟨hl, _⟩ | ⟨hl, a, ha, hv⟩ | ⟨hl, hn', a, ha, hv⟩
    · rw [hl] at hkd; simp at hkd
    · rw [hl, S.fn] at hkind'
      exact .inr (.inl ⟨by simpa using hkind', a, hlk a ha, hcl _ _ hv⟩)
    · rw [hl, S.fn] at hkind'
      exact .inr (.inr ⟨by simpa using hkind', hn', a, hlk a ha, hcl _ _ hv⟩)
/-- a comprehension of rules: the first call may fill the table of code objects -/
theorem run_rules {n : Nat} {s : Shared} {ps : Array Value} {xs : List PV} {sev : Nat → List (List (List Nat))} {w : Nat → PV} {e1 e2 iter : Expr} {x : Str} {px p cpos pos : Pos} {scope : Scope} {ρ' : List (Str × PV)} {Q : Value → Shared → Prop} {E : Value → Shared → Prop}
    (S : Sit c ρ s) (hN : c.N = n + 1) (hfx : ∀ e ∈ c.fix, e.1 ≠ tb) (T : TabIs s.heap ps) (hHs : ∀ b ∈ c.H, ∃ o its k, s.heap.get? b = some o ∧ o.data = .seq its k) (hit : Ev c ρ iter (.tup xs)) (hflt : ∀ y ∈ xs, flt y = true) (hne : 0 < xs.length) (hsz : xs.length ≤ 1000)
    (hok : closOk c.env scope.names = true) (hcell : scope.names.all (fun y => !(y.2 == .cell)) = true) (hkind : scope.kind = .function)
    (hnames : scope.names.all (fun y => !(y.2 == .local) || (scope.names.lookup y.1 == some .local)) = true) (hx : scope.names.lookup x = some .local) (hd : (x == ("__debug__" : Str)) = false)
    (hsub : ∀ e ∈ ρ', e ∈ ρ) (hcap : (ρ'.map (·.1)).all (capOk c.env scope) = true) (hgl : ∀ C D, isGl ((c.hid D).comp scope C) (Str.ofString "_law_rule"))
    (h1 : ∀ i y, xs[i]? = some y → ∀ C D, Ev ((c.hid D).comp scope C) ((x, y) :: ρ') e1 (sevPV (sev i))) (h2 : ∀ i y, xs[i]? = some y → ∀ C D, Ev ((c.hid D).comp scope C) ((x, y) :: ρ') e2 (w i)) (hw : ∀ i, flt (w i) = true)
    (hst : ∀ C, starEach [e1, e2] (c.comp scope C).env = (false, eval e1 (c.comp scope C).env) :: starEach [e2] (c.comp scope C).env) (hst2 : ∀ C, starEach [e2] (c.comp scope C).env = (false, eval e2 (c.comp scope C).env) :: starEach [] (c.comp scope C).env)
    (hs : ∀ v, foldedSetIterable iter c.env v = pure v)
    (hQ : ∀ (D : Addr) (s' : Shared) (ps' : Array Value) (rs : List Addr) (F : List (Addr × Obj)) (lo : Nat), (∀ b o, s.heap.get? b = some o → b < lo) → s.heap.get? D = none → Kt s s' → TabIs s'.heap ps' → full ps' → s'.heap.IsList D (rs.map Value.ref).toArray → rs.length = xs.length →
      (∀ e ∈ F, s'.heap.get? e.1 = some e.2 ∧ NewO lo c.H e ∧ e.1 ≠ D) → (∀ j r, rs[j]? = some r → RuleFx F r (sev j) (w j)) → Q (.ref D) s') :
    wpAny (model pg c.w) c.A (eval (.ListComp (.Call (.Name (Str.ofString "_law_rule") p) [e1, e2] [] cpos) [⟨.Name x px, iter, [], 0⟩] scope pos) c.env) Q E s := by
  have hcell' : ∀ y ∈ scope.names, y.2 ≠ .cell := fun y hy e => by
    have := List.all_eq_true.mp hcell y hy
    rw [e] at this; simp at this
  have hnames' : ∀ y ∈ scope.names, y.2 = .local → scope.names.lookup y.1 = some .local := fun y hy e => by
    have := List.all_eq_true.mp hnames y hy
    rw [e] at this
    simpa using this
  rw [eval_ListComp]
  refine wpAny_comprehension_free (use := none) rfl hs (closureFor_eq scope c.env hok) hkind hnames' ?_
  refine hit.run s _ _ S fun tv s₁ k₁ r₁ => ?_
  obtain ⟨ta, its, rfl, _, ht, hz, ra⟩ := r₁
  have el := ra.length
  simp only [Array.length_toList] at el
  have ht : s₁.heap.IsTuple ta its := ht
  refine wpAny_pyIter_tuple ht ?_
  refine wpAny_newObj_type (wpAny_newFunctionEnv hcell' (by intro y hy; simp at hy) (fun h₃ hns₃ hsb₃ => ?_) hkind)
  dsimp only at hns₃ hsb₃ ⊢
  have hI2 : (s₁.heap.push { cls := .type "tuple_iterator", data := .fields #[.ref ta, .int 0 0] }).objs.size = s₁.heap.objs.size + 1 := Heap.size_push ..
  have hD2 : ((s₁.heap.push { cls := .type "tuple_iterator", data := .fields #[.ref ta, .int 0 0] }).push { cls := .type "list", dict := none, data := .seq #[] }).objs.size = s₁.heap.objs.size + 1 + 1 := by rw [Heap.size_push, hI2]
  rw [hD2] at hns₃ hsb₃ ⊢
  rw [hI2]
  generalize hI : s₁.heap.objs.size = I at *
  have hID : I ≠ I + 1 := Nat.ne_of_lt (Nat.lt_succ_self _)
  have hIC : I ≠ I + 1 + 1 := Nat.ne_of_lt (Nat.lt_succ_of_lt (Nat.lt_succ_self _))
  have hDC : I + 1 ≠ I + 1 + 1 := Nat.ne_of_lt (Nat.lt_succ_self _)
  have old1 : ∀ b o, s.heap.get? b = some o → b < I := fun b o e => by rw [← hI]; exact Heap.lt_size (k₁.get b o e)
  have ne3 : ∀ b, b < I → b ≠ I ∧ b ≠ I + 1 ∧ b ≠ I + 1 + 1 := fun b hb => ⟨Nat.ne_of_lt hb, Nat.ne_of_lt (Nat.lt_succ_of_lt hb), Nat.ne_of_lt (Nat.lt_succ_of_lt (Nat.lt_succ_of_lt hb))⟩
  have up3 : ∀ b o, b ≠ I + 1 + 1 → ((s₁.heap.push { cls := .type "tuple_iterator", data := .fields #[.ref ta, .int 0 0] }).push { cls := .type "list", dict := none, data := .seq #[] }).get? b = some o → h₃.get? b = some o := fun b o hb e => hsb₃.extBut b o hb (Heap.get?_push_of_some _ e)
  have k3 : ∀ b o, s.heap.get? b = some o → h₃.get? b = some o := fun b o e => up3 b o (ne3 b (old1 b o e)).2.2 (Heap.get?_push_of_some _ (Heap.get?_push_of_some _ (k₁.get b o e)))
  have hta : ta < I := by rw [← hI]; obtain ⟨o, e, _⟩ := ht; exact Heap.lt_size e
  have it3 : h₃.IsTupleIter I ta 0 := ⟨_, up3 I _ hIC (Heap.get?_push_of_some _ (by rw [← hI]; exact Heap.get?_push_size _ rfl)), rfl, rfl⟩
  have tu3 : h₃.IsTuple ta its := let ⟨o, e, r⟩ := ht; ⟨o, up3 ta o (ne3 ta hta).2.2 (Heap.get?_push_of_some _ (Heap.get?_push_of_some _ e)), r⟩
  have pl3 : h₃.PlainList (I + 1) #[] := ⟨0, up3 _ _ hDC (by rw [← hI2]; exact Heap.get?_push_size _ rfl)⟩
  have T3 : TabIs h₃ ps := T.kp k3
  have hDn : s.heap.get? (I + 1) = none := by
    cases e : s.heap.get? (I + 1) with
    | none => rfl
    | some o => exact absurd (old1 _ _ e) (Nat.not_lt.mpr (Nat.le_succ _))
  have hto : ∀ {a : Addr}, I ≤ a → a ≠ tb := fun ha h => by
    have := old1 _ _ T.at_
    rw [← h] at this
    exact absurd this (Nat.not_lt.mpr ha)
  have loop : ∀ s₃ : Shared, s₃ = { s₁ with heap := h₃, toks := s₁.toks + ([] : List (Str × Value)).length } →
      codeAny (model pg c.w) c.A (.compLoop (.ListComp (.Call (.Name (Str.ofString "_law_rule") p) [e1, e2] [] cpos) [⟨.Name x px, iter, [], 0⟩] scope pos) 0 (.ref I) (.ref (I + 1)) (c.comp scope (I + 1 + 1)).env) (compPost (model pg c.w) c.A E none Q (.ref (I + 1)) (I + 1 + 1)) s₃ := by
    rintro s₃ rfl
    refine codeAny_compLoop_tests (fun k s' => ∃ (i : Nat) (rs : List Addr) (m : Str → Option Value) (h' : Heap) (tk : Nat) (ps' : Array Value) (F : List (Addr × Obj)), s' = { s₁ with heap := h', toks := tk } ∧ i ≤ xs.length ∧ k = xs.length + 1 - i ∧ h'.IsTupleIter I ta i ∧ h'.IsTuple ta its ∧ h'.PlainList (I + 1) (rs.map Value.ref).toArray ∧ rs.length = i ∧ h'.Ns (I + 1 + 1) m ∧
      TabIs h' ps' ∧ (0 < i → full ps') ∧ (∀ b o, b ≠ tb → s.heap.get? b = some o → h'.get? b = some o) ∧ (∀ e ∈ F, h'.get? e.1 = some e.2 ∧ NewO I c.H e ∧ e.1 ≠ I ∧ e.1 ≠ I + 1 ∧ e.1 ≠ I + 1 + 1) ∧ (∀ j r, rs[j]? = some r → RuleFx F r (sev j) (w j))) ?_ (xs.length + 1)
      ⟨0, [], _, h₃, _, ps, [], rfl, Nat.zero_le _, rfl, it3, tu3, pl3, rfl, hns₃, T3, (fun h => absurd h (Nat.lt_irrefl _)), fun b o _ e => k3 b o e, (fun e he => nomatch he), fun j r h => by simp at h⟩
    rintro k s' ⟨i, rs, m, h', tk, ps', F, rfl, hi, rfl, hit', htu, hpl, hrl, hns, T', hfu, hk, hF, hR⟩
    by_cases hlt : i < xs.length
    · obtain ⟨u, hu, ru⟩ := ra.get i (x := xs[i]) (List.getElem?_eq_getElem hlt)
      refine wpAny_pyNext_tuple_item hit' htu (x := u) (by simpa using hu) fun h₁ hit₁ hs₁ => ?_
      have htaI : ta ≠ I := (ne3 ta hta).1
      have hns₁ : h₁.Ns (I + 1 + 1) m := hns.at' fun o e => hs₁.extBut _ o hIC.symm e
      refine wpAny_assign_Name (wpAny_storeName_local (lookup_relabel_local hx) hns₁ (fun h₂ hn₂ hs₂ => ?_) (by simp [Cx.comp, compEnvC, relabel, hkind]))
      refine wpAny_tests_nil ?_
      simp only [if_true]
      have k12 : ∀ b o, b ≠ I → b ≠ I + 1 + 1 → h'.get? b = some o → h₂.get? b = some o := fun b o hb hb' e => hs₂.extBut b o hb' (hs₁.extBut b o hb e)
      have T₂ : TabIs h₂ ps' := by
        refine ⟨k12 _ _ (hto (Nat.le_refl _)).symm (hto (Nat.le_succ_of_le (Nat.le_succ _))).symm T'.at_, T'.ok, fun ps c' e => ?_⟩
        obtain ⟨a, o, vs, t, rfl, ho, hd', hv⟩ := T'.recs ps c' e
        refine ⟨a, o, vs, t, rfl, k12 a o (fun h => ?_) (fun h => ?_) ho, hd', hv⟩
        · obtain ⟨o', g, _, d⟩ := hit'
          rw [h, g] at ho; cases ho
          rw [d] at hd'; cases hd'
          cases hv
        · obtain ⟨o', es, ep, g, d, _⟩ := hns
          rw [h, g] at ho; cases ho
          rw [d] at hd'; cases hd'
      have hpl₂ : h₂.PlainList (I + 1) (rs.map Value.ref).toArray := hpl.at fun o e => k12 _ o hID.symm hDC e
      have ks₂ : ∀ b o, b ≠ tb → s.heap.get? b = some o → h₂.get? b = some o := fun b o hb e => k12 b o (ne3 b (old1 b o e)).1 (ne3 b (old1 b o e)).2.2 (hk b o hb e)
      have hgx := List.getElem?_eq_getElem hlt
      have S₂ : Sit ((c.hid (I + 1)).comp scope (I + 1 + 1)) ((x, xs[i]) :: ρ') { s₁ with heap := h₂, toks := tk + 1 } :=
        comp_sitT S T hfx hHs hDn (let ⟨n, e⟩ := hpl₂; ⟨_, e⟩) ⟨_, T₂.at_⟩ hok hkind hx hd hsub hcap (ru.flat (hflt _ (List.getElem_mem hlt))) hn₂ (by simp) ks₂
      refine run_rule (c := (c.hid (I + 1)).comp scope (I + 1 + 1)) S₂ hN hfx T₂ (hgl _ _) (h1 i _ hgx _ _) (h2 i _ hgx _ _) (hw i) (fun b hb => ?_) (hst _) (hst2 _) fun r s₄ ps₄ F₄ lo₄ hlo₄ hr₄ kt₄ T₄ hf₄ _ hF₄ hR₄ => ?_
      · rcases List.mem_cons.mp hb with rfl | hb
        · obtain ⟨n, e⟩ := hpl₂
          exact ⟨_, _, _, e, rfl⟩
        · obtain ⟨o, it, kk, e, d⟩ := hHs b hb
          exact ⟨o, it, kk, ks₂ b o (fun h => by rw [h, T.at_] at e; cases e; cases d) e, d⟩
      obtain ⟨h₄, tk₄, rfl⟩ := kt₄.eq
      have kt : ∀ b o, b ≠ tb → h₂.get? b = some o → h₄.get? b = some o := kt₄.get
      have hpl₄ : h₄.PlainList (I + 1) (rs.map Value.ref).toArray := hpl₂.at fun o e => kt _ o (hto (Nat.le_succ _)) e
      refine wpAny_list_append_plain (hsz := by simp [sizeLine, hrl]; omega) hpl₄ fun h₅ hl₅ hs₅ => ?_
      have k5 : ∀ b o, b ≠ I + 1 → h₄.get? b = some o → h₅.get? b = some o := fun b o hb e => hs₅.extBut b o hb e
      have hit₄ : h₄.IsTupleIter I ta (i + 1) := let ⟨o, e, r⟩ := hit₁; ⟨o, kt _ _ (hto (Nat.le_refl _)) (hs₂.extBut _ _ hIC e), r⟩
      have hns₄ : h₄.Ns (I + 1 + 1) _ := hn₂.at' (h' := h₄) fun o e => kt _ o (hto (Nat.le_succ_of_le (Nat.le_succ _))) e
      refine ⟨xs.length + 1 - (i + 1), by omega, i + 1, rs ++ [r], _, h₅, tk₄, ps₄, F₄ ++ F, rfl, hlt, rfl, let ⟨o, e, r⟩ := hit₄; ⟨o, k5 _ _ hID e, r⟩, let ⟨o, e, r⟩ := htu; ⟨o, k5 _ _ (ne3 ta hta).2.1 (kt _ _ (fun h => ?_) (k12 _ _ htaI (ne3 ta hta).2.2 e)), r⟩, ?_, by simp [hrl], hns₄.at' fun o e => k5 _ _ hDC.symm e, ?_, fun _ => hf₄,
        fun b o hb e => k5 b o (ne3 b (old1 b o e)).2.1 (kt b o hb (ks₂ b o hb e)), fun e he => ?_, fun j r' hj => ?_⟩
      · obtain ⟨n, hd'⟩ := r.2
        rw [h, T'.at_] at e; cases e; cases hd'
      · have : (rs ++ [r]).map Value.ref = rs.map Value.ref ++ [Value.ref r] := by simp
        rw [this]
        simpa using hl₅
      · refine ⟨k5 _ _ (hto (Nat.le_succ _)).symm T₄.at_, T₄.ok, fun pp c' e => ?_⟩
        obtain ⟨a, o, vs, t, rfl, ho, hd', hv⟩ := T₄.recs pp c' e
        refine ⟨a, o, vs, t, rfl, k5 a o (fun h => ?_) ho, hd', hv⟩
        obtain ⟨n, g⟩ := hpl₄
        rw [h, g] at ho; cases ho; cases hd'
      · rcases List.mem_append.mp he with he | he
        · obtain ⟨g, N⟩ := hF₄ e he
          have g : h₄.get? e.1 = some e.2 := g
          have nD : e.1 ≠ I + 1 := fun h => N.nh (by rw [h]; exact List.mem_cons_self)
          have hCex : ∃ o, h₂.get? (I + 1 + 1) = some o := let ⟨o, es, ep, g, _⟩ := hn₂; ⟨o, g⟩
          have hCl : I + 1 + 1 < lo₄ := let ⟨o, e⟩ := hCex; hlo₄ _ o e
          refine ⟨k5 _ _ nD g, N.mono (Nat.le_of_lt (Nat.lt_of_le_of_lt (Nat.le_succ_of_le (Nat.le_succ _)) hCl)) (fun b hb => List.mem_cons_of_mem _ hb), fun h => ?_, nD, fun h => ?_⟩
          · obtain ⟨o, g', _, d⟩ := hit₄
            rw [← h, g] at g'; cases g'
            obtain ⟨q, t, hv⟩ := N.fd _ d
            cases hv
          · obtain ⟨o, es, ep, g', d, _⟩ := hns₄
            rw [← h, g] at g'; cases g'
            have := N.fr (by rw [d])
            rw [h] at this
            exact absurd hCl (Nat.not_lt.mpr this)
        · obtain ⟨g, N, n1, n2, n3⟩ := hF e he
          exact ⟨k5 _ _ n2 (kt _ _ (N.netb g T') (k12 _ _ n1 n3 g)), N, n1, n2, n3⟩
      · by_cases hj' : j < rs.length
        · rw [List.getElem?_append_left hj'] at hj
          exact (hR j r' hj).mono fun e he => List.mem_append_right _ he
        · have hj2 : j = i := by
            have := (List.getElem?_eq_some_iff.mp hj).1
            simp at this
            omega
          subst hj2
          rw [← hrl] at hj
          simp at hj
          subst hj
          exact hR₄.mono fun e he => List.mem_append_left _ he
    · obtain rfl : i = xs.length := by omega
      refine wpAny_pyNext_tuple_end S.hh hit' htu (by simp; omega) fun h₁ he₁ => ?_
      refine ⟨m, hns.at' fun o e => he₁ _ o hIC.symm e, fun h'' hs'' => ?_⟩
      have kk : ∀ b o, b ≠ I → b ≠ I + 1 + 1 → h'.get? b = some o → h''.get? b = some o := fun b o hb hb' e => hs''.extBut b o hb' (he₁ b o hb e)
      refine hQ (I + 1) _ ps' rs F I old1 hDn ⟨fun b o hb e => kk b o (ne3 b (old1 b o e)).1 (ne3 b (old1 b o e)).2.2 (hk b o hb e), ?_⟩ ?_ (hfu hne) ?_ hrl (fun e he => ?_) hR
      · exact sameS k₁.eq (sameU _ _ _)
      · refine ⟨kk _ _ (hto (Nat.le_refl _)).symm (hto (Nat.le_succ_of_le (Nat.le_succ _))).symm T'.at_, T'.ok, fun ps c' e => ?_⟩
        obtain ⟨a, o, vs, t, rfl, ho, hd', hv⟩ := T'.recs ps c' e
        refine ⟨a, o, vs, t, rfl, kk a o (fun h => ?_) (fun h => ?_) ho, hd', hv⟩
        · obtain ⟨o', g, _, d⟩ := hit'
          rw [h, g] at ho; cases ho
          rw [d] at hd'; cases hd'
          cases hv
        · obtain ⟨o', es, ep, g, d, _⟩ := hns
          rw [h, g] at ho; cases ho
          rw [d] at hd'; cases hd'
      · exact (hpl.at fun o e => kk _ o hID.symm hDC e).isList
      · obtain ⟨g, N, n1, n2, n3⟩ := hF e he
        exact ⟨kk _ _ n1 n3 g, N, n2⟩
  exact codeAny_compStart_list (loop _ rfl) (wpAny_pyIter_tupleiter it3 (loop _ rfl))
end

end
section
open PySem PySem.W PyProof.Rows PySem.Calls PySem.Builtin
set_option Elab.async false
set_option maxRecDepth 100000
set_option linter.all false
/-- an entry whose own objects stand fixed; its list is L -/
noncomputable def EntB (F : List (Addr × Obj)) (e L : Addr) : Prop := ∀ h : Heap, (∀ x ∈ F, h.get? x.1 = some x.2) → ∃ mA, h.Inst e 52 mA ∧ mA (Str.ofString "rulelines") = some (.ref L) ∧ mA (Str.ofString "allowance") = none
theorem EntB.mono {F G : List (Addr × Obj)} {e L : Addr} (x : EntB F e L) (h : ∀ a ∈ F, a ∈ G) : EntB G e L := fun h' hh => x h' fun a ha => hh a (h a ha)
theorem EntB.fx {F : List (Addr × Obj)} {e L : Addr} {o : Obj} {rs : List Addr} (b : EntB F e L) (hL : (L, o) ∈ F) (ho : PlainO o (rs.map Value.ref).toArray) : EntFx F e L rs := fun h hh => by
  obtain ⟨mA, h1, h2, h3⟩ := b h hh
  obtain ⟨p1, p2, n, p3⟩ := ho
  exact ⟨mA, h1, h2, h3, o, n, hh _ hL, p1, p2, p3⟩
theorem EntAt.fix {h : Heap} {e L : Addr} {rs : List Addr} (x : EntAt h e L rs) : ∃ (F : List (Addr × Obj)) (o oe : Obj) (d : Addr), (∀ a ∈ F, h.get? a.1 = some a.2 ∧ (a.1 = e ∨ a.1 = d) ∧ (a.2.cls = .ref 52 ∨ ∃ es ep, a.2.data = .dict es ep)) ∧ h.get? e = some oe ∧ oe.dict = some d ∧ EntB F e L ∧ h.get? L = some o ∧ PlainO o (rs.map Value.ref).toArray := by
  obtain ⟨mA, ⟨oe, ho, hc, hnc, hd⟩, h2, h3, oL, n, hL, p1, p2, p3⟩ := x
  obtain ⟨d, hd, hne, od, es, ep, hod, hdd, hr⟩ : ∃ d, oe.dict = some d ∧ d ≠ e ∧ h.Ns1 d mA := hd.elim (fun hd => by rw [hd.2] at h2; cases h2) id
  refine ⟨[(e, oe), (d, od)], oL, oe, d, fun a ha => ?_, ho, hd, fun h' hh => ?_, hL, p1, p2, n, p3⟩
  · simp only [List.mem_cons, List.not_mem_nil, or_false] at ha
    rcases ha with rfl | rfl
    · exact ⟨ho, .inl rfl, .inl hc⟩
    · exact ⟨hod, .inr rfl, .inr ⟨_, _, hdd⟩⟩
  · exact ⟨mA, ⟨oe, hh (e, oe) (by simp), hc, hnc, .inr ⟨d, hd, hne, od, es, ep, hh (d, od) (by simp), hdd, hr⟩⟩, h2, h3⟩
section
variable {c : Cx} {K : Shared} {ρ : List (Str × PV)} {Q : Flow → Shared → Prop} {F : List (Addr × Obj)}
theorem nm_Entry {pos : Pos} (hk : isGl c (Str.ofString "Entry")) : Nm c ρ (.Name (Str.ofString "Entry") pos) (.ref 52) := Nm.glob hk (by intro P; kernel_rfl) (by kernel_rfl)
theorem ev_entry {n : Nat} {s : Shared} {p pos : Pos} {Q : Value → Shared → Prop} {E : Value → Shared → Prop} (S : Sit c ρ s) (hH : c.H = []) (hN : c.N = n + 2) (hk : isGl c (Str.ofString "Entry"))
    (hQ : ∀ e L s', s.heap.get? e = none → s.heap.get? L = none → Kp s s' → EntAt s'.heap e L [] → (∀ o d, s'.heap.get? e = some o → o.dict = some d → s.heap.get? d = none) → Q (.ref e) s') : wpAny (model pg c.w) c.A (eval (.Call (.Name (Str.ofString "Entry") p) [] [] pos) c.env) Q E s :=
  Call_Name rfl ((nm_Entry (ρ := ρ) hk).run s _ _ S (callWith_cls0 (C := 52) (N := 51) ⟨⟨_, _, _, _, _, _, _, _, _, _, _, _, gd_cls S.gd⟩, gd_cns S.gd⟩ (fun _ _ e => e) (call_entry S hH hN hQ)))
/-- two entries, by the swapped stores -/
theorem Bd.entries {n : Nat} {x y : Str} {px py tpos tpos' p1 q1 p2 q2 pos : Pos} {kk kk' : Nat} {rest : List Stmt} (r : List (Str × PV)) (hH : c.H = []) (hN : c.N = n + 2) (hk : isGl c (Str.ofString "Entry")) (h1 : stOk c.env x = true) (h2 : stOk c.env y = true) (hx : ((y :: r.map (·.1))).contains x = false) (hy : (r.map (·.1)).contains y = false)
    (hs : swapsWithSole [.Tuple [.Name x px, .Name y py] kk tpos] (.Tuple [.Call (.Name (Str.ofString "Entry") p1) [] [] q1, .Call (.Name (Str.ofString "Entry") p2) [] [] q2] kk' tpos') pos.line c.env = pure false)
    (hw : swappedStores [.Tuple [.Name x px, .Name y py] kk tpos] (.Tuple [.Call (.Name (Str.ofString "Entry") p1) [] [] q1, .Call (.Name (Str.ofString "Entry") p2) [] [] q2] kk' tpos') c.env = pure (some [x, y]))
    (hst : starEach [.Call (.Name (Str.ofString "Entry") p1) [] [] q1, .Call (.Name (Str.ofString "Entry") p2) [] [] q2] c.env = [(false, eval (.Call (.Name (Str.ofString "Entry") p1) [] [] q1) c.env), (false, eval (.Call (.Name (Str.ofString "Entry") p2) [] [] q2) c.env)]) (hsub : ∀ e ∈ r, e ∈ ρ)
    (k : ∀ e1 L1 o1 e2 L2 o2 FE, NewAt c K L1 → NewAt c K L2 → PlainO o1 #[] → PlainO o2 #[] → L1 ≠ L2 → EntB FE e1 L1 → EntB FE e2 L2 → (∀ a ∈ FE, a.1 ≠ L1 ∧ a.1 ≠ L2 ∧ NewAt c K a.1) → Bd (c.fx ((L1, o1) :: (L2, o2) :: (FE ++ F))) K [] ((x, .obj e1) :: (y, .obj e2) :: r) rest Q) :
    Bd (c.fx F) K [] ρ (.Assign [.Tuple [.Name x px, .Name y py] kk tpos] (.Tuple [.Call (.Name (Str.ofString "Entry") p1) [] [] q1, .Call (.Name (Str.ofString "Entry") p2) [] [] q2] kk' tpos') pos :: rest) Q := Bd.seq fun s E X => by
  refine Assign_Tuple_swapped (names := [x, y]) (wpAny_Tuple ?_) hs hw
  rw [hst]
  refine spliced_cons (ev_entry (c := c.fx F) (X.view0 hH) hH hN hk fun e1 L1 s₁ n1 nL1 k₁ E1 nd1 => ?_)
  have X₁ := X.kp k₁
  refine spliced_cons (ev_entry (c := c.fx F) (X₁.view0 hH) hH hN hk fun e2 L2 s₂ n2 nL2 k₂ E2 nd2 => spliced_nil ⟨by simp [sizeLine], ?_⟩)
  have X₂ := X₁.kp k₂
  have E1' := EntAt.kp k₂.get E1
  obtain ⟨FA, o1, oe1, d1, fA, ge1, gd1, EA, gL1, P1⟩ := E1'.fix
  obtain ⟨FB, o2, oe2, d2, fB, ge2, gd2, EB, gL2, P2⟩ := E2.fix
  have NA : ∀ a, s.heap.get? a = none → NewAt c K a := fun a ha => X.newAt ha
  have none1 : ∀ a, s₁.heap.get? a = none → s.heap.get? a = none := fun a ha => by
    cases e : s.heap.get? a with
    | none => rfl
    | some o => rw [k₁.get _ _ e] at ha; cases ha
  have hL12 : L1 ≠ L2 := fun h => by
    obtain ⟨mA, h1, h2, h3, o, n, e, _⟩ := E1
    rw [h, nL2] at e; cases e
  have nd1' : s.heap.get? d1 = none := by
    obtain ⟨mA, ⟨o, ho, _, _, _⟩, _⟩ := E1
    have := k₂.get _ _ ho
    rw [ge1] at this; cases this
    exact nd1 _ _ ho gd1
  have nd2' : s₁.heap.get? d2 = none := nd2 _ _ ge2 gd2
  have k4 : Kp s₂ { s₂ with heap := s₂.heap.push { cls := .type "tuple", data := .seq [Value.ref e1, Value.ref e2].toArray } } := .of s₂ fun b o e => Heap.get?_push_of_some _ e
  have X₄ := X₂.kp k4
  have ht : ({ s₂ with heap := s₂.heap.push { cls := .type "tuple", data := .seq [Value.ref e1, Value.ref e2].toArray } } : Shared).heap.IsTuple s₂.heap.objs.size [Value.ref e1, Value.ref e2].toArray := ⟨_, Heap.get?_push_size _ rfl, rfl, 0, rfl⟩
  show wpAny _ _ (unpackItems (.ref s₂.heap.objs.size) [Value.ref e1, Value.ref e2].toArray.size none) _ _ _
  refine PyProof.Rows.unpackItems_tuple X₄.sit.hh ht fun h' he' => ?_
  have k5 : Kp { s₂ with heap := s₂.heap.push { cls := .type "tuple", data := .seq [Value.ref e1, Value.ref e2].toArray } } { s₂ with heap := h' } := .of _ fun b o e => he' b o (Nat.ne_of_lt (Heap.lt_size e)) e
  have X₅ := X₄.kp k5
  have k45 : Kp s₂ { s₂ with heap := h' } := k4.trans k5
  have cd : ∀ (b : Addr) (o : Obj) its, s₂.heap.get? b = some o → PlainO o its → ∀ a ∈ FA ++ FB, a.1 ≠ b := fun b o its hb ⟨p1, _, n, p3⟩ a ha h => by
    have hcl : s₂.heap.get? a.1 = some a.2 ∧ (a.2.cls = .ref 52 ∨ ∃ es ep, a.2.data = .dict es ep) := by
      rcases List.mem_append.mp ha with ha | ha
      · exact ⟨(fA a ha).1, (fA a ha).2.2⟩
      · exact ⟨(fB a ha).1, (fB a ha).2.2⟩
    rw [h, hb] at hcl
    have := Option.some.inj hcl.1
    rcases hcl.2 with hc | ⟨es, ep, hd⟩
    · rw [← this, p1] at hc; cases hc
    · rw [← this, p3] at hd; cases hd
  have hFE : ∀ a ∈ FA ++ FB, a.1 ≠ L1 ∧ a.1 ≠ L2 ∧ NewAt c K a.1 := fun a ha => by
    refine ⟨cd L1 o1 _ gL1 P1 a ha, cd L2 o2 _ gL2 P2 a ha, NA _ ?_⟩
    rcases List.mem_append.mp ha with ha | ha
    · rcases (fA a ha).2.1 with h | h
      · rw [h]; exact n1
      · rw [h]; exact nd1'
    · rcases (fB a ha).2.1 with h | h
      · rw [h]; exact none1 _ n2
      · rw [h]; exact none1 _ nd2'
  have NL1 := NA L1 nL1
  have NL2 := NA L2 (none1 _ nL2)
  have X₆ : Act (c.fx ((L1, o1) :: (L2, o2) :: ((FA ++ FB) ++ F))) K [] ρ { s₂ with heap := h' } := X₅.refix (fun a ha => by
    simp only [List.mem_cons, List.mem_append] at ha
    rcases ha with rfl | rfl | (ha | ha) | ha
    · exact k45.get _ _ gL1
    · exact k45.get _ _ gL2
    · exact k45.get _ _ (fA a ha).1
    · exact k45.get _ _ (fB a ha).1
    · exact X₅.sit.fx a ha) (fun a ha => by
    simp only [List.mem_cons, List.mem_append] at ha
    rcases ha with rfl | rfl | ha | ha
    · exact NL1.own
    · exact NL2.own
    · exact (hFE a (List.mem_append.mpr ha)).2.2.own
    · exact X₅.fo a ha)
  show wpAny _ _ (do holding [Value.ref e1] (bindName c.env y (.ref e2)); (do holding [] (bindName c.env x (.ref e1)); pure ())) _ _ _
  refine wpAny_bind (wpAny_holding (wpAny_bindName (X₆.store (p := .obj e2) rfl h2 hsub hy fun s₆ X₆ => ?_)))
  refine wpAny_bind (wpAny_holding (wpAny_bindName (X₆.store (p := .obj e1) rfl h1 (fun _ h => h) hx fun s₇ X₇ => wpAny_pure ?_)))
  exact fun E' => (k e1 L1 o1 e2 L2 o2 (FA ++ FB) NL1 NL2 P1 P2 hL12 (EA.mono fun a ha => List.mem_append_left _ ha) (EB.mono fun a ha => List.mem_append_right _ ha) hFE).run s₇ E' X₇
end

end
section
open PySem PySem.W PyProof.Rows PySem.Calls PySem.Builtin
set_option Elab.async false
set_option maxRecDepth 100000
set_option linter.all false
/-- a later base of the same frame: the table of code objects aside, what was there stands -/
structure Lk (c : Cx) (K K' : Shared) : Prop where
  keep : ∀ b o, ¬ own c [] b → b ≠ tb → K.heap.get? b = some o → K'.heap.get? b = some o
  eq : ∃ h tk, K' = { K with heap := h, toks := tk }
/-- a base at which the table of code objects is full -/
structure Base (c : Cx) (K : Shared) : Prop where
  act : ∃ F ρ, Act (c.fx F) K [] ρ K
  tab : ∃ ps, TabIs K.heap ps ∧ full ps
theorem reps_objs {H : List Addr} {h : Heap} : ∀ l : List Addr, Reps H h (l.map .obj) (l.map Value.ref)
  | [] => rfl
  | a :: l => ⟨.ref a, _, rfl, rfl, reps_objs l⟩
theorem objs_reps {H : List Addr} {h : Heap} : ∀ {l : List Addr} {vs : List Value}, Reps H h (l.map .obj) vs → vs = l.map Value.ref
  | [], vs, r => r
  | a :: l, vs, r => by
    obtain ⟨v, us, rfl, h1, h2⟩ := r
    rw [show v = Value.ref a from h1, objs_reps h2]
    rfl
section
variable {c : Cx} {K : Shared} {ρ : List (Str × PV)} {Q : Flow → Shared → Prop} {F : List (Addr × Obj)}
theorem Bd.refix {F' : List (Addr × Obj)} {body : List Stmt} (h : ∀ e ∈ F', e ∈ F) (k : Bd (c.fx F') K [] ρ body Q) : Bd (c.fx F) K [] ρ body Q :=
  ⟨fun s E X => k.run s E (X.refix (fun e he => X.sit.fx e (h e he)) fun e he => X.fo e (h e he))⟩
/-- in a base's state what is new is not the frame's own -/
theorem NewO.nown {s s' : Shared} {lo : Nat} {Hs : List Addr} {e : Addr × Obj} (x : NewO lo Hs e) (he : s'.heap.get? e.1 = some e.2) (X : Act (c.fx F) K [] ρ s) {ρ' : List (Str × PV)} {K' : Shared} {F' : List (Addr × Obj)} (X' : Act (c.fx F') K' [] ρ' s') (hlo : ∀ b o, s.heap.get? b = some o → b < lo) : ¬ own c [] e.1 := by
  rintro (h | ⟨n, h⟩ | h)
  · obtain ⟨m, o, es, ep, g, d, _⟩ := X'.ns
    have g : s'.heap.get? e.1 = some o := by rw [h]; exact g
    rw [he] at g; cases g
    have h1 := x.fr (by rw [d])
    obtain ⟨m', o', es', ep', g', _⟩ := X.ns
    have h2 := hlo _ _ g'
    rw [h] at h1
    exact absurd h2 (Nat.not_lt.mpr h1)
  · obtain ⟨v, o, g, d⟩ := X'.cell n _ h
    rw [he] at g; cases g
    have h1 := x.fr (by rw [d])
    obtain ⟨v', o', g', d'⟩ := X.cell n _ h
    exact absurd (hlo _ _ g') (Nat.not_lt.mpr h1)
  · simp at h
/-- the comprehension of rules, in a name -/
theorem Bd.rulesL {n : Nat} {xs : List PV} {sev : Nat → List (List (List Nat))} {w : Nat → PV} {e1 e2 iter : Expr} {x y : Str} {px py p cpos pos apos : Pos} {scope : Scope} {r ρ' : List (Str × PV)} {rest : List Stmt} {Hs : List Addr}
    (hH : c.H = []) (hN : c.N = n + 1) (T0 : K.heap.get? tb = some (tabObj #[])) (hfx : ∀ e ∈ F, e.1 ≠ tb) (hem : ∀ b ∈ Hs, ∃ o k, (b, o) ∈ F ∧ o.data = .seq #[] k) (hr : ∀ e ∈ r, e ∈ ρ ∧ dis true e.2 = true)
    (hit : Ev { c.fx F with H := Hs } r iter (.tup xs)) (hflt : ∀ y ∈ xs, flt y = true) (hne : 0 < xs.length) (hsz : xs.length ≤ 1000)
    (hok : closOk c.env scope.names = true) (hcell : scope.names.all (fun y => !(y.2 == .cell)) = true) (hkind : scope.kind = .function)
    (hnames : scope.names.all (fun y => !(y.2 == .local) || (scope.names.lookup y.1 == some .local)) = true) (hx : scope.names.lookup x = some .local) (hd : (x == ("__debug__" : Str)) = false)
    (hsub : ∀ e ∈ ρ', e ∈ r) (hcap : (ρ'.map (·.1)).all (capOk c.env scope) = true) (hgl : ∀ C D, isGl ((({ c.fx F with H := Hs } : Cx).hid D).comp scope C) (Str.ofString "_law_rule"))
    (h1 : ∀ i y, xs[i]? = some y → ∀ C D, Ev ((({ c.fx F with H := Hs } : Cx).hid D).comp scope C) ((x, y) :: ρ') e1 (sevPV (sev i))) (h2 : ∀ i y, xs[i]? = some y → ∀ C D, Ev ((({ c.fx F with H := Hs } : Cx).hid D).comp scope C) ((x, y) :: ρ') e2 (w i)) (hw : ∀ i, flt (w i) = true)
    (hst : ∀ C, starEach [e1, e2] (({ c.fx F with H := Hs } : Cx).comp scope C).env = (false, eval e1 (({ c.fx F with H := Hs } : Cx).comp scope C).env) :: starEach [e2] (({ c.fx F with H := Hs } : Cx).comp scope C).env)
    (hst2 : ∀ C, starEach [e2] (({ c.fx F with H := Hs } : Cx).comp scope C).env = (false, eval e2 (({ c.fx F with H := Hs } : Cx).comp scope C).env) :: starEach [] (({ c.fx F with H := Hs } : Cx).comp scope C).env)
    (hs : ∀ v, foldedSetIterable iter c.env v = pure v)
    (hsto : stOk c.env y = true) (hy : (ρ.map (·.1)).contains y = false) (hsw : swapsWith (.ListComp (.Call (.Name (Str.ofString "_law_rule") p) [e1, e2] [] cpos) [⟨.Name x px, iter, [], 0⟩] scope pos) (some (.Name y py)) apos.line c.env = pure false)
    (k : ∀ (K' : Shared) (rs : List Addr) (FR : List (Addr × Obj)), Lk c K K' → Base c K' → rs.length = xs.length → (∀ j r, rs[j]? = some r → RuleFx FR r (sev j) (w j)) → (∀ e ∈ FR, e.1 ∉ Hs) → (∀ e ∈ FR, e.1 ≠ tb) → Bd (c.fx (FR ++ F)) K' [] ((y, .list (rs.map .obj)) :: ρ) rest Q) :
    Bd (c.fx F) K [] ρ (.Assign [.Name y py] (.ListComp (.Call (.Name (Str.ofString "_law_rule") p) [e1, e2] [] cpos) [⟨.Name x px, iter, [], 0⟩] scope pos) apos :: rest) Q := Bd.seq fun s E X => by
  refine wpAny_Assign_Name ?_ hsw
  have hcH : ((c.fx F).hide []).H = [] := by show [] ++ c.H = []; rw [hH]; rfl
  have Ts : TabIs s.heap #[] := ⟨X.keep tb _ (fun h => (X.h1 tb h).2 rfl) T0, trivial, fun pos c' e => by simp [codeAmong] at e⟩
  have hfo := X.fo
  have hemp : ∀ b ∈ Hs, EmptyAt s.heap b := fun b hb => by
    obtain ⟨o, k, hm, hd⟩ := hem b hb
    exact ⟨o, k, X.sit.fx (b, o) hm, hd⟩
  have S : Sit { c.fx F with H := Hs } r s := by
    have S0 := X.view0 hH
    refine ⟨S0.gd, fun a ha => let ⟨o, k, e, _⟩ := hemp a ha; ⟨o, e⟩, S0.fn, S0.gl, S0.bl, fun e he => ?_, S0.hh, S0.ru, S0.rd, S0.fx⟩
    obtain ⟨hm, hdis⟩ := hr e he
    obtain ⟨v, g1, g2⟩ := S0.vars e hm
    refine ⟨v, g1, ?_⟩
    have := Rep.emH hdis g2 Hs hemp
    rw [show (c.fx F).H = [] from hH, List.append_nil] at this
    exact this
  refine run_rules (c := { c.fx F with H := Hs }) S hN hfx Ts (fun b hb => let ⟨o, k, e, d⟩ := hemp b hb; ⟨o, _, k, e, d⟩) hit hflt hne hsz hok hcell hkind hnames hx hd hsub hcap hgl h1 h2 hw hst hst2 hs fun D s' ps' rs FR lo hlo hDn kt T' hf hl hrl hFR hRR => ?_
  have X' : Act (c.fx F) s' [] ρ s' := X.jump (· = tb) kt.get kt.eq (fun b hb h => (X.h1 b h).2 hb) (fun b hb => .inl hb) ⟨_, T'.at_⟩ (fun b hb o ho ys n hd => by rw [hb, Ts.at_] at ho; cases ho; cases hd) (fun e he h => hfx e he h) (fun a ha => by rw [show (c.fx F).H = [] from hH] at ha; cases ha)
  have X'' : Act (c.fx (FR ++ F)) s' [] ρ s' := X'.refix (fun e he => by
    rcases List.mem_append.mp he with he | he
    · exact (hFR e he).1
    · exact X'.sit.fx e he) (fun e he => by
    rcases List.mem_append.mp he with he | he
    · exact (hFR e he).2.1.nown (hFR e he).1 X X' hlo
    · exact X'.fo e he)
  have hrep : Rep [] s'.heap (.list (rs.map .obj)) (.ref D) := ⟨D, _, rfl, by simp, hl, by simp [hrl]; omega, by simpa using reps_objs (H := []) (h := s'.heap) rs⟩
  refine X''.store (p := .list (rs.map .obj)) (by rw [show ((c.fx (FR ++ F)).hide []).H = [] from hcH]; exact hrep) hsto (fun _ h => h) hy fun s₃ X₃ => ?_
  have hLk : Lk c K s' := ⟨fun b o hb ht e => kt.get b o ht (X.keep b o hb e), sameS X.same kt.eq⟩
  exact fun E' => (k s' rs FR hLk ⟨⟨_, _, X''⟩, ps', T', hf⟩ hrl hRR (fun e he => (hFR e he).2.1.nh) (fun e he => (hFR e he).2.1.netb (hFR e he).1 T')).run s₃ E' X₃
theorem get_blank (a : Addr) : ({} : Heap).get? a = none := Heap.get?_none_of_le (Nat.zero_le _)
theorem Act.blank {s : Shared} (X : Act c K [] ρ s) : Act c { s with heap := {} } [] ρ s := ⟨X.sit, X.mus, X.ns, X.cell, X.apart, X.above, X.h1, (fun b o _ e => by rw [show ({ s with heap := {} } : Shared).heap.get? b = none from get_blank b] at e; cases e), ⟨s.heap, s.toks, rfl⟩, X.fo⟩
theorem ev_ruleL {x : Str} {p apos : Pos} {e L : Addr} {s : Shared} {Q : Value → Shared → Prop} {E : Value → Shared → Prop} (S : Sit c ρ s) (hE : EntB c.fix e L) (hm : (x, PV.obj e) ∈ ρ) (hQ : ∀ s', Kp s s' → Q (.ref L) s') :
    wpAny (model pg c.w) c.A (eval (.Attribute (.Name x p) (Str.ofString "rulelines") apos) c.env) Q E s := by
  rw [arm_eval_Attribute]
  refine wpAny_bind (m := eval (.Name x p) c.env) ((Ev.name hm).run s _ _ S fun ov s₁ k₁ r₁ => ?_)
  obtain rfl : ov = .ref e := r₁
  have S₁ := S.keeps k₁
  obtain ⟨mA, I, h1, h2⟩ := hE s₁.heap S₁.fx
  have hc := gd_cls S₁.gd
  have hn := gd_cns S₁.gd
  have hnone := ent_none c.w.params
  obtain ⟨hp, gg, d, t, os⟩ := s₁
  refine wpAny_bind (wpAny_standAt (wpAny_bind (wpAny_holding (load_attr hc hn (hnone _ (by simp)) (hnone _ (by simp)) (ob_none _ (by simp)) I h1 rfl ?_))))
  refine wpAny_bind (wpAny_of_eq (a := ()) rfl (wpAny_pure ?_))
  have k₂ : Kp (⟨hp, gg, d, t, os⟩ : Shared) ⟨hp, gg, d, t + 1, os⟩ := .tok _ _
  exact hQ _ (k₁.trans k₂)
/-- an entry's empty list of rules takes a list -/
theorem Bd.extend {K0 : Shared} {P : List Addr → List (Addr × Obj) → Prop} {x : Str} {xp ap apos pos pos' : Pos} {ent L : Addr} {oL : Obj} {arg : Expr} {rest : List Stmt} (r : List (Str × PV)) (hH : c.H = []) (hm : (x, PV.obj ent) ∈ ρ) (hLk : Lk c K0 K) (hK0 : NewAt c K0 L) (hB : Base c K) (hE : EntB F ent L) (hL : PlainO oL #[])
    (hbase : attributeBase (.Attribute (.Name x xp) (Str.ofString "rulelines") ap) (Str.ofString "extend") c.env (eval (.Attribute (.Name x xp) (Str.ofString "rulelines") ap) c.env) = eval (.Attribute (.Name x xp) (Str.ofString "rulelines") ap) c.env)
    (htr : ∀ pos, backTo pos (starEach [arg] c.env) = [(false, eval arg c.env)]) (hline : (apos.endLine == pos.line) = true) (hint : interactive c.env = false) (hFL : ∀ e ∈ F, e.1 ≠ L)
    (harg : ∀ (s : Shared) (E : Value → Shared → Prop) (Q' : Value → Shared → Prop), Act (c.fx ((L, oL) :: F)) K [] ρ s → (∀ (v : Value) (s' : Shared) (rs : List Addr) (FN : List (Addr × Obj)), Kp s s' → Rep [] s'.heap (.list (rs.map .obj)) v → rs.length ≤ 1000 → P rs FN → (∀ e ∈ FN, s'.heap.get? e.1 = some e.2 ∧ e.1 ≠ L ∧ ¬ own c [] e.1) → Q' v s') → wpAny (model pg c.w) c.A (eval arg c.env) Q' E s)
    (hsub : ∀ e ∈ r, e ∈ ρ ∧ dis true e.2 = true)
    (k : ∀ (rs : List Addr) (FN : List (Addr × Obj)) (oL' : Obj) (K' : Shared), P rs FN → PlainO oL' (rs.map Value.ref).toArray → Lk c K0 K' → Base c K' → (∀ e ∈ FN, e.1 ≠ L) → Bd (c.fx ((L, oL') :: (FN ++ F))) K' [] r rest Q) :
    Bd (c.fx ((L, oL) :: F)) K [] ρ (.Expr (.Call (.Attribute (.Attribute (.Name x xp) (Str.ofString "rulelines") ap) (Str.ofString "extend") apos) [arg] [] pos) pos' :: rest) Q := Bd.seq fun s E X => by
  have hfew : ((backTo pos (starEach [arg] c.env)).all (fun x => !x.1) && (backToKw pos (keywordEach [] c.env)).all (fun x => x.1.isSome) && decide (([arg] : List Expr).length + ([] : List Keyword).length + (if ([] : List Keyword).isEmpty then 0 else 1) < 30)) = true := by rw [htr]; rfl
  refine wpAny_Expr (wpAny_Call_method (T := "list") (id := "list.extend") hbase hfew hline PySem.F.plainAttrs_list PySem.F.slot_list_extend PySem.F.type_list_extend ?_) hint
  refine ev_ruleL (c := c.fx ((L, oL) :: F)) (X.view0 hH) (hE.mono fun a ha => List.mem_cons_of_mem _ ha) hm fun s₁ k₁ => ?_
  have X₁ := X.kp k₁
  have hL₁ : s₁.heap.get? L = some oL := X₁.sit.fx (L, oL) List.mem_cons_self
  obtain ⟨hcl, hdd, n, hdat⟩ := hL
  refine ⟨⟨oL, hL₁, hcl⟩, fun a ha => by cases ha; exact ⟨oL, hL₁, hdd⟩, ?_⟩
  rw [htr]
  refine Calls.callWith_builtin rfl (Calls.evalArgs_plain (Calls.spliced_cons (harg s₁ _ _ X₁ fun v s₂ rs FN k₂ hv hrs hP hFN => Calls.spliced_nil ?_)))
  obtain ⟨b, its, rfl, _, ⟨ob, hob, hcb, nb, hdb⟩, hz, hr⟩ := hv
  have hits : its = (rs.map Value.ref).toArray := by
    have := objs_reps hr
    rw [← this]
  have X₂ := X₁.kp k₂
  have hL₂ : s₂.heap.get? L = some oL := X₂.sit.fx (L, oL) List.mem_cons_self
  obtain ⟨n', hd'⟩ := Obj.data_mapSeq hdat (· ++ its)
  have hupd : (s₂.heap.update L (Obj.mapSeq fun x => x ++ its)).get? L = some (Obj.mapSeq (fun x => x ++ its) oL) := Heap.get?_update_self _ hL₂ (Obj.isFreed_of_seq hd')
  have hcl' : (Obj.mapSeq (fun x => x ++ its) oL).cls = .type "list" := (Obj.cls_mapSeq ..).trans hcl
  have hdd' : (Obj.mapSeq (fun x => x ++ its) oL).dict = none := by
    obtain ⟨c0, d0, dt, sl⟩ := oL
    simp only at hdat
    subst hdat
    exact hdd
  generalize hoL' : Obj.mapSeq (fun x => x ++ its) oL = oL' at hupd hcl' hdd' hd'
  have hk : ∀ b o, b ≠ L → s₂.heap.get? b = some o → (s₂.heap.update L (Obj.mapSeq fun x => x ++ its)).get? b = some o := fun b o hb e => (Heap.get?_update_other _ _ (Ne.symm hb)).trans e
  have hcall : Mine.cont c rest Q .next ({ s₂ with heap := s₂.heap.update L (Obj.mapSeq fun x => x ++ its), toks := s₂.toks } : Shared) := by
    have hP' : PlainO oL' (rs.map Value.ref).toArray := ⟨hcl', hdd', n', by rw [hd', ← hits]; simp⟩
    have X₃ : Act (c.fx ((L, oL') :: (FN ++ F))) _ [] r { s₂ with heap := s₂.heap.update L (Obj.mapSeq fun x => x ++ its), toks := s₂.toks } :=
      (X₂.blank).jumpL (em := true) hH hL₂ hdat (fun _ => rfl) (fun h => nomatch h) hk ⟨_, _, rfl⟩ hK0.own ⟨hK0.h1, hK0.tb⟩ (get_blank L) hsub (fun e he => by
        rcases List.mem_cons.mp he with rfl | he
        · exact hupd
        · rcases List.mem_append.mp he with he | he
          · exact hk _ _ (hFN e he).2.1 (hFN e he).1
          · exact hk _ _ (hFL e he) (X₂.sit.fx e (List.mem_cons_of_mem _ he))) (fun e he => by
        rcases List.mem_cons.mp he with rfl | he
        · exact hK0.own
        · rcases List.mem_append.mp he with he | he
          · exact (hFN e he).2.2
          · exact X₂.fo e (List.mem_cons_of_mem _ he))
    have X₄ := X₃.here
    obtain ⟨⟨F0, ρ0, XB⟩, ps, T, hf⟩ := hB
    have T₂ : TabIs s₂.heap ps := TabIs.through T XB ((X₂.refix (F' := F0) (fun e he => X₂.keep _ _ (XB.fo e he) (XB.sit.fx e he)) XB.fo))
    have T₃ : TabIs (s₂.heap.update L (Obj.mapSeq fun x => x ++ its)) ps := by
      refine ⟨hk _ _ hK0.tb.symm T₂.at_, T₂.ok, fun pp c' e => ?_⟩
      obtain ⟨a, o, vs, t, rfl, ho, hd, hv⟩ := T₂.recs pp c' e
      refine ⟨a, o, vs, t, rfl, hk a o (fun h => ?_) ho, hd, hv⟩
      rw [h, hL₂] at ho; cases ho
      rw [hdat] at hd; cases hd
    have hLk' : Lk c K0 { s₂ with heap := s₂.heap.update L (Obj.mapSeq fun x => x ++ its), toks := s₂.toks } := by
      refine ⟨fun b o hb ht e => hk b o (fun h => by rw [h, hK0.base] at e; cases e) (X₂.keep b o hb (hLk.keep b o hb ht e)), sameS (sameS hLk.eq X₂.same) (sameU _ _ _)⟩
    exact fun E' => (k rs FN oL' _ hP hP' hLk' ⟨⟨_, _, X₄⟩, ps, T₃, hf⟩ fun e he => (hFN e he).2.1).run _ E' X₄
  obtain ⟨cL, dL, datL, slL⟩ := oL
  simp only at hcl hdd hdat
  subst hcl hdd hdat
  obtain ⟨cb, db, datb, slb⟩ := ob
  simp only at hcb hdb
  subst hcb hdb
  exact call_meets PySem.F.slot_list_extend ⟨_, hL₂, rfl⟩ PySem.F.entry_list_extend (PySem.F.args_list_extend_2 _ _) (mine_extend L n b its nb none db slL slb (by rw [hits]; simpa using hrs)) ⟨hL₂, hob, hcall⟩
end

end
section
open PySem PySem.W PyProof.Rows PySem.Calls PySem.Builtin
set_option Elab.async false
set_option maxRecDepth 100000
set_option linter.all false
section
variable {c : Cx} {K : Shared} {ρ : List (Str × PV)} {F : List (Addr × Obj)}
noncomputable def ruleCall (np cp : Pos) (a b : Expr) : Expr := .Call (.Name (Str.ofString "_law_rule") np) [a, b] [] cp
/-- a call of _law_rule, the table of code objects being full -/
theorem Act.runRule {n : Nat} {s : Shared} {sev : List (List (List Nat))} {w : PV} {e1 e2 : Expr} {p pos : Pos} {Q : Value → Shared → Prop} {E : Value → Shared → Prop} {Hs : List Addr} {r : List (Str × PV)} (X : Act (c.fx F) K [] ρ s) (hB : Base c K) (hH : c.H = []) (hN : c.N = n + 1)
    (hfx : ∀ e ∈ F, e.1 ≠ tb) (hem : ∀ b ∈ Hs, ∃ o k, (b, o) ∈ F ∧ o.data = .seq #[] k) (hr : ∀ e ∈ r, e ∈ ρ ∧ dis true e.2 = true)
    (hgl : isGl c (Str.ofString "_law_rule")) (h1 : Ev { c.fx F with H := Hs } r e1 (sevPV sev)) (h2 : Ev { c.fx F with H := Hs } r e2 w) (hw : flt w = true)
    (hst : starEach [e1, e2] c.env = (false, eval e1 c.env) :: starEach [e2] c.env) (hst2 : starEach [e2] c.env = (false, eval e2 c.env) :: starEach [] c.env)
    (hQ : ∀ (rr : Addr) (s' : Shared) (FN : List (Addr × Obj)), Kp s s' → (∀ e ∈ FN, s'.heap.get? e.1 = some e.2 ∧ e.1 ∉ Hs ∧ e.1 ≠ tb ∧ ¬ own c [] e.1) → RuleFx FN rr sev w → Q (.ref rr) s') :
    wpAny (model pg c.w) c.A (eval (ruleCall p pos e1 e2) c.env) Q E s := by
  obtain ⟨⟨F0, ρ0, XB⟩, ps, T, hf⟩ := hB
  have Ts : TabIs s.heap ps := TabIs.through T XB ((X.refix (F' := F0) (fun e he => X.keep _ _ (XB.fo e he) (XB.sit.fx e he)) XB.fo))
  have hemp : ∀ b ∈ Hs, EmptyAt s.heap b := fun b hb => by
    obtain ⟨o, k, hm, hd⟩ := hem b hb
    exact ⟨o, k, X.sit.fx (b, o) hm, hd⟩
  have S : Sit { c.fx F with H := Hs } r s := by
    have S0 := X.view0 hH
    refine ⟨S0.gd, fun a ha => let ⟨o, k, e, _⟩ := hemp a ha; ⟨o, e⟩, S0.fn, S0.gl, S0.bl, fun e he => ?_, S0.hh, S0.ru, S0.rd, S0.fx⟩
    obtain ⟨hm, hdis⟩ := hr e he
    obtain ⟨v, g1, g2⟩ := S0.vars e hm
    refine ⟨v, g1, ?_⟩
    have := Rep.emH hdis g2 Hs hemp
    rw [show (c.fx F).H = [] from hH, List.append_nil] at this
    exact this
  refine run_rule (c := { c.fx F with H := Hs }) S hN hfx Ts hgl h1 h2 hw (fun b hb => let ⟨o, k, e, d⟩ := hemp b hb; ⟨o, _, k, e, d⟩) hst hst2 fun rr s' ps' FN lo hlo _ kt T' _ hkp hFN hR => ?_
  have k := hkp hf
  exact hQ rr s' FN k (fun e he => ⟨(hFN e he).1, (hFN e he).2.nh, (hFN e he).2.netb (hFN e he).1 T', (hFN e he).2.nown (hFN e he).1 X (X.kp k) hlo⟩) hR
/-- what the record of both rules is given -/
noncomputable def FourP (sev : List (List (List Nat))) (rs0 : List Addr) (rs : List Addr) (FN : List (Addr × Obj)) : Prop :=
  ∃ r1 r2 r3 r4, rs = r1 :: r2 :: (rs0 ++ [r3, r4]) ∧ RuleFx FN r1 [] (.str (Str.ofString "near").cps.toList) ∧ RuleFx FN r2 sev (.bool false) ∧ RuleFx FN r3 sev (.bool true) ∧ RuleFx FN r4 [] (.str (Str.ofString "near").cps.toList) ∧ ∀ e ∈ FN, e.1 ≠ tb
theorem run_four {n : Nat} {s : Shared} {sev : List (List (List Nat))} {x y : Str} {q1 q2 q3 q4 c1 c2 c3 c4 l1 l2 n1 n4 x2 x3 b2 b3 yp p1 p2 p3 p4 : Pos} {Q : Value → Shared → Prop} {E : Value → Shared → Prop} {Hs : List Addr} {r : List (Str × PV)} {rs0 : List Addr}
    (X : Act (c.fx F) K [] ρ s) (hB : Base c K) (hH : c.H = []) (hN : c.N = n + 1)
    (hfx : ∀ e ∈ F, e.1 ≠ tb) (hem : ∀ b ∈ Hs, ∃ o k, (b, o) ∈ F ∧ o.data = .seq #[] k) (hr : ∀ e ∈ r, e ∈ ρ ∧ dis true e.2 = true) (hmx : (x, sevPV sev) ∈ r) (hmy : (y, PV.list (rs0.map .obj)) ∈ ρ) (hz : rs0.length ≤ 900)
    (hgl : isGl c (Str.ofString "_law_rule"))
    (s1 : starEach [.List [] l1, .Constant (.str (Str.ofString "near")) 0 n1] c.env = (false, eval (.List [] l1) c.env) :: starEach [.Constant (.str (Str.ofString "near")) 0 n1] c.env)
    (s1' : ∀ n1, starEach [.Constant (.str (Str.ofString "near")) 0 n1] c.env = (false, eval (.Constant (.str (Str.ofString "near")) 0 n1) c.env) :: starEach [] c.env)
    (s2 : starEach [.Name x x2, .Constant (.bool false) 0 b2] c.env = (false, eval (.Name x x2) c.env) :: starEach [.Constant (.bool false) 0 b2] c.env)
    (s2' : starEach [.Constant (.bool false) 0 b2] c.env = (false, eval (.Constant (.bool false) 0 b2) c.env) :: starEach [] c.env)
    (s3 : starEach [.Name x x3, .Constant (.bool true) 0 b3] c.env = (false, eval (.Name x x3) c.env) :: starEach [.Constant (.bool true) 0 b3] c.env)
    (s3' : starEach [.Constant (.bool true) 0 b3] c.env = (false, eval (.Constant (.bool true) 0 b3) c.env) :: starEach [] c.env)
    (s4 : starEach [.List [] l2, .Constant (.str (Str.ofString "near")) 0 n4] c.env = (false, eval (.List [] l2) c.env) :: starEach [.Constant (.str (Str.ofString "near")) 0 n4] c.env)
    (t1 : starEach [ruleCall q1 c1 (.List [] l1) (.Constant (.str (Str.ofString "near")) 0 n1), ruleCall q2 c2 (.Name x x2) (.Constant (.bool false) 0 b2)] c.env = [(false, eval (ruleCall q1 c1 (.List [] l1) (.Constant (.str (Str.ofString "near")) 0 n1)) c.env), (false, eval (ruleCall q2 c2 (.Name x x2) (.Constant (.bool false) 0 b2)) c.env)])
    (t2 : starEach [ruleCall q3 c3 (.Name x x3) (.Constant (.bool true) 0 b3), ruleCall q4 c4 (.List [] l2) (.Constant (.str (Str.ofString "near")) 0 n4)] c.env = [(false, eval (ruleCall q3 c3 (.Name x x3) (.Constant (.bool true) 0 b3)) c.env), (false, eval (ruleCall q4 c4 (.List [] l2) (.Constant (.str (Str.ofString "near")) 0 n4)) c.env)])
    (hQ : ∀ (v : Value) (s' : Shared) (rs : List Addr) (FN : List (Addr × Obj)), Kp s s' → Rep [] s'.heap (.list (rs.map .obj)) v → rs.length ≤ 1000 → FourP sev rs0 rs FN → (∀ e ∈ FN, s'.heap.get? e.1 = some e.2 ∧ e.1 ∉ Hs ∧ ¬ own c [] e.1) → Q v s') :
    wpAny (model pg c.w) c.A (eval (.BinOp (.BinOp (.List [ruleCall q1 c1 (.List [] l1) (.Constant (.str (Str.ofString "near")) 0 n1), ruleCall q2 c2 (.Name x x2) (.Constant (.bool false) 0 b2)] p1) .Add (.Name y yp) p2) .Add
      (.List [ruleCall q3 c3 (.Name x x3) (.Constant (.bool true) 0 b3), ruleCall q4 c4 (.List [] l2) (.Constant (.str (Str.ofString "near")) 0 n4)] p3) p4) c.env) Q E s := by
  have emp : ∀ l, Ev { c.fx F with H := Hs } r (.List [] l) (sevPV []) := fun l => Ev.list Evs.nil (by decide)
  refine wpAny_BinOp (wpAny_BinOp (wpAny_List ?_))
  rw [t1]
  refine spliced_cons (X.runRule hB hH hN hfx hem hr hgl (emp l1) Ev.cstr rfl s1 (s1' _) fun r1 s₁ F1 k₁ f1 R1 => ?_)
  have X₁ := X.kp k₁
  refine spliced_cons (X₁.runRule hB hH hN hfx hem hr hgl (Ev.name hmx) Ev.cbool rfl s2 s2' fun r2 s₂ F2 k₂ f2 R2 => spliced_nil ⟨by simp [sizeLine], ?_⟩)
  have X₂ := X₁.kp k₂
  have kp3 : Kp s₂ { s₂ with heap := s₂.heap.push { cls := .type "list", data := .seq [Value.ref r1, Value.ref r2].toArray } } := .of s₂ fun b o e => Heap.get?_push_of_some _ e
  have X₃ := X₂.kp kp3
  have hl3 : Rep (c.fx F).H ({ s₂ with heap := s₂.heap.push { cls := .type "list", data := .seq [Value.ref r1, Value.ref r2].toArray } } : Shared).heap (.list ([r1, r2].map .obj)) (.ref s₂.heap.objs.size) := ⟨_, _, rfl, (X₂.view0 hH).fresh (Nat.le_refl _), ⟨_, Heap.get?_push_size _ rfl, rfl, 0, rfl⟩, by simp, by simpa using reps_objs [r1, r2]⟩
  refine (Ev.name (c := c.fx F) hmy).run _ _ _ (X₃.view0 hH) fun v₄ s₄ k₄ hl4 => ?_
  have X₄ := X₃.kp k₄
  refine (Bo.add_list (c := c.fx F) (ρ := ρ) (by simp; omega)).run s₄ _ _ _ _ (X₄.view0 hH) (hl3.kp k₄) hl4 fun v₅ s₅ k₅ hl5 => ?_
  have X₅ := X₄.kp k₅
  refine wpAny_List ?_
  rw [t2]
  refine spliced_cons (X₅.runRule hB hH hN hfx hem hr hgl (Ev.name hmx) Ev.cbool rfl s3 s3' fun r3 s₆ F3 k₆ f3 R3 => ?_)
  have X₆ := X₅.kp k₆
  refine spliced_cons (X₆.runRule hB hH hN hfx hem hr hgl (emp l2) Ev.cstr rfl s4 (s1' _) fun r4 s₇ F4 k₇ f4 R4 => spliced_nil ⟨by simp [sizeLine], ?_⟩)
  have X₇ := X₆.kp k₇
  have kp8 : Kp s₇ { s₇ with heap := s₇.heap.push { cls := .type "list", data := .seq [Value.ref r3, Value.ref r4].toArray } } := .of s₇ fun b o e => Heap.get?_push_of_some _ e
  have X₈ := X₇.kp kp8
  have hl8 : Rep (c.fx F).H ({ s₇ with heap := s₇.heap.push { cls := .type "list", data := .seq [Value.ref r3, Value.ref r4].toArray } } : Shared).heap (.list ([r3, r4].map .obj)) (.ref s₇.heap.objs.size) := ⟨_, _, rfl, (X₇.view0 hH).fresh (Nat.le_refl _), ⟨_, Heap.get?_push_size _ rfl, rfl, 0, rfl⟩, by simp, by simpa using reps_objs [r3, r4]⟩
  refine (Bo.add_list (c := c.fx F) (ρ := ρ) (by simp; omega)).run _ _ _ _ _ (X₈.view0 hH) (((hl5.kp k₆).kp k₇).kp kp8) hl8 fun v₉ s₉ k₉ hl9 => ?_
  have k78 := kp8.trans k₉
  have k68 := k₇.trans k78
  have k58 := k₆.trans k68
  have k28 := kp3.trans (k₄.trans (k₅.trans k58))
  have k18 := k₂.trans k28
  have hlist : (([r1, r2].map PV.obj ++ rs0.map .obj) ++ [r3, r4].map .obj) = (r1 :: r2 :: (rs0 ++ [r3, r4])).map .obj := by simp
  rw [hlist] at hl9
  rw [show (c.fx F).H = [] from hH] at hl9
  refine hQ v₉ s₉ _ (F1 ++ (F2 ++ (F3 ++ F4))) (k₁.trans k18) hl9 (by simp; omega) ⟨r1, r2, r3, r4, rfl, R1.mono fun e he => by simp [he], R2.mono fun e he => by simp [he], R3.mono fun e he => by simp [he], R4.mono fun e he => by simp [he], fun e he => ?_⟩ fun e he => ?_
  · simp only [List.mem_append] at he
    rcases he with he | he | he | he
    · exact (f1 e he).2.2.1
    · exact (f2 e he).2.2.1
    · exact (f3 e he).2.2.1
    · exact (f4 e he).2.2.1
  · simp only [List.mem_append] at he
    rcases he with he | he | he | he
    · exact ⟨k18.get _ _ (f1 e he).1, (f1 e he).2.1, (f1 e he).2.2.2⟩
    · exact ⟨k28.get _ _ (f2 e he).1, (f2 e he).2.1, (f2 e he).2.2.2⟩
    · exact ⟨k68.get _ _ (f3 e he).1, (f3 e he).2.1, (f3 e he).2.2.2⟩
    · exact ⟨k78.get _ _ (f4 e he).1, (f4 e he).2.1, (f4 e he).2.2.2⟩
end

end
section
open PySem PySem.W PyProof.Rows PySem.Calls
set_option Elab.async false
set_option maxRecDepth 100000
set_option maxHeartbeats 0
set_option linter.all false

/-! law: from the two entries to the end -/
theorem law_o : ∀ P, ((H1 P).get? 194).map (·.data) = some (.func (lawFd 21 "law" 193)) := by intro P; kernel_rfl
theorem law_c : ∀ P, codeOk (Str.ofString "law") ((H1 P).get? 193) = true := by intro P; kernel_rfl
noncomputable abbrev lawC (cc : Cx) (L : Addr) : Cx := cc.call (lawFd 21 "law" 193) L 194
noncomputable def nearW : PV := .str (Str.ofString "near").cps.toList
noncomputable abbrev rhoB (o t hd : List Nat) (size : Nat) (w0 w1 q0 q1 : List Nat) (p0 p1 : List (List Nat)) : List (Str × PV) :=
  [(Str.ofString "read", sevPV [p0, p1]), (Str.ofString "paths", .list [.str q0, .str q1]), (Str.ofString "words", .list [.str w0, .str w1]), (Str.ofString "two", .str t), (Str.ofString "one", .str o), (Str.ofString "head", .str hd), (Str.ofString "size", .int size)]
theorem fa0 {α : Type} {P : α → Prop} : ∀ e ∈ ([] : List α), P e := fun _ h => nomatch h
theorem fa1 {α : Type} {P : α → Prop} {a : α} {l : List α} (h : P a) (t : ∀ e ∈ l, P e) : ∀ e ∈ a :: l, P e := fun e he => (List.mem_cons.mp he).elim (fun q => q ▸ h) (t e)
theorem fap {α : Type} {P : α → Prop} {A B : List α} (h : ∀ e ∈ A, P e) (t : ∀ e ∈ B, P e) : ∀ e ∈ A ++ B, P e := fun e he => (List.mem_append.mp he).elim (h e) (t e)
theorem diss_str (em : Bool) (p : List (List Nat)) : diss em (p.map .str) = true := by
  induction p with
  | nil => rfl
  | cons x xs ih => show (true && diss em (xs.map .str)) = true; rw [ih]; rfl
theorem dis_parts {p : List (List Nat)} (h : p ≠ []) : dis true (.list (p.map .str)) = true := by
  cases p with
  | nil => exact absurd rfl h
  | cons x xs => show (true && diss true ((x :: xs).map .str)) = true; rw [diss_str]; rfl
theorem dis_sev {p0 p1 : List (List Nat)} (h0 : p0 ≠ []) (h1 : p1 ≠ []) : dis true (sevPV [p0, p1]) = true := by
  show (true && (dis true (.list (p0.map .str)) && (dis true (.list (p1.map .str)) && true))) = true
  rw [dis_parts h0, dis_parts h1]; rfl
theorem dis_rhoB {o t hd : List Nat} {size : Nat} {w0 w1 q0 q1 : List Nat} {p0 p1 : List (List Nat)} (h0 : p0 ≠ []) (h1 : p1 ≠ []) : ∀ e ∈ rhoB o t hd size w0 w1 q0 q1 p0 p1, dis true e.2 = true :=
  fa1 (dis_sev h0 h1) (fa1 rfl (fa1 rfl (fa1 rfl (fa1 rfl (fa1 rfl (fa1 rfl fa0))))))
noncomputable def qB (q : List Nat) (size : Nat) : Bool := decide ((q.length : Int) ≤ (size : Int) / 2 + 1)
noncomputable def dsW (p0 p1 : List (List Nat)) (w0 w1 : List Nat) (r1 r2 ra rb r3 r4 : Addr) : List RuleD :=
  [⟨r1, [], nearW⟩, ⟨r2, [p0, p1], .bool false⟩, ⟨ra, [p0], .str w0⟩, ⟨rb, [p1], .str w1⟩, ⟨r3, [p0, p1], .bool true⟩, ⟨r4, [], nearW⟩]
noncomputable def dsB (p0 p1 : List (List Nat)) (w0 w1 q0 q1 : List Nat) (size : Nat) (ra rb : Addr) : List RuleD :=
  (if qB q0 size then [⟨ra, [p0], .str w0⟩] else []) ++ (if qB q1 size then [⟨rb, [p1], .str w1⟩] else [])
noncomputable def rsB (q0 q1 : List Nat) (size : Nat) (ra rb : Addr) : List Addr := (if qB q0 size then [ra] else []) ++ (if qB q1 size then [rb] else [])
theorem dsB_r (p0 p1 : List (List Nat)) (w0 w1 q0 q1 : List Nat) (size : Nat) (ra rb : Addr) : (dsB p0 p1 w0 w1 q0 q1 size ra rb).map (·.r) = rsB q0 q1 size ra rb := by
  unfold dsB rsB
  cases qB q0 size <;> cases qB q1 size <;> rfl
noncomputable def qSel (q0 q1 : List Nat) (size : Nat) : PV → Bool
  | .int 0 => qB q0 size
  | _ => qB q1 size
noncomputable def fSel (ra rb : Addr) : PV → PV
  | .int 0 => .obj ra
  | _ => .obj rb
theorem sel_is (q0 q1 : List Nat) (size : Nat) (ra rb : Addr) : (([PV.int 0, PV.int 1].filter (qSel q0 q1 size)).map (fSel ra rb)) = (rsB q0 q1 size ra rb).map .obj := by
  unfold rsB
  rw [List.filter_cons, List.filter_cons, List.filter_nil]
  rw [show qSel q0 q1 size (.int 0) = qB q0 size from rfl, show qSel q0 q1 size (.int 1) = qB q1 size from rfl]
  cases qB q0 size <;> cases qB q1 size <;> rfl
/-- what the tail of the law needs of the pure values -/
structure TailP (o t hd : List Nat) (size : Nat) (w0 w1 q0 q1 : List Nat) (p0 p1 : List (List Nat)) (l0 l1 : PV) : Prop where
  zo : o.length ≤ 100
  zt : t.length ≤ 100
  zh : hd.length ≤ 100
  z0 : w0.length ≤ 1000
  zq0 : q0.length ≤ 1000
  zq1 : q1.length ≤ 1000
  z1 : w1.length ≤ 1000
  g0 : GoodP p0
  g1 : GoodP p1
  v0 : ∀ r1 r2 ra rb r3 r4, allowOf (dsW p0 p1 w0 w1 r1 r2 ra rb r3 r4) (hd ++ o) = .str w0
  v1 : ∀ r1 r2 ra rb r3 r4, allowOf (dsW p0 p1 w0 w1 r1 r2 ra rb r3 r4) (hd ++ t) = .str (if o == t then w0 else w1)
  b0 : ∀ ra rb, allowOf (dsB p0 p1 w0 w1 q0 q1 size ra rb) (hd ++ o) = l0
  b1 : ∀ ra rb, allowOf (dsB p0 p1 w0 w1 q0 q1 size ra rb) (hd ++ t) = l1
  c0 : l0 = .bool true ∨ (qB q0 size = true ∧ l0 = .str w0)
  c1 : l1 = .bool true ∨ (qB q1 size = true ∧ l1 = .str w1)
  fin : o = t ∨ l0 ≠ .bool true ∨ l1 ≠ .bool true
theorem GoodP.ne {p : List (List Nat)} (h : GoodP p) : p ≠ [] := by
  obtain ⟨_, _, _, rfl, _⟩ := h
  exact fun h => nomatch h
section
variable {cc : Cx} {K0 : Shared} {Q : Flow → Shared → Prop} {L : Addr} {o t hd : List Nat} {size : Nat} {w0 w1 q0 q1 : List Nat} {p0 p1 : List (List Nat)} {l0 l1 : PV}
theorem law_tail {n : Nat} (hN : cc.N = n + 4) (T0 : K0.heap.get? tb = some (tabObj #[])) (hP : TailP o t hd size w0 w1 q0 q1 p0 p1 l0 l1)
    (hQ : ∀ v s K ρ G, Lk (lawC cc L) K0 K → Base (lawC cc L) K → Act ((lawC cc L).fx G) K [] ρ s → Rep [] s.heap (.bool true) v → Q (.ret v) s) :
    Bd ((lawC cc L).fx []) K0 [] (rhoB o t hd size w0 w1 q0 q1 p0 p1) ((sBody (stm 21)).drop 13) Q := by
  have hp0 := hP.g0.ne
  have hp1 := hP.g1.ne
  apply Bd.entries (n := n + 1) (rhoB o t hd size w0 w1 q0 q1 p0 p1) rfl
  case hN => show cc.N - 1 = _; omega
  case hk => walk_at "gl"
  case h1 => kernel_rfl
  case h2 => kernel_rfl
  case hx => kernel_rfl
  case hy => kernel_rfl
  case hs => kernel_rfl
  case hw => kernel_rfl
  case hst => kernel_rfl
  case hsub => exact fun _ h => h
  intro ea L1 o1 eb L2 o2 FE NL1 NL2 P1 P2 hL12 hEA hEB hFE
  apply Bd.rulesL (n := n + 2) (xs := [.int 0, .int 1]) (Hs := [L1, L2]) (r := rhoB o t hd size w0 w1 q0 q1 p0 p1) (ρ' := [(Str.ofString "read", sevPV [p0, p1]), (Str.ofString "words", .list [.str w0, .str w1])]) (sev := fun i => [if i = 0 then p0 else p1]) (w := fun i => .str (if i = 0 then w0 else w1)) rfl
  case hN => show cc.N - 1 = _; omega
  case T0 => exact T0
  case hfx =>
    exact fa1 NL1.tb (fa1 NL2.tb (fap (fun e he => (hFE e he).2.2.tb) fa0))
  case hem =>
    obtain ⟨_, _, m1, d1⟩ := P1
    obtain ⟨_, _, m2, d2⟩ := P2
    exact fa1 ⟨o1, m1, List.mem_cons_self, d1⟩ (fa1 ⟨o2, m2, List.mem_cons_of_mem _ List.mem_cons_self, d2⟩ fa0)
  case hr => exact fun e he => ⟨List.mem_cons_of_mem _ (List.mem_cons_of_mem _ he), dis_rhoB hp0 hp1 e he⟩
  case hit => apply Ev.tup; repeat' (walk_at "step")
  case hflt => exact fa1 rfl (fa1 rfl fa0)
  case hne => decide
  case hsz => decide
  case hok => kernel_rfl
  case hcell => kernel_rfl
  case hkind => kernel_rfl
  case hnames => kernel_rfl
  case hx => kernel_rfl
  case hd => kernel_rfl
  case hsub =>
    walk_at "sub"
  case hcap => kernel_rfl
  case hgl => intro C D; walk_at "gl"
  case h1 =>
    intro i y hy C D
    rcases i with _ | _ | i
    · obtain rfl : PV.int 0 = y := Option.some.inj hy
      show Ev _ _ _ (PV.list [.list (p0.map .str)])
      apply Ev.list
      · apply Evs.cons
        · apply Ev.item_list (xs := [.list (p0.map .str), .list (p1.map .str)])
          · exact Ev.name (List.mem_cons_of_mem _ List.mem_cons_self)
          · walk_at "step"
          · exact ⟨by decide, rfl⟩
        · exact Evs.nil
        all_goals kernel_rfl
      · show 1 ≤ 65536; decide
    · obtain rfl : PV.int 1 = y := Option.some.inj hy
      show Ev _ _ _ (PV.list [.list (p1.map .str)])
      apply Ev.list
      · apply Evs.cons
        · apply Ev.item_list (xs := [.list (p0.map .str), .list (p1.map .str)])
          · exact Ev.name (List.mem_cons_of_mem _ List.mem_cons_self)
          · walk_at "step"
          · exact ⟨by decide, rfl⟩
        · exact Evs.nil
        all_goals kernel_rfl
      · show 1 ≤ 65536; decide
    · exact none_some hy
  case h2 =>
    intro i y hy C D
    rcases i with _ | _ | i
    · obtain rfl : PV.int 0 = y := Option.some.inj hy
      show Ev _ _ _ (PV.str w0)
      apply Ev.item_list
      · walk_at "step"
      · walk_at "step"
      · exact ⟨by decide, rfl⟩
    · obtain rfl : PV.int 1 = y := Option.some.inj hy
      show Ev _ _ _ (PV.str w1)
      apply Ev.item_list
      · walk_at "step"
      · walk_at "step"
      · exact ⟨by decide, rfl⟩
    · exact none_some hy
  case hw => intro i; rfl
  case hst => intro C; kernel_rfl
  case hst2 => intro C; kernel_rfl
  case hs => intro v; kernel_rfl
  case hsto => kernel_rfl
  case hy => kernel_rfl
  case hsw => kernel_rfl
  intro K1 rs FR hLk hB hrl hRR hFH hFt
  obtain ⟨ra, rb, rfl⟩ : ∃ ra rb, rs = [ra, rb] := by
    match rs, hrl with
    | [a, b], _ => exact ⟨a, b, rfl⟩
  have Ra : RuleFx FR ra [p0] (.str w0) := hRR 0 ra rfl
  have Rb : RuleFx FR rb [p1] (.str w1) := hRR 1 rb rfl
  apply Bd.refix (F' := (L1, o1) :: ((L2, o2) :: (FR ++ FE))) (fa1 (by walk_at "in") (fa1 (by walk_at "in") (fap (fun e he => by walk_at "in") (fun e he => by walk_at "in"))))
  have fx2 : ∀ e ∈ (L1, o1) :: ((L2, o2) :: (FR ++ FE)), e.1 ≠ tb :=
    fa1 NL1.tb (fa1 NL2.tb (fap hFt (fun e he => (hFE e he).2.2.tb)))
  have em2 : ∀ b ∈ [L1, L2], ∃ o k, (b, o) ∈ (L1, o1) :: ((L2, o2) :: (FR ++ FE)) ∧ o.data = .seq #[] k := by
    obtain ⟨_, _, m1, d1⟩ := P1
    obtain ⟨_, _, m2, d2⟩ := P2
    exact fa1 ⟨o1, m1, List.mem_cons_self, d1⟩ (fa1 ⟨o2, m2, List.mem_cons_of_mem _ List.mem_cons_self, d2⟩ fa0)
  generalize hρ : (Str.ofString "rules", PV.list [PV.obj ra, PV.obj rb]) :: (Str.ofString "whole", PV.obj ea) :: (Str.ofString "brief", PV.obj eb) :: rhoB o t hd size w0 w1 q0 q1 p0 p1 = ρ1
  have hρ' : (Str.ofString "rules", PV.list ([ra, rb].map PV.obj)) :: (Str.ofString "whole", PV.obj ea) :: (Str.ofString "brief", PV.obj eb) :: rhoB o t hd size w0 w1 q0 q1 p0 p1 = ρ1 := hρ
  rw [hρ']
  have dis1 : ∀ e ∈ ρ1, e ∈ ρ1 ∧ dis true e.2 = true := fun e he => ⟨he, by
    rw [← hρ] at he
    rcases List.mem_cons.mp he with rfl | he
    · rfl
    rcases List.mem_cons.mp he with rfl | he
    · rfl
    rcases List.mem_cons.mp he with rfl | he
    · rfl
    exact dis_rhoB hp0 hp1 e he⟩
  have mB : ∀ e ∈ rhoB o t hd size w0 w1 q0 q1 p0 p1, e ∈ ρ1 := fun e he => by
    rw [← hρ]; exact List.mem_cons_of_mem _ (List.mem_cons_of_mem _ (List.mem_cons_of_mem _ he))
  have mR : (Str.ofString "rules", PV.list ([ra, rb].map PV.obj)) ∈ ρ1 := by rw [← hρ']; exact List.mem_cons_self
  have mW : (Str.ofString "whole", PV.obj ea) ∈ ρ1 := by rw [← hρ]; walk_at "mem"
  have mE : (Str.ofString "brief", PV.obj eb) ∈ ρ1 := by rw [← hρ]; walk_at "mem"
  apply Bd.extend (K0 := K0) (P := fun rs FN => FourP [p0, p1] [ra, rb] rs FN ∧ ∀ e ∈ FN, e.1 ≠ L2) (ent := ea) ρ1 rfl mW hLk NL1 hB (hEA.mono fun a ha => by walk_at "in") P1
  case hbase => kernel_rfl
  case htr => intro pos; kernel_rfl
  case hline => kernel_rfl
  case hint => kernel_rfl
  case hFL =>
    exact fa1 hL12.symm (fap (fun e he h => hFH e he (by rw [h]; exact List.mem_cons_self)) (fun e he => (hFE e he).1))
  case harg =>
    intro s E Q' X kk
    refine run_four (n := n + 2) (Hs := [L1, L2]) (r := rhoB o t hd size w0 w1 q0 q1 p0 p1) (rs0 := [ra, rb]) (sev := [p0, p1]) X hB rfl (by show cc.N - 1 = _; omega) fx2 em2 (fun e he => ⟨mB e he, dis_rhoB hp0 hp1 e he⟩) (by walk_at "mem") mR (by simp) (by walk_at "gl") ?_ ?_ ?_ ?_ ?_ ?_ ?_ ?_ ?_ fun v s' rs FN k hv hz hP hFN => kk v s' rs FN k hv hz ⟨hP, fun e he h => (hFN e he).2.1 (by simp [h])⟩ fun e he => ⟨(hFN e he).1, fun h => (hFN e he).2.1 (by simp [h]), (hFN e he).2.2⟩
    all_goals first | kernel_rfl | (intro _; kernel_rfl)
  case hsub => exact dis1
  rintro rs1 FN1 o1' K2 ⟨⟨r1, r2, r3, r4, rfl, R1, R2, R3, R4, hFt1⟩, hFL2⟩ P1' hLk2 hB2 hFN1
  apply Bd.refix (F' := (L2, o2) :: ((L1, o1') :: (FN1 ++ (FR ++ FE)))) (fa1 (by walk_at "in") (fa1 (by walk_at "in") (fap (fun e he => by walk_at "in") (fap (fun e he => by walk_at "in") (fun e he => by walk_at "in")))))
  have hci : (lawC cc L).N = n + 3 := by show cc.N - 1 = _; omega
  apply Bd.extend (K0 := K0) (P := fun rs FN => rs = rsB q0 q1 size ra rb ∧ FN = []) (ent := eb) ρ1 rfl mE hLk2 NL2 hB2 (hEB.mono fun a ha => by walk_at "in") P2
  case hbase => kernel_rfl
  case htr => intro pos; kernel_rfl
  case hline => kernel_rfl
  case hint => kernel_rfl
  case hFL =>
    exact fa1 hL12 (fap hFL2 (fap (fun e he h => hFH e he (by rw [h]; exact List.mem_cons_of_mem _ List.mem_cons_self)) (fun e he => (hFE e he).2.1)))
  case harg =>
    intro s E Q' X kk
    refine Ev.run (c := (lawC cc L).fx ((L2, o2) :: ((L1, o1') :: (FN1 ++ (FR ++ FE))))) (ρ := ρ1) (p := .list ((rsB q0 q1 size ra rb).map .obj)) ?hev s _ _ (X.view0 rfl) fun v s' k hv => kk v s' (rsB q0 q1 size ra rb) [] k hv (by unfold rsB; cases qB q0 size <;> cases qB q1 size <;> simp) ⟨rfl, rfl⟩ (fun e he => nomatch he)
    rw [← sel_is]
    apply Ev.comp (bb := false) (xs := [.int 0, .int 1]) (ρ' := [(Str.ofString "rules", .list [.obj ra, .obj rb]), (Str.ofString "paths", .list [.str q0, .str q1]), (Str.ofString "size", .int size)]) (qSel q0 q1 size) (fSel ra rb)
    case hit => apply It.tup; apply Ev.tup; repeat' (walk_at "step")
    case hok => kernel_rfl
    case hcell => kernel_rfl
    case hkind => kernel_rfl
    case hnames => kernel_rfl
    case hx => kernel_rfl
    case hd => kernel_rfl
    case hsub =>
      exact fa1 mR (fa1 (mB _ (by walk_at "mem")) (fa1 (mB _ (by walk_at "mem")) fa0))
    case hcap => kernel_rfl
    case hno => rfl
    case hsz => decide
    case hq =>
      intro y hy C
      simp only [List.mem_cons, List.not_mem_nil, or_false] at hy
      apply Trs.one
      rcases hy with rfl | rfl
      · show Tr _ _ _ (decide ((q0.length : Int) ≤ (size : Int) / 2 + 1))
        apply Tr.cmp
        · apply Ev.call_bltn
          · walk_at "nmb"
          · apply Evs.cons (p := .str q0)
            · apply Ev.item_list
              · walk_at "step"
              · walk_at "step"
              · exact ⟨by decide, rfl⟩
            · exact Evs.nil
            all_goals kernel_rfl
          · exact Cl.len_str (by have := hP.zq0; omega)
          all_goals first | kernel_rfl | (intro _; kernel_rfl)
        · repeat' (walk_at "step")
        · exact Cm.le_int
        · kernel_rfl
      · show Tr _ _ _ (decide ((q1.length : Int) ≤ (size : Int) / 2 + 1))
        apply Tr.cmp
        · apply Ev.call_bltn
          · walk_at "nmb"
          · apply Evs.cons (p := .str q1)
            · apply Ev.item_list
              · walk_at "step"
              · walk_at "step"
              · exact ⟨by decide, rfl⟩
            · exact Evs.nil
            all_goals kernel_rfl
          · exact Cl.len_str (by have := hP.zq1; omega)
          all_goals first | kernel_rfl | (intro _; kernel_rfl)
        · repeat' (walk_at "step")
        · exact Cm.le_int
        · kernel_rfl
    case hf =>
      intro y hy _
      simp only [List.mem_cons, List.not_mem_nil, or_false] at hy
      rcases hy with rfl | rfl
      · refine ⟨rfl, fun C => ?_⟩
        show Ev _ _ _ (PV.obj ra)
        apply Ev.item_list
        · walk_at "step"
        · walk_at "step"
        · exact ⟨by decide, rfl⟩
      · refine ⟨rfl, fun C => ?_⟩
        show Ev _ _ _ (PV.obj rb)
        apply Ev.item_list
        · walk_at "step"
        · walk_at "step"
        · exact ⟨by decide, rfl⟩
    all_goals kernel_rfl
  case hsub => exact dis1
  rintro rs2 FN2 o2' K3 ⟨rfl, rfl⟩ P2' hLk3 hB3 _
  apply Bd.refix (F' := (L2, o2') :: ((L1, o1') :: (FN1 ++ (FR ++ FE)))) (fun e he => by simpa using he)
  generalize hFF : (L2, o2') :: ((L1, o1') :: (FN1 ++ (FR ++ FE))) = FF
  have i1 : ∀ a ∈ FN1, a ∈ FF := fun a ha => by rw [← hFF]; walk_at "in"
  have iR : ∀ a ∈ FR, a ∈ FF := fun a ha => by rw [← hFF]; walk_at "in"
  have iE : ∀ a ∈ FE, a ∈ FF := fun a ha => by rw [← hFF]; walk_at "in"
  have hEW : EntFx FF ea L1 ((dsW p0 p1 w0 w1 r1 r2 ra rb r3 r4).map (·.r)) := (hEA.mono iE).fx (o := o1') (by rw [← hFF]; walk_at "in") P1'
  have hEBr : EntFx FF eb L2 ((dsB p0 p1 w0 w1 q0 q1 size ra rb).map (·.r)) := (hEB.mono iE).fx (o := o2') (by rw [← hFF]; walk_at "in") (by rw [dsB_r]; exact P2')
  have hgA : ∀ p ∈ [p0], GoodP p := fun p hp => by rw [List.mem_singleton.mp hp]; exact hP.g0
  have hgB : ∀ p ∈ [p1], GoodP p := fun p hp => by rw [List.mem_singleton.mp hp]; exact hP.g1
  have hgAB : ∀ p ∈ [p0, p1], GoodP p := fa1 hP.g0 (fa1 hP.g1 fa0)
  have okS : ∀ x : List Nat, x.length ≤ 1000 → okW (.str x) = true := fun x hx => by
    show (true && true && decide (x.length < 65536)) = true
    rw [decide_eq_true (by omega)]; rfl
  have GA : GoodR FF ⟨ra, [p0], .str w0⟩ := ⟨Ra.mono iR, Nat.le_of_ble_eq_true rfl, hgA, okS _ hP.z0⟩
  have GB : GoodR FF ⟨rb, [p1], .str w1⟩ := ⟨Rb.mono iR, Nat.le_of_ble_eq_true rfl, hgB, okS _ hP.z1⟩
  have GW : ∀ d ∈ dsW p0 p1 w0 w1 r1 r2 ra rb r3 r4, GoodR FF d :=
    fa1 ⟨R1.mono i1, Nat.le_of_ble_eq_true rfl, (fun p hp => nomatch hp), rfl⟩ (fa1 ⟨R2.mono i1, Nat.le_of_ble_eq_true rfl, hgAB, rfl⟩ (fa1 GA (fa1 GB (fa1 ⟨R3.mono i1, Nat.le_of_ble_eq_true rfl, hgAB, rfl⟩ (fa1 ⟨R4.mono i1, Nat.le_of_ble_eq_true rfl, (fun p hp => nomatch hp), rfl⟩ fa0)))))
  have GBs : ∀ d ∈ dsB p0 p1 w0 w1 q0 q1 size ra rb, GoodR FF d := fun d hd => by
    unfold dsB at hd
    rcases List.mem_append.mp hd with hd | hd
    · split at hd
      · rw [List.mem_singleton.mp hd]; exact GA
      · cases hd
    · split at hd
      · rw [List.mem_singleton.mp hd]; exact GB
      · cases hd
  have zB : (dsB p0 p1 w0 w1 q0 q1 size ra rb).length ≤ 1000 := by unfold dsB; cases qB q0 size <;> cases qB q1 size <;> simp
  have zo' : (hd ++ o).length ≤ 1000 := by have := hP.zo; have := hP.zh; rw [List.length_append]; omega
  have zt' : (hd ++ t).length ≤ 1000 := by have := hP.zt; have := hP.zh; rw [List.length_append]; omega
  have mo : (Str.ofString "one", PV.str o) ∈ ρ1 := mB _ (by walk_at "mem")
  have mt : (Str.ofString "two", PV.str t) ∈ ρ1 := mB _ (by walk_at "mem")
  have mh : (Str.ofString "head", PV.str hd) ∈ ρ1 := mB _ (by walk_at "mem")
  have mw : (Str.ofString "words", PV.list [.str w0, .str w1]) ∈ ρ1 := mB _ (by walk_at "mem")
  have mp : (Str.ofString "paths", PV.list [.str q0, .str q1]) ∈ ρ1 := mB _ (by walk_at "mem")
  have msz : (Str.ofString "size", PV.int (size : Int)) ∈ ρ1 := mB _ (by walk_at "mem")
  have zho : hd.length + o.length ≤ 65536 := by rw [List.length_append] at zo'; omega
  have zht : hd.length + t.length ≤ 65536 := by rw [List.length_append] at zt'; omega
  apply B0.ite (b := false) rfl
  case ht =>
    apply Tr.eq (p := !eqL [PV.str w0, .str (if o == t then w0 else w1)] [PV.str w0, .str (if o == t then w0 else w1)])
    · refine Tr.cmp (p := .list [PV.str w0, .str (if o == t then w0 else w1)]) (q := .list [PV.str w0, .str (if o == t then w0 else w1)]) ?_ ?_ (Cm.ne_list rfl rfl) (by kernel_rfl)
      · apply Ev.list
        · apply Evs.cons
          · rw [← hP.v0 r1 r2 ra rb r3 r4]
            apply Ev.allowM (n := n) (c := (lawC cc L).fx FF) (L := L1) rfl hci zo' (by simp [dsW]) hEW GW
            · kernel_rfl
            · kernel_rfl
            · exact Ev.name mW
            · exact Ev.binop (Ev.name mh) (Ev.name mo) (Bo.add_str zho)
          · apply Evs.cons
            · rw [← hP.v1 r1 r2 ra rb r3 r4]
              apply Ev.allowM (n := n) (c := (lawC cc L).fx FF) (L := L1) rfl hci zt' (by simp [dsW]) hEW GW
              · kernel_rfl
              · kernel_rfl
              · exact Ev.name mW
              · exact Ev.binop (Ev.name mh) (Ev.name mt) (Bo.add_str zht)
            · exact Evs.nil
            all_goals kernel_rfl
          all_goals kernel_rfl
        · show 2 ≤ 65536; decide
      · apply Ev.ifexp (x := o == t)
        · exact Tr.cmp (Ev.name mo) (Ev.name mt) (Cm.eq_sc rfl rfl) (by kernel_rfl)
        · intro h
          rw [h, if_pos rfl]
          apply Ev.list
          · apply Evs.cons
            · apply Ev.item_list (xs := [.str w0, .str w1])
              · exact Ev.name mw
              · walk_at "step"
              · exact ⟨by decide, rfl⟩
            · apply Evs.cons
              · apply Ev.item_list (xs := [.str w0, .str w1])
                · exact Ev.name mw
                · walk_at "step"
                · exact ⟨by decide, rfl⟩
              · exact Evs.nil
              all_goals kernel_rfl
            all_goals kernel_rfl
          · show 2 ≤ 65536; decide
        · intro h
          rw [h]
          exact Ev.name mw
    · simp [eqL_c, eqL_n, eqS_i, eqS_t, eqS_b]
  case h1 => intro h; cases h
  case h2 =>
    intro _
    apply Bd.cont
    apply B0.let (p := .list [l0, l1]) rfl
    case hok => kernel_rfl
    case hx => rw [← hρ]; kernel_rfl
    case hs => kernel_rfl
    case he =>
      apply Ev.list
      · rw [← hP.b0 ra rb, ← hP.b1 ra rb]
        apply Evs.cons
        · apply Ev.allowM (n := n) (c := (lawC cc L).fx FF) (L := L2) rfl hci zo' zB hEBr GBs
          · kernel_rfl
          · kernel_rfl
          · exact Ev.name mE
          · exact Ev.binop (Ev.name mh) (Ev.name mo) (Bo.add_str zho)
        · apply Evs.cons
          · apply Ev.allowM (n := n) (c := (lawC cc L).fx FF) (L := L2) rfl hci zt' zB hEBr GBs
            · kernel_rfl
            · kernel_rfl
            · exact Ev.name mE
            · exact Ev.binop (Ev.name mh) (Ev.name mt) (Bo.add_str zht)
          · exact Evs.nil
          all_goals kernel_rfl
        all_goals kernel_rfl
      · show 2 ≤ 65536; decide
    case k =>
      have sc0 : sc l0 = true := hP.c0.elim (fun h => by rw [h]; rfl) fun h => by rw [h.2]; rfl
      have sc1 : sc l1 = true := hP.c1.elim (fun h => by rw [h]; rfl) fun h => by rw [h.2]; rfl
      apply B0.for (σ := Unit) (bb := false) (ys := [.int 0, .int 1]) (fun _ _ => True) (fun _ => (Str.ofString "left", .list [l0, l1]) :: ρ1) () rfl (by intro v; kernel_rfl) (by kernel_rfl)
      · apply It.tup
        apply Ev.tup
        repeat' (walk_at "step")
      · trivial
      · exact fun _ h => h
      · intro _; rw [← hρ]; kernel_rfl
      · intro i z _ K' hz _
        obtain ⟨l, w, q, hl, hw, hq, hc, hsc, hzq, hzw, rfl⟩ : ∃ l w q, [l0, l1][i]? = some l ∧ [PV.str w0, .str w1][i]? = some (.str w) ∧ [PV.str q0, .str q1][i]? = some (.str q) ∧ (l = .bool true ∨ (qB q size = true ∧ l = .str w)) ∧ sc l = true ∧ q.length ≤ 1000 ∧ w.length ≤ 1000 ∧ z = .int (i : Int) := by
          rcases i with _ | _ | i
          · exact ⟨l0, w0, q0, rfl, rfl, rfl, hP.c0, sc0, hP.zq0, hP.z0, by simpa using hz.symm⟩
          · exact ⟨l1, w1, q1, rfl, rfl, rfl, hP.c1, sc1, hP.zq1, hP.z1, by simpa using hz.symm⟩
          · simp at hz
        apply B0.ite (b := false) rfl
        case ht =>
          apply Tr.eq (p := (!isS l (.bool true)) && ((decide ((size : Int) / 2 + 1 < (q.length : Int)) || (!eqS l (.str w) || false)) && true))
          · apply Tr.and
            · refine Tr.cmp (p := l) (q := .bool true) ?_ Ev.cbool (Cm.isnot_one hsc rfl) (by kernel_rfl)
              apply Ev.item_list (xs := [l0, l1])
              · exact Ev.name (List.mem_cons_of_mem _ List.mem_cons_self)
              · exact Ev.name List.mem_cons_self
              · exact ⟨Int.natCast_nonneg i, by simpa using hl⟩
            · intro _
              apply Tr.and
              · apply Tr.or
                · refine Tr.cmp (p := .int (q.length : Int)) (q := .int ((size : Int) / 2 + 1)) ?_ ?_ Cm.gt_int (by kernel_rfl)
                  · apply Ev.call_bltn
                    · walk_at "nmb"
                    · apply Evs.cons (p := .str q)
                      · apply Ev.item_list (xs := [.str q0, .str q1])
                        · exact Ev.name (List.mem_cons_of_mem _ (List.mem_cons_of_mem _ mp))
                        · exact Ev.name List.mem_cons_self
                        · exact ⟨Int.natCast_nonneg i, by simpa using hq⟩
                      · exact Evs.nil
                      all_goals kernel_rfl
                    · exact Cl.len_str (by omega)
                    all_goals first | kernel_rfl | (intro _; kernel_rfl)
                  · have : (Str.ofString "size", PV.int (size : Int)) ∈ (Str.ofString "k", PV.int (i : Int)) :: (Str.ofString "left", PV.list [l0, l1]) :: ρ1 := List.mem_cons_of_mem _ (List.mem_cons_of_mem _ msz)
                    exact Ev.binop (Ev.binop (Ev.name this) Ev.cint (Bo.div_pos (by decide))) Ev.cint Bo.add_int
                · intro _
                  apply Tr.or
                  · refine Tr.cmp (p := l) (q := .str w) ?_ ?_ (Cm.ne_sc hsc rfl) (by kernel_rfl)
                    · apply Ev.item_list (xs := [l0, l1])
                      · exact Ev.name (List.mem_cons_of_mem _ List.mem_cons_self)
                      · exact Ev.name List.mem_cons_self
                      · exact ⟨Int.natCast_nonneg i, by simpa using hl⟩
                    · apply Ev.item_list (xs := [.str w0, .str w1])
                      · exact Ev.name (List.mem_cons_of_mem _ (List.mem_cons_of_mem _ mw))
                      · exact Ev.name List.mem_cons_self
                      · exact ⟨Int.natCast_nonneg i, by simpa using hw⟩
                  · intro _; exact Tr.or_nil
              · intro _; exact Tr.and_nil
          · rcases hc with rfl | ⟨hqb, rfl⟩
            · rfl
            · have h1 : decide ((size : Int) / 2 + 1 < (q.length : Int)) = false := by
                have := of_decide_eq_true hqb
                exact decide_eq_false (by omega)
              rw [h1]
              simp [isS_b, isS_n, isS_nb, isS_bn, eqS_i, eqS_t, eqS_b]
        case h1 => intro h; cases h
        case h2 =>
          intro _
          apply Bd.cont
          apply Bd.nil
          intro s X
          exact ⟨(), trivial, X.weak fun e he => List.mem_cons_of_mem _ he⟩
      · intro _ _
        have hfin : (o == t || ((!isS l0 (.bool true)) || !isS l1 (.bool true))) = true := by
          rcases hP.fin with h | h | h
          · rw [h]; simp
          · have : isS l0 (.bool true) = false := by
              rcases hP.c0 with h' | ⟨_, h'⟩
              · exact absurd h' h
              · rw [h']; rfl
            rw [this]; simp
          · have : isS l1 (.bool true) = false := by
              rcases hP.c1 with h' | ⟨_, h'⟩
              · exact absurd h' h
              · rw [h']; rfl
            rw [this]; simp
        apply B0.ret (p := .bool (o == t || ((!isS l0 (.bool true)) || !isS l1 (.bool true)))) rfl
        · apply Ev.or_cons
          · refine Ev.cmp (p := .str o) (q := .str t) (Ev.name (List.mem_cons_of_mem _ mo)) (Ev.name (List.mem_cons_of_mem _ mt)) (Cm.eq_sc rfl rfl) (by kernel_rfl)
          · intro _
            apply Ev.or_cons
            · refine Ev.cmp (p := l0) (q := .bool true) ?_ Ev.cbool (Cm.isnot_one sc0 rfl) (by kernel_rfl)
              apply Ev.item_list (xs := [l0, l1])
              · exact Ev.name List.mem_cons_self
              · walk_at "step"
              · exact ⟨by decide, rfl⟩
            · intro _
              apply Ev.or_one
              refine Ev.cmp (p := l1) (q := .bool true) ?_ Ev.cbool (Cm.isnot_one sc1 rfl) (by kernel_rfl)
              apply Ev.item_list (xs := [l0, l1])
              · exact Ev.name List.mem_cons_self
              · walk_at "step"
              · exact ⟨by decide, rfl⟩
        · intro v s X r
          rw [hfin] at r
          exact hQ v s _ _ _ hLk3 hB3 X r
end

end
section
open PySem PySem.W PyProof.Rows PySem.Calls
set_option Elab.async false
set_option maxRecDepth 100000
set_option maxHeartbeats 0
set_option linter.all false

/-! law: the loop over the paths -/
noncomputable def morOf (c3 : Int) (i : Nat) : Int := c3 / 144 / 2 ^ i % 2
noncomputable def dblOf (q : List Nat) (c3 : Int) : Nat := (c3 % (q.length : Int)).toNat
noncomputable def signsOf (q : List Nat) (c4 c5 : Int) : List (List Nat) := (List.range q.length).map fun (j : Nat) => letter (q.getD j 0) ((c4 + (j : Int)) % 4) (c5 + (j : Int))
noncomputable def starOf (d : Int) (signs : List (List Nat)) (n : Nat) : List (List Nat) := (List.range n).map fun (j : Nat) => (if eqS (.int (j : Int)) (.int d) then [42, 42] else [42]) ++ signs.getD j []
noncomputable def pathText (hd q : List Nat) (c3 c4 c5 : Int) (i : Nat) : List Nat := hd ++ (starOf (c3 % (q.length : Int)) (signsOf q c4 c5) q.length).flatten ++ rep [42] (morOf c3 i)
noncomputable def dueOf (hd q : List Nat) (c3 : Int) (i : Nat) : List (List Nat) := [hd] ++ (q.take (dblOf q c3)).map (fun n => [n]) ++ [[]] ++ (q.drop (dblOf q c3)).map (fun n => [n]) ++ (List.replicate (morOf c3 i).toNat [([] : List Nat)]).flatten
noncomputable def marksL : List Nat := [63, 40, 91, 124, 94, 38, 46, 43]
noncomputable def escD (p : List Nat) : List Nat := if memS (.str p) (marksL.map fun n => .str [n]) then [92] ++ p else p
/-- what the loop's turn for a path needs of the pure values -/
structure PathP (hd q : List Nat) (c3 c4 c5 : Int) (i : Nat) : Prop where
  ql : 0 < q.length ∧ q.length ≤ 100
  qs : ∀ x ∈ q, x = 46 ∨ x = 43 ∨ (97 ≤ x ∧ x ≤ 122)
  zs : ∀ x ∈ signsOf q c4 c5, x.length ≤ 2
  told : ∃ first mid last, ∃ pl k : Nat, Txt.split (S (prepared (pathText hd q c3 c4 c5 i))) (S [42]) = (first :: (mid ++ [last])).map S ∧ (∀ p ∈ first :: (mid ++ [last]), p.length ≤ 1 ∧ ∀ x ∈ p, x < 128) ∧
    ((prepared (pathText hd q c3 c4 c5 i)).length ≤ 1000 ∧ mid.length ≤ 1000) ∧ Txt.find (S (translated first mid last)) (S sG) = (pl : Int) ∧ Txt.count (S ((translated first mid last).drop pl)) (S sG) = (k : Int) ∧ ((translated first mid last).length ≤ 1000 ∧ k ≤ 1000) ∧
    partsEnd (partRun ([(translated first mid last).take pl], (translated first mid last).drop pl) k) = (dueOf hd q c3 i).map escD
  last : ∀ p ∈ dueOf hd q c3 i, cut (escD p) (some (-1)) none = p
  good : GoodP (dueOf hd q c3 i)
noncomputable abbrev rhoA (cs : List Int) (o t hd : List Nat) (size : Nat) (w0 w1 q0 q1 : List Nat) : List (Str × PV) :=
  [(Str.ofString "paths", .list [.str q0, .str q1]), (Str.ofString "words", .list [.str w0, .str w1]), (Str.ofString "two", .str t), (Str.ofString "one", .str o), (Str.ofString "head", .str hd), (Str.ofString "size", .int size), (Str.ofString "cells", .list (cs.map .int))]
noncomputable def bodyFor : Option Stmt → List Stmt
  | some (.For _ _ b _ _) => b
  | _ => []
noncomputable def loopBody : List Stmt := bodyFor (sBody (stm 21))[12]?
theorem Cl.len_fix {c : Cx} {ρ : List (Str × PV)} {D : Addr} {o : Obj} {its : Array Value} (hm : (D, o) ∈ c.fix) (ho : PlainO o its) (hz : its.size ≤ 65536) : Cl c ρ (.builtin "len") [.obj D] (.int its.size) := by
  constructor
  rintro s Q E vs Si ⟨v, _, rfl, rfl, rfl⟩ hQ
  obtain ⟨hc, _, n, hd⟩ := ho
  exact Calls.call_len_list ⟨o, Si.fx _ hm, hc, n, hd⟩ (by omega) (hQ _ _ (.tok s _) ⟨_, rfl⟩)
noncomputable def fSign (q : List Nat) (c4 c5 : Int) : PV → PV
  | .int j => .str (letter (q.getD j.toNat 0) ((c4 + j) % 4) (c5 + j))
  | _ => .none
noncomputable def fStar (d : Int) (signs : List (List Nat)) : PV → PV
  | .int j => .str ((if eqS (.int j) (.int d) then [42, 42] else [42]) ++ signs.getD j.toNat [])
  | _ => .none
noncomputable def fEsc : PV → PV
  | .str p => .str (escD p)
  | _ => .none
noncomputable def fLast : PV → PV
  | .str p => .str (cut p (some (-1)) none)
  | _ => .none
theorem sign_is (q : List Nat) (c4 c5 : Int) : (((rng 0 (q.length : Int)).filter fun _ => true).map (fSign q c4 c5)) = (signsOf q c4 c5).map .str := by
  have e : rng 0 (q.length : Int) = (List.range q.length).map fun (i : Nat) => PV.int (i : Int) := by simp [rng]
  rw [List.filter_eq_self.mpr (by simp), e, signsOf, List.map_map, List.map_map]
  apply List.map_congr_left
  intro j _
  simp [fSign]
theorem star_is (d : Int) (signs : List (List Nat)) (n : Nat) : (((rng 0 (n : Int)).filter fun _ => true).map (fStar d signs)) = (starOf d signs n).map .str := by
  have e : rng 0 (n : Int) = (List.range n).map fun (i : Nat) => PV.int (i : Int) := by simp [rng]
  rw [List.filter_eq_self.mpr (by simp), e, starOf, List.map_map, List.map_map]
  apply List.map_congr_left
  intro j _
  simp only [Function.comp_def, fStar, Int.toNat_natCast]
theorem esc_is (ps : List (List Nat)) : (((ps.map PV.str).filter fun _ => true).map fEsc) = (ps.map escD).map .str := by
  rw [List.filter_eq_self.mpr (by simp), List.map_map, List.map_map]; rfl
theorem last_is (ps : List (List Nat)) (h : ∀ p ∈ ps, cut (escD p) (some (-1)) none = p) : ((((ps.map escD).map PV.str).filter fun _ => true).map fLast) = ps.map .str := by
  rw [List.filter_eq_self.mpr (by simp), List.map_map, List.map_map]
  apply List.map_congr_left
  intro p hp
  simp only [Function.comp_def, fLast, h p hp]
theorem strs_noObj (ps : List (List Nat)) : noObjs (ps.map .str) = true := noObjs_of fun x hx => by
  obtain ⟨q, _, rfl⟩ := List.mem_map.mp hx; rfl
theorem eqL_self (ps : List (List Nat)) : eqL (ps.map .str) (ps.map .str) = true := by
  induction ps with
  | nil => rfl
  | cons p ps ih => show (eqS (.str p) (.str p) && eqL (ps.map .str) (ps.map .str)) = true; rw [ih]; simp [eqS_i, eqS_t, eqS_b]
theorem all_sc (ps : List (List Nat)) : (ps.map PV.str).all sc = true := by
  rw [List.all_eq_true]; intro x hx; obtain ⟨q, _, rfl⟩ := List.mem_map.mp hx; rfl
theorem due_pv (hd q : List Nat) (c3 : Int) (i : Nat) : (dueOf hd q c3 i).map PV.str = ((([PV.str hd] ++ (q.take (dblOf q c3)).map fun n => .str [n]) ++ [.str []]) ++ (q.drop (dblOf q c3)).map fun n => .str [n]) ++ (List.replicate (morOf c3 i).toNat [PV.str []]).flatten := by
  simp [dueOf, List.map_append, List.map_map, Function.comp_def]
theorem dis_ints {cs : List Int} {c3 : Int} (h : cs[3]? = some c3) : dis false (.list (cs.map .int)) = true := by
  have key : ∀ l : List Int, diss false (l.map .int) = true := fun l => by
    induction l with
    | nil => rfl
    | cons x xs ih => show (true && diss false (xs.map .int)) = true; rw [ih]; rfl
  cases cs with
  | nil => simp at h
  | cons x xs => show (true && diss false ((x :: xs).map .int)) = true; rw [key]; rfl
section
variable {cc : Cx} {K0 : Shared} {Q : Flow → Shared → Prop} {L : Addr} {o t hd : List Nat} {size : Nat} {w0 w1 q0 q1 : List Nat} {cs : List Int} {c3 c4 c5 : Int} {l0 l1 : PV}
theorem law_turn {n : Nat} (hN : cc.N = n + 4) {K : Shared} {D : Addr} {oD : Obj} {its : Array Value} {F : List (Addr × Obj)} {q : List Nat} {i : Nat} (hD : NewAt (lawC cc L) K D) (hO : PlainO oD its) (hi : its.size = i) (hi2 : i ≤ 10) (hel : its = #[] ∨ ∃ a, its[0]? = some (.ref a)) (hF : ∀ e ∈ F, e.1 ≠ D)
    (h3 : cs[3]? = some c3) (h4 : cs[4]? = some c4) (h5 : cs[5]? = some c5) (hP : PathP hd q c3 c4 c5 i) (hhd : hd.length ≤ 100)
    (fin : ∀ v o' G s', PlainO o' (its.push v) → (∀ h : Heap, (∀ e ∈ G, h.get? e.1 = some e.2) → Rep [] h (.list ((dueOf hd q c3 i).map .str)) v) → (∀ e ∈ G, e.1 ≠ D ∧ ∃ ys n, e.2.data = .seq ys n) → Act ((lawC cc L).fx ((D, o') :: (G ++ F))) K [] ((Str.ofString "read", .obj D) :: rhoA cs o t hd size w0 w1 q0 q1) s' → Q .next s') :
    Bd ((lawC cc L).fx ((D, oD) :: F)) K [] ((Str.ofString "path", .str q) :: (Str.ofString "read", .obj D) :: rhoA cs o t hd size w0 w1 q0 q1) loopBody Q := by
  have hci : (lawC cc L).N = n + 3 := by show cc.N - 1 = _; rw [hN]; rfl
  have hq0 := hP.ql.1
  have hq1 := hP.ql.2
  have zq60 : q.length ≤ 2 ^ 60 := Nat.le_trans hq1 (by decide)
  have zrg : -(2 ^ 62) ≤ (q.length : Int) ∧ (q.length : Int) < 2 ^ 62 := ⟨Int.le_trans (by decide) (Int.natCast_nonneg _), Int.ofNat_lt.mpr (Nat.lt_of_le_of_lt hq1 (by decide))⟩
  have zr : (rng 0 (q.length : Int)).length ≤ 65536 := by rw [rng_length, Int.sub_zero, Int.toNat_natCast]; exact Nat.le_trans hq1 (by decide)
  have zqp : (0 : Int) < (q.length : Int) := Int.ofNat_lt.mpr hq0
  have hdm : 0 ≤ c3 % (q.length : Int) ∧ c3 % (q.length : Int) < q.length := ⟨Int.emod_nonneg _ (Int.ne_of_gt zqp), Int.emod_lt_of_pos _ zqp⟩
  have hmm : 0 ≤ morOf c3 i ∧ morOf c3 i < 2 := ⟨Int.emod_nonneg _ (by decide), Int.emod_lt_of_pos _ (by decide)⟩
  have g3 : (cs.map PV.int)[3]? = some (.int c3) := by rw [List.getElem?_map, h3]; rfl
  have g4 : (cs.map PV.int)[4]? = some (.int c4) := by rw [List.getElem?_map, h4]; rfl
  have g5 : (cs.map PV.int)[5]? = some (.int c5) := by rw [List.getElem?_map, h5]; rfl
  have hdb : c3 % (q.length : Int) = ((dblOf q c3 : Nat) : Int) := by unfold dblOf; exact (Int.toNat_of_nonneg hdm.1).symm
  have htake : cut q none (some (c3 % (q.length : Int))) = q.take (dblOf q c3) := by rw [hdb]; exact cut_to q _
  have hdrop : cut q (some (c3 % (q.length : Int))) none = q.drop (dblOf q c3) := by rw [hdb]; exact cut_from q _
  have hdue : ∀ p ∈ dueOf hd q c3 i, p.length ≤ 100 := fun p hp => by
    simp only [dueOf, List.mem_append, List.mem_map, List.mem_cons, List.not_mem_nil, or_false, List.mem_flatten, List.mem_replicate] at hp
    rcases hp with (((rfl | ⟨n, _, rfl⟩) | rfl) | ⟨n, _, rfl⟩) | ⟨l, ⟨_, rfl⟩, hp⟩
    · exact hhd
    · simp
    · simp
    · simp
    · rw [List.mem_singleton.mp hp]; simp
  have hm01 : (morOf c3 i).toNat = 0 ∨ (morOf c3 i).toNat = 1 := by omega
  have hrep : (rep [42] (morOf c3 i)).length ≤ 1 := by
    unfold rep
    rcases hm01 with h | h <;> rw [h] <;> simp
  have hduel : (dueOf hd q c3 i).length ≤ 1000 := by
    unfold dueOf
    rcases hm01 with h | h <;> rw [h] <;> simp <;> omega
  have hzst : (starOf (c3 % (q.length : Int)) (signsOf q c4 c5) q.length).flatten.length ≤ 400 := by
    have h1 : ∀ x ∈ starOf (c3 % (q.length : Int)) (signsOf q c4 c5) q.length, x.length ≤ 4 := fun x hx => by
      obtain ⟨j, _, rfl⟩ := List.mem_map.mp hx
      have h2 : ((signsOf q c4 c5).getD j []).length ≤ 2 := by
        by_cases hlj : j < (signsOf q c4 c5).length
        · rw [List.getD_eq_getElem?_getD, List.getElem?_eq_getElem hlj]; exact hP.zs _ (List.getElem_mem hlj)
        · rw [List.getD_eq_getElem?_getD, List.getElem?_eq_none (by omega)]; simp
      rw [List.length_append]
      split <;> simp only [List.length_cons, List.length_nil] <;> omega
    have h3 : ∀ l : List (List Nat), (∀ x ∈ l, x.length ≤ 4) → l.flatten.length ≤ 4 * l.length := fun l => by
      induction l with
      | nil => intro _; simp
      | cons x l ih =>
        intro h
        have := h x List.mem_cons_self
        have := ih fun y hy => h y (List.mem_cons_of_mem _ hy)
        rw [List.flatten_cons, List.length_append, List.length_cons]; omega
    have h4 := h3 _ h1
    have h5 : (starOf (c3 % (q.length : Int)) (signsOf q c4 c5) q.length).length = q.length := by simp [starOf]
    omega
  have hzp : (pathText hd q c3 c4 c5 i).length ≤ 600 := by
    unfold pathText
    rw [List.length_append, List.length_append]; omega
  have mc : (Str.ofString "cells", PV.list (cs.map .int)) ∈ (Str.ofString "path", PV.str q) :: (Str.ofString "read", .obj D) :: rhoA cs o t hd size w0 w1 q0 q1 := by walk_at "mem"
  apply B0.pair (p := .int (c3 % (q.length : Int))) (q := .int (morOf c3 i)) ((Str.ofString "path", .str q) :: (Str.ofString "read", .obj D) :: rhoA cs o t hd size w0 w1 q0 q1) rfl (by kernel_rfl) (by kernel_rfl) (by kernel_rfl) (by kernel_rfl) (by kernel_rfl) (by kernel_rfl) (fun _ h => h)
  · subst hi
    apply Ev.tup
    · apply Evs.cons
      · apply Ev.binop (q := .int (q.length : Int))
        · exact Ev.item_list (Ev.name mc) Ev.cint ⟨by decide, g3⟩
        · apply Ev.call_bltn
          · walk_at "nmb"
          · apply Evs.cons (p := .str q)
            · walk_at "step"
            · exact Evs.nil
            all_goals kernel_rfl
          · exact Cl.len_str zq60
          all_goals first | kernel_rfl | (intro _; kernel_rfl)
        · exact Bo.mod_pos zqp
      · apply Evs.cons
        · apply Ev.binop (p := .int (c3 / 144 / 2 ^ its.size))
          · apply Ev.binop (p := .int (c3 / 144)) (q := .int (2 ^ its.size))
            · exact Ev.binop (Ev.item_list (Ev.name mc) Ev.cint ⟨by decide, g3⟩) Ev.cint (Bo.div_pos (by decide))
            · apply Ev.binop (q := .int (its.size : Int))
              · exact Ev.cint
              · apply Ev.call_bltn
                · walk_at "nmb"
                · apply Evs.cons (p := .obj D)
                  · walk_at "step"
                  · exact Evs.nil
                  all_goals kernel_rfl
                · exact Cl.len_fix List.mem_cons_self hO (Nat.le_trans hi2 (by decide))
                all_goals first | kernel_rfl | (intro _; kernel_rfl)
              · exact Bo.pow_int (by decide) (by decide) (by omega)
            · apply Bo.div_pos
              have h1 : (2 : Int) ^ its.size = ((2 ^ its.size : Nat) : Int) := by norm_cast
              have h2 : 2 ^ its.size ≤ 2 ^ 10 := Nat.pow_le_pow_right (by decide) hi2
              have h3 : 0 < 2 ^ its.size := Nat.two_pow_pos _
              rw [h1]
              refine ⟨by omega, ?_⟩
              rw [Int.natAbs_natCast]
              exact Nat.lt_of_le_of_lt h2 (by decide)
          · exact Ev.cint
          · exact Bo.mod_pos (by decide)
        · exact Evs.nil
        all_goals kernel_rfl
      all_goals kernel_rfl
    · show 2 ≤ 65536; decide
  apply B0.let (p := .list ((signsOf q c4 c5).map .str)) rfl
  case hok => kernel_rfl
  case hx => kernel_rfl
  case hs => kernel_rfl
  case he =>
    rw [← sign_is]
    apply Ev.comp (bb := true) (ρ' := [(Str.ofString "path", .str q), (Str.ofString "cells", .list (cs.map .int))]) (fun _ => true) (fSign q c4 c5)
    case hit =>
      apply It.range1
      · walk_at "nmt"
      · apply Ev.call_bltn
        · walk_at "nmb"
        · apply Evs.cons (p := .str q)
          · walk_at "step"
          · exact Evs.nil
          all_goals kernel_rfl
        · exact Cl.len_str zq60
        all_goals first | kernel_rfl | (intro _; kernel_rfl)
      · exact zrg
      all_goals kernel_rfl
    case hok => kernel_rfl
    case hcell => kernel_rfl
    case hkind => kernel_rfl
    case hnames => kernel_rfl
    case hx => kernel_rfl
    case hd => kernel_rfl
    case hsub =>
      walk_at "sub"
    case hcap => kernel_rfl
    case hno => exact rng_noObjs _ _
    case hsz => exact zr
    case hq => intro y _ C; exact Trs.nil
    case hf =>
      intro y hy _
      obtain ⟨j, hj, rfl⟩ := List.mem_map.mp hy
      have hj : j < q.length := by have := List.mem_range.mp hj; rwa [Int.sub_zero, Int.toNat_natCast] at this
      refine ⟨rfl, fun C => ?_⟩
      have e1 : fSign q c4 c5 (PV.int (0 + (j : Int))) = .str (letter (q.getD j 0) ((c4 + (j : Int)) % 4) (c5 + (j : Int))) := by simp [fSign]
      rw [e1, Int.zero_add]
      have hxj : q.getD j 0 ∈ q := by rw [List.getD_eq_getElem?_getD, List.getElem?_eq_getElem hj]; exact List.getElem_mem hj
      apply Ev.fn (f := 153) (fd := lawFd 14 "_law_letter" 152) (ps := [.str [q.getD j 0], .int ((c4 + (j : Int)) % 4), .int (c5 + (j : Int))]) (by walk_at "gl") (by intro P; kernel_rfl) (by kernel_rfl) letter_o (by decide) (by kernel_rfl)
      · apply Evs.cons
        · apply Ev.item_str (xs := q) (k := (j : Int))
          · walk_at "step"
          · walk_at "step"
          · exact Nat.lt_of_le_of_lt hq1 (by decide)
          · exact ⟨Int.natCast_nonneg j, by simp [List.getD, hj]⟩
        · apply Evs.cons
          · apply Ev.binop (p := .int (c4 + (j : Int)))
            · apply Ev.binop (p := .int c4) (q := .int (j : Int))
              · apply Ev.item_list (xs := cs.map .int)
                · walk_at "step"
                · walk_at "step"
                · exact ⟨by decide, g4⟩
              · walk_at "step"
              · exact Bo.add_int
            · exact Ev.cint
            · exact Bo.mod_pos (by decide)
          · apply Evs.cons
            · apply Ev.binop (p := .int c5) (q := .int (j : Int))
              · apply Ev.item_list (xs := cs.map .int)
                · walk_at "step"
                · walk_at "step"
                · exact ⟨by decide, g5⟩
              · walk_at "step"
              · exact Bo.add_int
            · exact Evs.nil
            all_goals kernel_rfl
          all_goals kernel_rfl
        all_goals kernel_rfl
      · exact cl_letter (n := n + 2) rfl (by exact hci) (hP.qs _ hxj)
  apply B0.let (p := .str (starOf (c3 % (q.length : Int)) (signsOf q c4 c5) q.length).flatten) rfl
  case hok => kernel_rfl
  case hx => kernel_rfl
  case hs => kernel_rfl
  case he =>
    apply Ev.meth_str PySem.F.slot_str_join PySem.F.type_str_join
    · walk_at "step"
    · apply Evs.cons (p := .list ((starOf (c3 % (q.length : Int)) (signsOf q c4 c5) q.length).map .str))
      · rw [← star_is]
        apply Ev.comp (bb := true) (ρ' := [(Str.ofString "signs", .list ((signsOf q c4 c5).map .str)), (Str.ofString "double", .int (c3 % (q.length : Int)))]) (fun _ => true) (fStar (c3 % (q.length : Int)) (signsOf q c4 c5))
        case hit =>
          apply It.range1
          · walk_at "nmt"
          · apply Ev.call_bltn
            · walk_at "nmb"
            · apply Evs.cons (p := .str q)
              · walk_at "step"
              · exact Evs.nil
              all_goals kernel_rfl
            · exact Cl.len_str zq60
            all_goals first | kernel_rfl | (intro _; kernel_rfl)
          · exact zrg
          all_goals kernel_rfl
        case hok => kernel_rfl
        case hcell => kernel_rfl
        case hkind => kernel_rfl
        case hnames => kernel_rfl
        case hx => kernel_rfl
        case hd => kernel_rfl
        case hsub =>
          walk_at "sub"
        case hcap => kernel_rfl
        case hno => exact rng_noObjs _ _
        case hsz => exact zr
        case hq => intro y _ C; exact Trs.nil
        case hf =>
          intro y hy _
          obtain ⟨j, hj, rfl⟩ := List.mem_map.mp hy
          have hj : j < q.length := by have := List.mem_range.mp hj; rwa [Int.sub_zero, Int.toNat_natCast] at this
          have hlj : j < (signsOf q c4 c5).length := by simp [signsOf]; exact hj
          refine ⟨rfl, fun C => ?_⟩
          have e1 : fStar (c3 % (q.length : Int)) (signsOf q c4 c5) (PV.int (0 + (j : Int))) = .str ((if eqS (.int (j : Int)) (.int (c3 % (q.length : Int))) then [42, 42] else [42]) ++ (signsOf q c4 c5).getD j []) := by
            rw [Int.zero_add]; simp only [fStar, Int.toNat_natCast]
          rw [e1, Int.zero_add]
          have hz2 : ((signsOf q c4 c5).getD j []).length ≤ 2 := by
            rw [List.getD_eq_getElem?_getD, List.getElem?_eq_getElem hlj]
            exact hP.zs _ (List.getElem_mem hlj)
          apply Ev.binop (p := .str (if eqS (.int (j : Int)) (.int (c3 % (q.length : Int))) then [42, 42] else [42])) (q := .str ((signsOf q c4 c5).getD j []))
          · apply Ev.ifstr
            · refine Tr.cmp (p := .int (j : Int)) (q := .int (c3 % (q.length : Int))) ?_ ?_ (Cm.eq_sc rfl rfl) (by kernel_rfl)
              · walk_at "step"
              · walk_at "step"
            · intro _; exact Ev.cstr
            · intro _; exact Ev.cstr
          · apply Ev.item_list (xs := (signsOf q c4 c5).map .str) (k := (j : Int))
            · walk_at "step"
            · walk_at "step"
            · exact ⟨Int.natCast_nonneg j, by simp [List.getD, hlj]⟩
          · apply Bo.add_str
            split <;> simp only [List.length_cons, List.length_nil] <;> omega
      · exact Evs.nil
      all_goals kernel_rfl
    · exact Cl.join (Nat.le_trans hzst (by decide))
    all_goals first | kernel_rfl | (intro _; kernel_rfl)
  apply B0.let (p := .list (((dueOf hd q c3 i).map escD).map .str)) rfl
  case hok => kernel_rfl
  case hx => kernel_rfl
  case hs => kernel_rfl
  case he =>
    obtain ⟨first, mid, last, pl, k, hsp, hpc, hz, hf, hk, hz2, hend⟩ := hP.told
    rw [← hend]
    apply Ev.fn (f := 177) (fd := lawFd 18 "_law_parts" 176) (ps := [.str (translated first mid last)]) (by walk_at "gl") (by intro P; kernel_rfl) (by kernel_rfl) parts_o (by decide) (by kernel_rfl)
    · apply Evs.cons
      · apply Ev.fn (f := 75) (fd := trFd) (ps := [.str (prepared (pathText hd q c3 c4 c5 i))]) (by walk_at "gl") (by intro P; kernel_rfl) (by kernel_rfl) tr_o (by decide) (by kernel_rfl)
        · apply Evs.cons
          · apply Ev.fn (f := 165) (fd := lawFd 16 "_law_prepared" 164) (ps := [.str (pathText hd q c3 c4 c5 i)]) (by walk_at "gl") (by intro P; kernel_rfl) (by kernel_rfl) prep_o (by decide) (by kernel_rfl)
            · apply Evs.cons
              · apply Ev.binop (p := .str (hd ++ (starOf (c3 % (q.length : Int)) (signsOf q c4 c5) q.length).flatten)) (q := .str (rep [42] (morOf c3 i)))
                · apply Ev.binop (p := .str hd) (q := .str (starOf (c3 % (q.length : Int)) (signsOf q c4 c5) q.length).flatten)
                  · exact Ev.name (by walk_at "mem")
                  · walk_at "step"
                  · apply Bo.add_str; omega
                · apply Ev.binop (p := .str [42]) (q := .int (morOf c3 i))
                  · exact Ev.cstr
                  · walk_at "step"
                  · apply Bo.mul_str
                    refine ⟨Int.lt_trans hmm.2 (by decide), Int.lt_of_lt_of_le (by decide) hmm.1, ?_⟩
                    simp only [List.length_cons, List.length_nil]; omega
                · apply Bo.add_str
                  rw [List.length_append]; omega
              · exact Evs.nil
              all_goals kernel_rfl
            · exact cl_prep (n := n + 1) rfl (by exact hci) (by omega) (by omega)
          · exact Evs.nil
          all_goals kernel_rfl
        · exact cl_trans (n := n) rfl (by exact hci) hsp hpc hz
      · exact Evs.nil
      all_goals kernel_rfl
    · exact cl_parts (n := n + 2) rfl (by exact hci) hf hk hz2
  apply B0.let (p := .list ((dueOf hd q c3 i).map .str)) rfl
  case hok => kernel_rfl
  case hx => kernel_rfl
  case hs => kernel_rfl
  case he =>
    rw [due_pv]
    apply Ev.binop (p := .list ((([PV.str hd] ++ (q.take (dblOf q c3)).map fun n => .str [n]) ++ [.str []]) ++ (q.drop (dblOf q c3)).map fun n => .str [n])) (q := .list (List.replicate (morOf c3 i).toNat [PV.str []]).flatten)
    · apply Ev.binop (p := .list (([PV.str hd] ++ (q.take (dblOf q c3)).map fun n => .str [n]) ++ [.str []])) (q := .list ((q.drop (dblOf q c3)).map fun n => .str [n]))
      · apply Ev.binop (p := .list ([PV.str hd] ++ (q.take (dblOf q c3)).map fun n => .str [n])) (q := .list [.str []])
        · apply Ev.binop (p := .list [PV.str hd]) (q := .list ((q.take (dblOf q c3)).map fun n => .str [n]))
          · apply Ev.list
            · apply Evs.cons
              · exact Ev.name (by walk_at "mem")
              · exact Evs.nil
              all_goals kernel_rfl
            · show 1 ≤ 65536; decide
          · apply Ev.list_str (by walk_at "gl")
            · rw [← htake]
              apply Ev.slice_str
              · walk_at "step"
              · exact Pt.none
              · apply Pt.some; walk_at "step"
              · omega
            · rw [List.length_take]; omega
            · kernel_rfl
          · apply Bo.add_list; simp; omega
        · apply Ev.list
          · apply Evs.cons
            · exact Ev.cstr
            · exact Evs.nil
            all_goals kernel_rfl
          · show 1 ≤ 65536; decide
        · apply Bo.add_list; simp; omega
      · apply Ev.list_str (by walk_at "gl")
        · rw [← hdrop]
          apply Ev.slice_str
          · walk_at "step"
          · apply Pt.some; walk_at "step"
          · exact Pt.none
          · omega
        · rw [List.length_drop]; omega
        · kernel_rfl
      · apply Bo.add_list; simp; omega
    · apply Ev.binop (p := .list [PV.str []]) (q := .int (((morOf c3 i).toNat : Nat) : Int))
      · apply Ev.list
        · apply Evs.cons
          · exact Ev.cstr
          · exact Evs.nil
          all_goals kernel_rfl
        · show 1 ≤ 65536; decide
      · rw [Int.toNat_of_nonneg hmm.1]
        walk_at "step"
      · apply Bo.mul_list
        simp only [List.length_cons, List.length_nil]; omega
    · apply Bo.add_list; simp; omega
  apply B0.ite (b := false) rfl
  case ht =>
    apply Tr.eq (p := !eqL (((dueOf hd q c3 i).map escD).map .str) (((dueOf hd q c3 i).map escD).map .str))
    · refine Tr.cmp (p := .list (((dueOf hd q c3 i).map escD).map .str)) (q := .list (((dueOf hd q c3 i).map escD).map .str)) ?_ ?_ (Cm.ne_list (all_sc _) (all_sc _)) (by kernel_rfl)
      · walk_at "step"
      · rw [← esc_is]
        apply Ev.comp (bb := false) (ρ' := []) (fun _ => true) fEsc
        case hit => apply It.list; walk_at "step"
        case hok => kernel_rfl
        case hcell => kernel_rfl
        case hkind => kernel_rfl
        case hnames => kernel_rfl
        case hx => kernel_rfl
        case hd => kernel_rfl
        case hsub => exact fun _ h => nomatch h
        case hcap => kernel_rfl
        case hno => exact strs_noObj _
        case hsz => rw [List.length_map]; exact Nat.le_trans hduel (by decide)
        case hq => intro y _ C; exact Trs.nil
        case hf =>
          intro y hy _
          obtain ⟨p, hp, rfl⟩ := List.mem_map.mp hy
          have hpl := hdue p hp
          refine ⟨rfl, fun C => ?_⟩
          show Ev _ _ _ (.str (if memS (.str p) (marksL.map fun n => .str [n]) then [92] ++ p else p))
          apply Ev.ifstr
          · refine Tr.cmp (p := .str p) (q := .list (marksL.map fun n => .str [n])) ?_ ?_ (Cm.in_list rfl rfl) (by kernel_rfl)
            · walk_at "step"
            · exact Ev.list_str (x := marksL) (by walk_at "gl") Ev.cstr (by decide) (by kernel_rfl)
          · intro _
            apply Ev.binop (p := .str [92]) (q := .str p)
            · exact Ev.cstr
            · walk_at "step"
            · apply Bo.add_str; simp only [List.length_cons, List.length_nil]; omega
          · intro _; walk_at "step"
    · rw [eqL_self]; rfl
  case h1 => intro h; cases h
  case h2 =>
    intro _
    apply Bd.cont
    apply B0.appF (em := false) (its := its) (p := .list ((dueOf hd q c3 i).map .str)) ((Str.ofString "read", .obj D) :: rhoA cs o t hd size w0 w1 q0 q1) rfl
    case hm => simp
    case hn => exact hD
    case ho => exact hO
    case hline => kernel_rfl
    case htr => intro pos; kernel_rfl
    case hint => kernel_rfl
    case hem => exact fun h => nomatch h
    case hel => exact fun _ => hel
    case hz => omega
    case he =>
      rw [← last_is _ hP.last]
      apply Ev.comp (bb := false) (ρ' := []) (fun _ => true) fLast
      case hit => apply It.list; walk_at "step"
      case hok => kernel_rfl
      case hcell => kernel_rfl
      case hkind => kernel_rfl
      case hnames => kernel_rfl
      case hx => kernel_rfl
      case hd => kernel_rfl
      case hsub => exact fun _ h => nomatch h
      case hcap => kernel_rfl
      case hno => exact strs_noObj _
      case hsz => rw [List.length_map, List.length_map]; exact Nat.le_trans hduel (by decide)
      case hq => intro y _ C; exact Trs.nil
      case hf =>
        intro y hy _
        obtain ⟨p, hp, rfl⟩ := List.mem_map.mp hy
        obtain ⟨p', hp', rfl⟩ := List.mem_map.mp hp
        have hpl := hdue p' hp'
        have hel : (escD p').length ≤ 65536 := by
          unfold escD
          split
          · rw [List.length_append]; simp only [List.length_cons, List.length_nil]; omega
          · omega
        refine ⟨rfl, fun C => ?_⟩
        show Ev _ _ _ (.str (cut (escD p') (some (-1)) none))
        apply Ev.slice_str
        · walk_at "step"
        · apply Pt.some; exact Ev.neg Ev.cint
        · exact Pt.none
        · exact hel
    case hp =>
      show dis false (.list ((hd :: _).map .str)) = true
      show (true && diss false ((hd :: _).map .str)) = true
      rw [diss_str]; rfl
    case hsub =>
      intro e he
      refine ⟨List.mem_cons_of_mem _ (List.mem_cons_of_mem _ (List.mem_cons_of_mem _ (List.mem_cons_of_mem _ (List.mem_cons_of_mem _ (List.mem_cons_of_mem _ (List.mem_cons_of_mem _ he)))))), ?_⟩
      rcases List.mem_cons.mp he with rfl | he
      · rfl
      exact (fa1 rfl (fa1 rfl (fa1 rfl (fa1 rfl (fa1 rfl (fa1 rfl (fa1 (dis_ints h3) fa0)))))) : ∀ x ∈ rhoA cs o t hd size w0 w1 q0 q1, dis false x.2 = true) e he
    case hF => exact hF
    intro v o' G hO' hG hG'
    apply Bd.nil
    intro s' X
    exact fin v o' G s' hO' hG hG' X
noncomputable def twoL (p0 p1 : List (List Nat)) : List PV := [p0, p1].map fun p => PV.list (p.map .str)
theorem law_loop {n : Nat} (hN : cc.N = n + 4) (T0 : K0.heap.get? tb = some (tabObj #[])) (h3 : cs[3]? = some c3) (h4 : cs[4]? = some c4) (h5 : cs[5]? = some c5) (hP0 : PathP hd q0 c3 c4 c5 0) (hP1 : PathP hd q1 c3 c4 c5 1)
    (hT : TailP o t hd size w0 w1 q0 q1 (dueOf hd q0 c3 0) (dueOf hd q1 c3 1) l0 l1)
    (hQ : ∀ v s K ρ G, Lk (lawC cc L) K0 K → Base (lawC cc L) K → Act ((lawC cc L).fx G) K [] ρ s → Rep [] s.heap (.bool true) v → Q (.ret v) s) :
    Bd ((lawC cc L).fx []) K0 [] (rhoA cs o t hd size w0 w1 q0 q1) ((sBody (stm 21)).drop 11) Q := by
  apply B0.letF rfl
  case hok => kernel_rfl
  case hx => kernel_rfl
  case hs => kernel_rfl
  intro D oD hD hOD
  obtain ⟨_, _, n0, hd0⟩ := id hOD
  apply B0.forF (σ := Obj × List (Addr × Obj) × Array Value) (em := false) (its := #[]) (xs := [.str q0, .str q1])
    (fun i t => PlainO t.1 t.2.2 ∧ t.2.2.size = i ∧ (∀ e ∈ t.2.1, e.1 ≠ D ∧ ∃ ys n, e.2.data = .seq ys n) ∧ (t.2.2 = #[] ∨ ∃ a, t.2.2[0]? = some (.ref a)) ∧
      (∀ h : Heap, (∀ e ∈ t.2.1, h.get? e.1 = some e.2) → Reps [] h ((twoL (dueOf hd q0 c3 0) (dueOf hd q1 c3 1)).take i) t.2.2.toList))
    (fun t => t.1) (fun t => t.2.1) (fun _ => (Str.ofString "read", .obj D) :: rhoA cs o t hd size w0 w1 q0 q1) (oD, [], #[]) rfl
  case hm => walk_at "mem"
  case hn => exact hD
  case hd => exact hd0
  case hem => exact fun h => nomatch h
  case hel => exact fun _ => .inl rfl
  case hdis => rfl
  case hne => exact fun i t hI e he => .inr (hI.2.2.1 e he).2
  case h0 => exact ⟨hOD, rfl, (fun e he => nomatch he), .inl rfl, fun h _ => rfl⟩
  case ho0 => rfl
  case hF0 => rfl
  case hρ0 => exact fun _ h => h
  case hok => kernel_rfl
  case hx => intro _; kernel_rfl
  case hfl => exact fa1 rfl (fa1 rfl fa0)
  case turn =>
    rintro i z ⟨o1, F1, its⟩ G hz ⟨hO, hsz, hF, hel, hR⟩ hG
    dsimp only at hO hsz hF hel hR
    obtain ⟨q, hq, hP, hz', hi⟩ : ∃ q, z = .str q ∧ PathP hd q c3 c4 c5 i ∧ (twoL (dueOf hd q0 c3 0) (dueOf hd q1 c3 1))[i]? = some (.list ((dueOf hd q c3 i).map .str)) ∧ i < 2 := by
      rcases i with _ | _ | i
      · exact ⟨q0, (Option.some.inj hz).symm, hP0, rfl, by decide⟩
      · exact ⟨q1, (Option.some.inj hz).symm, hP1, rfl, by decide⟩
      · exact none_some hz
    subst hq
    refine law_turn hN (its := its) (F := G ++ F1) hD hO hsz (by omega) hel (fun e he => (List.mem_append.mp he).elim (hG e) fun he => (hF e he).1) h3 h4 h5 hP hT.zh fun v o' G' s' hO' hR' hG' X => ?_
    have sw : ∀ e ∈ (D, o') :: (G ++ (G' ++ F1)), e ∈ (D, o') :: (G' ++ (G ++ F1)) := fa1 List.mem_cons_self (fap (fun e he => by walk_at "in") (fap (fun e he => by walk_at "in") (fun e he => by walk_at "in")))
    have hv := hR' s'.heap fun e he => X.sit.fx e (by show e ∈ (D, o') :: (G' ++ (G ++ F1)); exact List.mem_cons_of_mem _ (List.mem_append_left _ he))
    refine ⟨(o', G' ++ F1, its.push v), ⟨hO', by simp [hsz], fun e he => (List.mem_append.mp he).elim (hG' e) (hF e), ?_, fun h hh => ?_⟩, X.refix (fun e he => X.sit.fx e ?_) fun e he => X.fo e ?_⟩
    · right
      by_cases h0 : its.size = 0
      · obtain ⟨a, _, rfl, _⟩ := hv
        have : its = #[] := Array.eq_empty_of_size_eq_zero h0
        subst this
        exact ⟨a, by simp⟩
      · rcases hel with h | ⟨a, h⟩
        · rw [h] at h0; simp at h0
        · exact ⟨a, by show (its.push v)[0]? = _; rw [Array.getElem?_push, if_neg (by omega)]; exact h⟩
    · rw [Array.toList_push, List.take_add_one, hz']
      exact (hR h fun e he => hh e (List.mem_append_right _ he)).append ⟨v, [], rfl, hR' h fun e he => hh e (List.mem_append_left _ he), rfl⟩
    · exact sw e he
    · exact sw e he
  case fin =>
    rintro ⟨o1, F1, its⟩ ⟨hO, hsz, hF, hel, hR⟩
    dsimp only at hO hsz hF hel hR
    refine ⟨fun s E X => (law_tail hN T0 hT hQ).run s E ?_⟩
    refine Act.revar (ρ := (Str.ofString "read", PV.obj D) :: rhoA cs o t hd size w0 w1 q0 q1) (X.refix (F' := []) (fun e he => nomatch he) (fun e he => nomatch he)) rfl fun e he => ?_
    rcases List.mem_cons.mp he with rfl | he
    · refine ⟨.obj D, List.mem_cons_self, fun v hv => ?_⟩
      obtain rfl : v = .ref D := hv
      obtain ⟨hc, _, n, hdt⟩ := hO
      have hD' : s.heap.get? D = some o1 := X.sit.fx (D, o1) List.mem_cons_self
      exact ⟨D, its, rfl, by simp, ⟨o1, hD', hc, n, hdt⟩, by rw [hsz]; show 2 ≤ 65536; decide, hR s.heap fun e he => X.sit.fx e (List.mem_cons_of_mem _ he)⟩
    · refine ⟨e.2, List.mem_cons_of_mem _ ?_, fun v hv => hv⟩
      exact ((by walk_at "sub") : ∀ x ∈ _, x ∈ rhoA cs o t hd size w0 w1 q0 q1) e he
  case hs => intro v; kernel_rfl
end

end
section
open PySem PySem.W PyProof.Rows PySem.Calls
set_option Elab.async false
set_option maxRecDepth 100000
set_option maxHeartbeats 0
set_option linter.all false

/-! law: its head -/
noncomputable def pairsL : List (List Nat) := [[115, 116], [102, 105], [102, 108], [107, 109], [104, 112], [107, 97], [115, 46], [107, 43]]
noncomputable def headL : List Nat := [63, 47, 40, 91, 124, 94, 38, 61]
noncomputable def pairOf (c0 : Int) : List Nat := pairsL.getD (c0 % 8).toNat []
noncomputable def sizeOf' (c0 : Int) : Nat := 3 + (c0 / 8 % 10).toNat
noncomputable def headOf (c0 : Int) : List Nat := [headL.getD (c0 / 240 % 8).toNat 0]
noncomputable def wordSigns (pr : List Nat) (cell : Int) (n : Nat) : List (List Nat) := (List.range n).map fun (j : Nat) => [pr.getD (cell / 2 ^ j % 2).toNat 0]
noncomputable def wordOf (pr : List Nat) (cell : Int) (n : Nat) : List Nat := (wordSigns pr cell n).flatten
noncomputable def swapOf (c3 : Int) (n : Nat) : List Int := [c3 % (n : Int), c3 / (n : Int) % (n : Int)]
noncomputable def movedAt (sw : List Int) (j : Nat) : Int := if memS (.int (j : Int)) (sw.map .int) then sw.sum - (j : Int) else (j : Int)
noncomputable def movedSigns (w : List Nat) (sw : List Int) (n : Nat) : List (List Nat) := (List.range n).map fun (j : Nat) => [w.getD (movedAt sw j).toNat 0]
noncomputable def movedOf (w : List Nat) (sw : List Int) (n : Nat) : List Nat := (movedSigns w sw n).flatten
noncomputable def fBit (pr : List Nat) (cell : Int) : PV → PV
  | .int j => .str [pr.getD (cell / 2 ^ j.toNat % 2).toNat 0]
  | _ => .none
noncomputable def fWord (pr : List Nat) (n : Nat) : PV → PV
  | .int cell => .str (wordOf pr cell n)
  | _ => .none
noncomputable def fMoved (w : List Nat) (sw : List Int) : PV → PV
  | .int j => .str [w.getD (movedAt sw j.toNat).toNat 0]
  | _ => .none
noncomputable def fPrep : PV → PV
  | .str x => .str (prepared x)
  | _ => .none
theorem bit_is (pr : List Nat) (cell : Int) (n : Nat) : (((rng 0 (n : Int)).filter fun _ => true).map (fBit pr cell)) = (wordSigns pr cell n).map .str := by
  have e : rng 0 (n : Int) = (List.range n).map fun (i : Nat) => PV.int (i : Int) := by simp [rng]
  rw [List.filter_eq_self.mpr (by simp), e, wordSigns, List.map_map, List.map_map]
  apply List.map_congr_left
  intro j _
  simp only [Function.comp_def, fBit, Int.toNat_natCast]
theorem moved_is (w : List Nat) (sw : List Int) (n : Nat) : (((rng 0 (n : Int)).filter fun _ => true).map (fMoved w sw)) = (movedSigns w sw n).map .str := by
  have e : rng 0 (n : Int) = (List.range n).map fun (i : Nat) => PV.int (i : Int) := by simp [rng]
  rw [List.filter_eq_self.mpr (by simp), e, movedSigns, List.map_map, List.map_map]
  apply List.map_congr_left
  intro j _
  simp only [Function.comp_def, fMoved, Int.toNat_natCast]
theorem ones_sum (l : List Nat) : (l.map fun _ => 1).sum = l.length := by
  induction l with
  | nil => rfl
  | cons x xs ih => rw [List.map_cons, List.sum_cons, ih, List.length_cons]; omega
theorem word_len (pr : List Nat) (cell : Int) (n : Nat) : (wordOf pr cell n).length = n := by
  unfold wordOf wordSigns
  rw [List.length_flatten, List.map_map]
  have : ((List.range n).map (List.length ∘ fun (j : Nat) => [pr.getD (cell / 2 ^ j % 2).toNat 0])) = (List.range n).map fun _ => 1 := by
    apply List.map_congr_left; intro j _; rfl
  rw [this, ones_sum, List.length_range]
theorem moved_len (w : List Nat) (sw : List Int) (n : Nat) : (movedOf w sw n).length = n := by
  unfold movedOf movedSigns
  rw [List.length_flatten, List.map_map]
  have : ((List.range n).map (List.length ∘ fun (j : Nat) => [w.getD (movedAt sw j).toNat 0])) = (List.range n).map fun _ => 1 := by
    apply List.map_congr_left; intro j _; rfl
  rw [this, ones_sum, List.length_range]
noncomputable def twoOf (c0 : Int) (own mv o : List Nat) : List Nat := [own, mv, o].getD (c0 / 80 % 3).toNat []
section
variable {cc : Cx} {K0 : Shared} {Q : Flow → Shared → Prop} {L : Addr} {ns : List Int} {c0 c1 c2 c3 c4 c5 : Int} {o t hd : List Nat} {size : Nat} {q0 q1 : List Nat} {l0 l1 : PV}
theorem law_head {n : Nat} (hN : cc.N = n + 4) (hz : ns.length ≤ 65536) (hcs : cellsOf ns = [c0, c1, c2, c3, c4, c5]) (hsz : size = sizeOf' c0) (ho : o = wordOf (pairOf c0) c1 size) (hhd : hd = headOf c0)
    (ht : t = twoOf c0 (wordOf (pairOf c0) c2 size) (movedOf o (swapOf c3 size) size) o) (hmv : ∀ j, j < size → 0 ≤ movedAt (swapOf c3 size) j ∧ (movedAt (swapOf c3 size) j).toNat < size)
    (hso : ∀ x ∈ o, x = 46 ∨ x = 43 ∨ (97 ≤ x ∧ x ≤ 122)) (hst : ∀ x ∈ t, x = 46 ∨ x = 43 ∨ (97 ≤ x ∧ x ≤ 122)) (ho1 : prepared (typedOf o c4) = o) (ht1 : prepared (typedOf t c5) = t)
    (hp : pathsOf o t = [q0, q1]) (hzo : (typedOf o c4).length ≤ 1000) (hzt : (typedOf t c5).length ≤ 1000)
    (K : Bd ((lawC cc L).fx []) K0 [] (rhoA [c0, c1, c2, c3, c4, c5] o t hd size (typedOf o c4) (typedOf t c5) q0 q1) ((sBody (stm 21)).drop 11) Q) :
    Bd ((lawC cc L).fx []) K0 [] [(Str.ofString "script", .list (ns.map .int))] (sBody (stm 21)) Q := by
  have hci : (lawC cc L).N = n + 3 := by show cc.N - 1 = _; omega
  have hs1 : 3 ≤ size ∧ size ≤ 12 := by rw [hsz]; unfold sizeOf'; omega
  have hpl : (pairOf c0).length = 2 := by
    unfold pairOf
    have : (c0 % 8).toNat < 8 := by omega
    generalize (c0 % 8).toNat = k at this
    rcases k with _ | _ | _ | _ | _ | _ | _ | _ | k <;> first | rfl | omega
  have htl : t.length = size := by
    rw [ht]
    unfold twoOf
    have h8 : (c0 / 80 % 3).toNat < 3 := by omega
    generalize (c0 / 80 % 3).toNat = k at h8
    rcases k with _ | _ | _ | k
    · exact word_len _ _ _
    · exact moved_len _ _ _
    · show o.length = size; rw [ho, word_len]
    · omega
  apply B0.let (p := .list (([c0, c1, c2, c3, c4, c5] : List Int).map .int)) rfl
  case hok => kernel_rfl
  case hx => kernel_rfl
  case hs => kernel_rfl
  case he =>
    rw [← hcs]
    apply Ev.fn (f := 146) (fd := lawFd 13 "_law_cells" 145) (ps := [.list (ns.map .int)]) (by walk_at "gl") (by intro P; kernel_rfl) (by kernel_rfl) cells_o (by decide) (by kernel_rfl)
    · apply Evs.cons
      · walk_at "step"
      · exact Evs.nil
      all_goals kernel_rfl
    · exact cl_cells (n := n + 2) rfl (by exact hci) hz
  apply B0.let (p := .str (pairOf c0)) rfl
  case hok => kernel_rfl
  case hx => kernel_rfl
  case hs => kernel_rfl
  case he =>
    apply Ev.item_list (xs := pairsL.map .str) (k := c0 % 8)
    · apply Ev.list
      · repeat' (first | exact Evs.nil | (apply Evs.cons; (· exact Ev.cstr)))
        all_goals kernel_rfl
      · show 8 ≤ 65536; decide
    · apply Ev.binop (p := .int c0)
      · apply Ev.item_list (xs := ([c0, c1, c2, c3, c4, c5] : List Int).map .int)
        · walk_at "step"
        · walk_at "step"
        · exact ⟨by decide, rfl⟩
      · exact Ev.cint
      · exact Bo.mod_pos (by decide)
    · have h8 : (c0 % 8).toNat < 8 := by omega
      refine ⟨by omega, ?_⟩
      unfold pairOf
      generalize (c0 % 8).toNat = k at h8
      rcases k with _ | _ | _ | _ | _ | _ | _ | _ | k <;> first | rfl | omega
  apply B0.let (p := .int (size : Int)) rfl
  case hok => kernel_rfl
  case hx => kernel_rfl
  case hs => kernel_rfl
  case he =>
    have e1 : (size : Int) = 3 + c0 / 8 % 10 := by rw [hsz]; unfold sizeOf'; omega
    rw [e1]
    apply Ev.binop (p := .int 3) (q := .int (c0 / 8 % 10))
    · exact Ev.cint
    · apply Ev.binop (p := .int (c0 / 8))
      · apply Ev.binop (p := .int c0)
        · apply Ev.item_list (xs := ([c0, c1, c2, c3, c4, c5] : List Int).map .int)
          · walk_at "step"
          · walk_at "step"
          · exact ⟨by decide, rfl⟩
        · exact Ev.cint
        · exact Bo.div_pos (by decide)
      · exact Ev.cint
      · exact Bo.mod_pos (by decide)
    · exact Bo.add_int
  apply B0.let (p := .str hd) rfl
  case hok => kernel_rfl
  case hx => kernel_rfl
  case hs => kernel_rfl
  case he =>
    rw [hhd]
    apply Ev.item_str (xs := headL) (k := c0 / 240 % 8)
    · exact Ev.cstr
    · apply Ev.binop (p := .int (c0 / 240))
      · apply Ev.binop (p := .int c0)
        · apply Ev.item_list (xs := ([c0, c1, c2, c3, c4, c5] : List Int).map .int)
          · walk_at "step"
          · walk_at "step"
          · exact ⟨by decide, rfl⟩
        · exact Ev.cint
        · exact Bo.div_pos (by decide)
      · exact Ev.cint
      · exact Bo.mod_pos (by decide)
    · decide
    · have h8 : (c0 / 240 % 8).toNat < 8 := by omega
      refine ⟨by omega, ?_⟩
      generalize (c0 / 240 % 8).toNat = k at h8
      rcases k with _ | _ | _ | _ | _ | _ | _ | _ | k <;> first | rfl | omega
  apply B0.pairL (p := .str o) (q := .str (wordOf (pairOf c0) c2 size)) ((Str.ofString "head", .str hd) :: (Str.ofString "size", .int (size : Int)) :: (Str.ofString "pair", .str (pairOf c0)) :: (Str.ofString "cells", .list (([c0, c1, c2, c3, c4, c5] : List Int).map .int)) :: [(Str.ofString "script", .list (ns.map .int))]) rfl
  case h1 => kernel_rfl
  case h2 => kernel_rfl
  case hx => kernel_rfl
  case hy => kernel_rfl
  case hs => kernel_rfl
  case hw => kernel_rfl
  case hsub => exact fun _ h => h
  case he =>
    rw [show [PV.str o, PV.str (wordOf (pairOf c0) c2 size)] = [PV.int c1, PV.int c2].map (fWord (pairOf c0) size) by rw [ho]; rfl]
    apply Ev.compK (bb := false) (xs := [.int c1, .int c2]) (ρ' := [(Str.ofString "pair", .str (pairOf c0)), (Str.ofString "size", .int (size : Int))]) (fWord (pairOf c0) size)
    case hit =>
      apply It.list
      apply Ev.eq
      · apply Ev.slice_list (xs := ([c0, c1, c2, c3, c4, c5] : List Int).map .int)
        · walk_at "step"
        · exact Pt.some Ev.cint
        · exact Pt.some Ev.cint
      · rfl
    case hok => kernel_rfl
    case hcells => intro n acc; rfl
    case hpush => intro h; rfl
    case hkind => kernel_rfl
    case hnames => kernel_rfl
    case hx => kernel_rfl
    case hd => kernel_rfl
    case hsub =>
      walk_at "sub"
    case hcap => kernel_rfl
    case hsz => show 2 ≤ 65536; decide
    case hf =>
      intro y hy
      obtain ⟨cell, rfl⟩ : ∃ cell : Int, y = .int cell := by
        simp only [List.mem_cons, List.not_mem_nil, or_false] at hy
        rcases hy with rfl | rfl
        · exact ⟨c1, rfl⟩
        · exact ⟨c2, rfl⟩
      refine ⟨rfl, fun C K => ?_⟩
      show Ev _ _ _ (.str (wordOf (pairOf c0) cell size))
      apply Ev.meth_str F.slot_str_join F.type_str_join
      · walk_at "step"
      · apply Evs.cons (p := .list ((wordSigns (pairOf c0) cell size).map .str))
        · rw [← bit_is]
          apply Ev.comp (bb := true) (ρ' := [(Str.ofString "cell", .int cell), (Str.ofString "pair", .str (pairOf c0))]) (fun _ => true) (fBit (pairOf c0) cell)
          case hit =>
            apply It.range1
            · walk_at "nmt"
            · walk_at "step"
            · omega
            all_goals kernel_rfl
          case hok => kernel_rfl
          case hcell => kernel_rfl
          case hkind => kernel_rfl
          case hnames => kernel_rfl
          case hx => kernel_rfl
          case hd => kernel_rfl
          case hsub =>
            walk_at "sub"
          case hcap => kernel_rfl
          case hno => exact rng_noObjs _ _
          case hsz => rw [rng_length]; omega
          case hq => intro y _ C; exact Trs.nil
          case hf =>
            intro y hy _
            obtain ⟨j, hj, rfl⟩ := List.mem_map.mp hy
            have hj : j < size := by have := List.mem_range.mp hj; omega
            refine ⟨rfl, fun C => ?_⟩
            have e1 : fBit (pairOf c0) cell (PV.int (0 + (j : Int))) = .str [(pairOf c0).getD (cell / 2 ^ j % 2).toNat 0] := by
              rw [Int.zero_add]; simp only [fBit, Int.toNat_natCast]
            rw [e1, Int.zero_add]
            have hb : 0 ≤ cell / 2 ^ j % 2 ∧ cell / 2 ^ j % 2 < 2 := ⟨Int.emod_nonneg _ (by decide), Int.emod_lt_of_pos _ (by decide)⟩
            apply Ev.item_str (xs := pairOf c0) (k := cell / 2 ^ j % 2)
            · walk_at "step"
            · apply Ev.binop (p := .int (cell / 2 ^ j))
              · apply Ev.binop (p := .int cell) (q := .int (2 ^ j))
                · walk_at "step"
                · apply Ev.binop (p := .int 2) (q := .int (j : Int))
                  · exact Ev.cint
                  · walk_at "step"
                  · exact Bo.pow_int (by decide) (by decide) (by omega)
                · apply Bo.div_pos
                  have h1 : (2 : Int) ^ j = ((2 ^ j : Nat) : Int) := by norm_cast
                  have h2 : 2 ^ j ≤ 2 ^ 12 := Nat.pow_le_pow_right (by decide) (by omega)
                  have h3 : 0 < 2 ^ j := Nat.two_pow_pos _
                  rw [h1]
                  refine ⟨by omega, ?_⟩
                  rw [Int.natAbs_natCast]
                  exact Nat.lt_of_le_of_lt h2 (by decide)
              · exact Ev.cint
              · exact Bo.mod_pos (by decide)
            · rw [hpl]; decide
            · refine ⟨hb.1, ?_⟩
              have hk : (cell / 2 ^ j % 2).toNat < (pairOf c0).length := by rw [hpl]; omega
              rw [List.getD_eq_getElem?_getD, List.getElem?_eq_getElem hk]; rfl
        · exact Evs.nil
        all_goals kernel_rfl
      · apply Cl.join
        have := word_len (pairOf c0) cell size
        unfold wordOf at this
        omega
      all_goals first | kernel_rfl | (intro _; kernel_rfl)
  apply B0.let (p := .list ((swapOf c3 size).map .int)) rfl
  case hok => kernel_rfl
  case hx => kernel_rfl
  case hs => kernel_rfl
  case he =>
    apply Ev.list
    · apply Evs.cons
      · apply Ev.binop (p := .int c3) (q := .int (size : Int))
        · apply Ev.item_list (xs := ([c0, c1, c2, c3, c4, c5] : List Int).map .int)
          · walk_at "step"
          · walk_at "step"
          · exact ⟨by decide, rfl⟩
        · walk_at "step"
        · exact Bo.mod_pos (by omega)
      · apply Evs.cons
        · apply Ev.binop (p := .int (c3 / (size : Int))) (q := .int (size : Int))
          · apply Ev.binop (p := .int c3) (q := .int (size : Int))
            · apply Ev.item_list (xs := ([c0, c1, c2, c3, c4, c5] : List Int).map .int)
              · walk_at "step"
              · walk_at "step"
              · exact ⟨by decide, rfl⟩
            · walk_at "step"
            · apply Bo.div_pos
              refine ⟨by omega, ?_⟩
              rw [Int.natAbs_natCast]
              exact Nat.lt_of_le_of_lt hs1.2 (by decide)
          · walk_at "step"
          · exact Bo.mod_pos (by omega)
        · exact Evs.nil
        all_goals kernel_rfl
      all_goals kernel_rfl
    · show 2 ≤ 65536; decide
  apply B0.let (p := .str (movedOf o (swapOf c3 size) size)) rfl
  case hok => kernel_rfl
  case hx => kernel_rfl
  case hs => kernel_rfl
  case he =>
    apply Ev.meth_str F.slot_str_join F.type_str_join
    · walk_at "step"
    · apply Evs.cons (p := .list ((movedSigns o (swapOf c3 size) size).map .str))
      · rw [← moved_is]
        apply Ev.comp (bb := true) (ρ' := [(Str.ofString "swap", .list ((swapOf c3 size).map .int)), (Str.ofString "one", .str o)]) (fun _ => true) (fMoved o (swapOf c3 size))
        case hit =>
          apply It.range1
          · walk_at "nmt"
          · walk_at "step"
          · omega
          all_goals kernel_rfl
        case hok => kernel_rfl
        case hcell => kernel_rfl
        case hkind => kernel_rfl
        case hnames => kernel_rfl
        case hx => kernel_rfl
        case hd => kernel_rfl
        case hsub =>
          walk_at "sub"
        case hcap => kernel_rfl
        case hno => exact rng_noObjs _ _
        case hsz => rw [rng_length]; omega
        case hq => intro y _ C; exact Trs.nil
        case hf =>
          intro y hy _
          obtain ⟨j, hj, rfl⟩ := List.mem_map.mp hy
          have hj : j < size := by have := List.mem_range.mp hj; omega
          refine ⟨rfl, fun C => ?_⟩
          have e1 : fMoved o (swapOf c3 size) (PV.int (0 + (j : Int))) = .str [o.getD (movedAt (swapOf c3 size) j).toNat 0] := by
            rw [Int.zero_add]; simp only [fMoved, Int.toNat_natCast]
          rw [e1, Int.zero_add]
          have hol : o.length = size := by rw [ho, word_len]
          apply Ev.item_str (xs := o) (k := movedAt (swapOf c3 size) j)
          · walk_at "step"
          · unfold movedAt
            apply Ev.ifint
            · refine Tr.cmp (p := .int (j : Int)) (q := .list ((swapOf c3 size).map .int)) ?_ ?_ (Cm.in_list rfl rfl) (by kernel_rfl)
              · walk_at "step"
              · walk_at "step"
            · intro _
              apply Ev.binop (p := .int (swapOf c3 size).sum) (q := .int (j : Int))
              · apply Ev.call_bltn
                · walk_at "nmb"
                · apply Evs.cons (p := .list ((swapOf c3 size).map .int))
                  · walk_at "step"
                  · exact Evs.nil
                  all_goals kernel_rfl
                · exact Cl.sum_list
                all_goals first | kernel_rfl | (intro _; kernel_rfl)
              · walk_at "step"
              · exact Bo.sub_int
            · intro _; walk_at "step"
          · omega
          · have hk := hmv j hj
            refine ⟨hk.1, ?_⟩
            have hk2 : (movedAt (swapOf c3 size) j).toNat < o.length := by rw [hol]; exact hk.2
            rw [List.getD_eq_getElem?_getD, List.getElem?_eq_getElem hk2]; rfl
      · exact Evs.nil
      all_goals kernel_rfl
    · apply Cl.join
      have := moved_len o (swapOf c3 size) size
      unfold movedOf at this
      omega
    all_goals first | kernel_rfl | (intro _; kernel_rfl)
  apply B0.let (p := .str t) rfl
  case hok => kernel_rfl
  case hx => kernel_rfl
  case hs => kernel_rfl
  case he =>
    apply Ev.item_list (xs := [.str (wordOf (pairOf c0) c2 size), .str (movedOf o (swapOf c3 size) size), .str o]) (k := c0 / 80 % 3)
    · apply Ev.list
      · apply Evs.cons
        · walk_at "step"
        · apply Evs.cons
          · walk_at "step"
          · apply Evs.cons
            · walk_at "step"
            · exact Evs.nil
            all_goals kernel_rfl
          all_goals kernel_rfl
        all_goals kernel_rfl
      · show 3 ≤ 65536; decide
    · apply Ev.binop (p := .int (c0 / 80))
      · apply Ev.binop (p := .int c0)
        · apply Ev.item_list (xs := ([c0, c1, c2, c3, c4, c5] : List Int).map .int)
          · walk_at "step"
          · walk_at "step"
          · exact ⟨by decide, rfl⟩
        · exact Ev.cint
        · exact Bo.div_pos (by decide)
      · exact Ev.cint
      · exact Bo.mod_pos (by decide)
    · have h8 : (c0 / 80 % 3).toNat < 3 := by omega
      refine ⟨by omega, ?_⟩
      rw [ht]
      unfold twoOf
      generalize (c0 / 80 % 3).toNat = k at h8
      rcases k with _ | _ | _ | k <;> first | rfl | omega
  apply B0.let (p := .list [.str (typedOf o c4), .str (typedOf t c5)]) rfl
  case hok => kernel_rfl
  case hx => kernel_rfl
  case hs => kernel_rfl
  case he =>
    apply Ev.list
    · apply Evs.cons
      · apply Ev.fn (f := 160) (fd := lawFd 15 "_law_typed" 159) (ps := [.str o, .int c4]) (by walk_at "gl") (by intro P; kernel_rfl) (by kernel_rfl) typed_o (by decide) (by kernel_rfl)
        · apply Evs.cons
          · walk_at "step"
          · apply Evs.cons
            · apply Ev.item_list (xs := ([c0, c1, c2, c3, c4, c5] : List Int).map .int)
              · walk_at "step"
              · walk_at "step"
              · exact ⟨by decide, rfl⟩
            · exact Evs.nil
            all_goals kernel_rfl
          all_goals kernel_rfl
        · exact cl_typed (n := n + 1) rfl (by exact hci) (by rw [ho, word_len]; omega) hso
      · apply Evs.cons
        · apply Ev.fn (f := 160) (fd := lawFd 15 "_law_typed" 159) (ps := [.str t, .int c5]) (by walk_at "gl") (by intro P; kernel_rfl) (by kernel_rfl) typed_o (by decide) (by kernel_rfl)
          · apply Evs.cons
            · walk_at "step"
            · apply Evs.cons
              · apply Ev.item_list (xs := ([c0, c1, c2, c3, c4, c5] : List Int).map .int)
                · walk_at "step"
                · walk_at "step"
                · exact ⟨by decide, rfl⟩
              · exact Evs.nil
              all_goals kernel_rfl
            all_goals kernel_rfl
          · exact cl_typed (n := n + 1) rfl (by exact hci) (by omega) hst
        · exact Evs.nil
        all_goals kernel_rfl
      all_goals kernel_rfl
    · show 2 ≤ 65536; decide
  apply B0.ite (b := false) rfl
  case ht =>
    apply Tr.eq (p := !eqL [PV.str (prepared (typedOf o c4)), .str (prepared (typedOf t c5))] [.str o, .str t])
    · refine Tr.cmp (p := .list [PV.str (prepared (typedOf o c4)), .str (prepared (typedOf t c5))]) (q := .list [.str o, .str t]) ?_ ?_ (Cm.ne_list rfl rfl) (by kernel_rfl)
      · rw [show [PV.str (prepared (typedOf o c4)), PV.str (prepared (typedOf t c5))] = (([PV.str (typedOf o c4), PV.str (typedOf t c5)].filter fun _ => true).map fPrep) from rfl]
        apply Ev.comp (bb := false) (ρ' := []) (fun _ => true) fPrep
        case hit => apply It.list; walk_at "step"
        case hok => kernel_rfl
        case hcell => kernel_rfl
        case hkind => kernel_rfl
        case hnames => kernel_rfl
        case hx => kernel_rfl
        case hd => kernel_rfl
        case hsub => exact fun _ h => nomatch h
        case hcap => kernel_rfl
        case hno => rfl
        case hsz => show 2 ≤ 65536; decide
        case hq => intro y _ C; exact Trs.nil
        case hf =>
          intro y hy _
          obtain ⟨w, rfl, hw, hw2⟩ : ∃ w, y = .str w ∧ w.length ≤ 1000 ∧ (prepared w).length ≤ 1000 := by
            simp only [List.mem_cons, List.not_mem_nil, or_false] at hy
            rcases hy with rfl | rfl
            · exact ⟨_, rfl, hzo, by rw [ho1, ho, word_len]; omega⟩
            · exact ⟨_, rfl, hzt, by rw [ht1]; omega⟩
          refine ⟨rfl, fun C => ?_⟩
          show Ev _ _ _ (.str (prepared w))
          apply Ev.fn (f := 165) (fd := lawFd 16 "_law_prepared" 164) (ps := [.str w]) (by walk_at "gl") (by intro P; kernel_rfl) (by kernel_rfl) prep_o (by decide) (by kernel_rfl)
          · apply Evs.cons
            · walk_at "step"
            · exact Evs.nil
            all_goals kernel_rfl
          · exact cl_prep (n := n + 1) rfl (by exact hci) (by omega) (by omega)
      · apply Ev.list
        · apply Evs.cons
          · walk_at "step"
          · apply Evs.cons
            · walk_at "step"
            · exact Evs.nil
            all_goals kernel_rfl
          all_goals kernel_rfl
        · show 2 ≤ 65536; decide
    · rw [ho1, ht1]; simp [eqL_c, eqL_n, eqS_i, eqS_t, eqS_b]
  case h1 => intro h; cases h
  case h2 =>
    intro _
    apply Bd.cont
    apply B0.let (p := .list [.str q0, .str q1]) rfl
    case hok => kernel_rfl
    case hx => kernel_rfl
    case hs => kernel_rfl
    case he =>
      rw [show [PV.str q0, PV.str q1] = (pathsOf o t).map .str by rw [hp]; rfl]
      apply Ev.fn (f := 170) (fd := lawFd 17 "_law_paths" 169) (ps := [.str o, .str t]) (by walk_at "gl") (by intro P; kernel_rfl) (by kernel_rfl) paths_o (by decide) (by kernel_rfl)
      · apply Evs.cons
        · walk_at "step"
        · apply Evs.cons
          · walk_at "step"
          · exact Evs.nil
          all_goals kernel_rfl
        all_goals kernel_rfl
      · have h1 : o.length = size := by rw [ho, word_len]
        exact cl_paths (n := n + 2) rfl (by exact hci) ⟨by omega, by omega, by omega, by omega⟩
    refine ⟨fun s E X => K.run s E (X.weak ?_)⟩
    walk_at "sub"
end

end
section
open PySem PySem.W PyProof.Rows PySem.Calls
set_option Elab.async false
set_option maxRecDepth 100000
set_option linter.all false
/-! the plain law, first part: what is typed is prepared to what is meant -/
noncomputable def alL : List Nat := [115, 116, 102, 105, 108, 107, 109, 104, 112, 97, 46, 43]
theorem prepared_append (x y : List Nat) : prepared (x ++ y) = prepared x ++ prepared y := by
  unfold prepared
  rw [List.filter_append, List.flatMap_append]
theorem prepared_nil : prepared [] = [] := rfl
noncomputable def loneF (k : Nat) : Nat := if k < 11 then (loneL.getD k 0).toNat else 65013 + k
noncomputable def fontF (k : Nat) : Nat := (fontsL.getD k 0).toNat
theorem prep_lone : ∀ x ∈ alL, ∀ k < 27, prepared [x, loneF k] = [x] := by decide +kernel
theorem prep_great : ∀ x ∈ alL, x = 46 ∨ x = 43 ∨ prepared [65 + x - 97] = [x] := by decide +kernel
theorem prep_font : ∀ x ∈ alL, x = 46 ∨ x = 43 ∨ ∀ k < 10, prepared [fontF k + x - 97] = [x] := by decide +kernel
theorem prep_self : ∀ x ∈ alL ++ headL ++ [42], prepared [x] = [x] := by decide +kernel
theorem prep_both : ∀ e ∈ bothL, prepared [e.2.toNat] = e.1 := by decide +kernel

end
section
open PySem PySem.W PyProof.Rows PySem.Calls
set_option Elab.async false
set_option maxRecDepth 100000
set_option linter.all false
theorem fontsL_low (k : Nat) (h : k < 10) : 97 ≤ fontsL.getD k 0 := by
  have : ∀ k < 10, 97 ≤ fontsL.getD k 0 := by decide
  exact this k h
theorem al_range : ∀ x ∈ alL, x = 46 ∨ x = 43 ∨ (97 ≤ x ∧ x ≤ 122) := by decide
theorem prep_letter {x : Nat} (hx : x ∈ alL) (way pick : Int) : prepared (letter x way pick) = [x] := by
  unfold letter
  split
  · have hk : (pick % 27).toNat < 27 := by omega
    have e : (loneAt pick).toNat = loneF (pick % 27).toNat := by
      unfold loneAt loneF
      by_cases h : pick % 27 < 11
      · rw [if_pos h, if_pos (by omega)]
      · rw [if_neg h, if_neg (by omega)]; omega
    rw [e]
    exact prep_lone x hx _ hk
  · split
    · rename_i h
      obtain ⟨hw, hn⟩ := h
      have hr := al_range x hx
      have hx97 : 97 ≤ x := by omega
      by_cases h1 : way = 1
      · rw [if_pos h1]
        rw [show ((65 : Int) + (x : Int) - 97).toNat = 65 + x - 97 by omega]
        rcases prep_great x hx with h | h | h
        · exact absurd (.inl h) hn
        · exact absurd (.inr h) hn
        · exact h
      · rw [if_neg h1]
        have hk : (pick % 10).toNat < 10 := by omega
        have hf := fontsL_low _ hk
        rw [show (fontsL.getD (pick % 10).toNat 0 + (x : Int) - 97).toNat = fontF (pick % 10).toNat + x - 97 by unfold fontF; omega]
        rcases prep_font x hx with h | h | h
        · exact absurd (.inl h) hn
        · exact absurd (.inr h) hn
        · exact h _ hk
    · exact prep_self x (by simp [hx])
theorem bothAt_is {x : List Nat} {i : Int} (h : bothAt x = some i) : prepared [i.toNat] = x := by
  unfold bothAt at h
  obtain ⟨e, he, rfl⟩ := Option.map_eq_some_iff.mp h
  have h1 := prep_both e (List.mem_of_find?_eq_some he)
  have h2 := List.find?_some he
  rw [h1]
  simpa using h2
theorem both_len {x : List Nat} {i : Int} (h : bothAt x = some i) : x.length = 2 := by
  unfold bothAt at h
  obtain ⟨e, he, rfl⟩ := Option.map_eq_some_iff.mp h
  have h2 := List.find?_some he
  have h3 : ∀ e ∈ bothL, e.1.length = 2 := by decide
  have := h3 e (List.mem_of_find?_eq_some he)
  simp only [beq_iff_eq] at h2
  rw [← h2]; exact this
theorem typed_inv {nm : List Nat} (hnm : ∀ x ∈ nm, x ∈ alL) (cell : Int) : ∀ i, i ≤ nm.length → prepared ((List.range i).foldl (typeStep nm cell) ([], 0)).1 = nm.take (max i ((List.range i).foldl (typeStep nm cell) ([], 0)).2) ∧ ((List.range i).foldl (typeStep nm cell) ([], 0)).1.length ≤ 2 * i := by
  intro i
  induction i with
  | zero => intro _; exact ⟨rfl, by simp⟩
  | succ i ih =>
    intro hi
    obtain ⟨ih1, ih2⟩ := ih (by omega)
    rw [List.range_succ, List.foldl_append, List.foldl_cons, List.foldl_nil]
    generalize (List.range i).foldl (typeStep nm cell) ([], 0) = t at ih1 ih2
    have hil : i < nm.length := by omega
    unfold typeStep
    split
    · rename_i h
      obtain ⟨h1, _, h3⟩ := h
      obtain ⟨v, hv⟩ := Option.isSome_iff_exists.mp h3
      have hb := bothAt_is hv
      have hl := both_len hv
      rw [hv]
      refine ⟨?_, by simp only [List.length_append, List.length_cons, List.length_nil]; omega⟩
      show prepared (t.1 ++ [v.toNat]) = nm.take (max (i + 1) (i + 2))
      rw [prepared_append, ih1, hb, Nat.max_eq_left h1, Nat.max_eq_right (by omega)]
      exact (List.take_add).symm
    · split
      · rename_i h
        have hx : nm.getD i 0 ∈ nm := by rw [List.getD_eq_getElem?_getD, List.getElem?_eq_getElem hil]; exact List.getElem_mem hil
        have hll := letter_length (nm.getD i 0) (cell / 5 ^ i % 5) (cell / 7 + i)
        refine ⟨?_, by simp only [List.length_append]; omega⟩
        show prepared (t.1 ++ _) = nm.take (max (i + 1) t.2)
        rw [prepared_append, ih1, prep_letter (hnm _ hx), Nat.max_eq_left h, Nat.max_eq_left (by omega), List.take_add_one]
        congr 1
        rw [List.getD_eq_getElem?_getD, List.getElem?_eq_getElem hil]; rfl
      · rename_i h
        refine ⟨?_, by omega⟩
        rw [ih1, Nat.max_eq_right (by omega), Nat.max_eq_right (by omega)]
theorem prep_typed {nm : List Nat} (hnm : ∀ x ∈ nm, x ∈ alL) (cell : Int) : prepared (typedOf nm cell) = nm := by
  unfold typedOf
  rw [(typed_inv hnm cell nm.length (Nat.le_refl _)).1]
  exact List.take_of_length_le (Nat.le_max_left _ _)
theorem typed_len {nm : List Nat} (hnm : ∀ x ∈ nm, x ∈ alL) (cell : Int) : (typedOf nm cell).length ≤ 2 * nm.length := (typed_inv hnm cell nm.length (Nat.le_refl _)).2

end
section
open PySem PySem.W PyProof.Rows PySem.Calls PySem.Builtin PySem.Builtin.Str
set_option Elab.async false
set_option maxRecDepth 100000
set_option linter.all false
/-! the plain law, second part: what is split at the stars -/
noncomputable def starred (ps : List (List Nat)) : List Nat := (ps.map fun p => [42] ++ p).flatten
theorem join_toList (sep : Str) : ∀ (p : Str) (r : List Str), (Str.join sep (p :: r)).cps.toList = p.cps.toList ++ (r.map fun q => sep.cps.toList ++ q.cps.toList).flatten
  | p, [] => by simp [Str.join]
  | p, q :: r => by
    show (p ++ sep ++ Str.join sep (q :: r)).cps.toList = _
    rw [PySem.Str.cps_append, PySem.Str.cps_append, Array.toList_append, Array.toList_append, join_toList sep q r]
    simp
theorem split_ne (x y : Str) : ∃ p r, Txt.split x y = p :: r := by
  unfold Txt.split
  split
  · exact ⟨_, _, rfl⟩
  · split
    · exact ⟨_, _, rfl⟩
    · rw [StrLaws.partsBetween_eq]; exact StrLaws.partsFrom_ne _ _ _ _
theorem starred_uniq : ∀ (p q : List Nat) (ps qs : List (List Nat)), (∀ a ∈ p :: ps, 42 ∉ a) → (∀ a ∈ q :: qs, 42 ∉ a) → p ++ starred ps = q ++ starred qs → p = q ∧ ps = qs := by
  intro p
  induction p with
  | nil =>
    intro q ps qs hp hq h
    cases q with
    | cons b q =>
      cases ps with
      | nil => simp [starred] at h
      | cons a ps =>
        simp only [starred, List.map_cons, List.flatten_cons, List.nil_append, List.cons_append, List.cons.injEq] at h
        exact absurd (h.1 ▸ List.mem_cons_self) (hq _ List.mem_cons_self)
    | nil =>
      refine ⟨rfl, ?_⟩
      induction ps generalizing qs with
      | nil =>
        cases qs with
        | nil => rfl
        | cons b qs => simp [starred] at h
      | cons a ps ih =>
        cases qs with
        | nil => simp [starred] at h
        | cons b qs =>
          simp only [starred, List.map_cons, List.flatten_cons, List.nil_append, List.cons_append, List.cons.injEq, true_and] at h
          have key : ∀ (a b : List Nat) (ps qs : List (List Nat)), 42 ∉ a → 42 ∉ b → a ++ starred ps = b ++ starred qs → a = b ∧ starred ps = starred qs := by
            intro a
            induction a with
            | nil =>
              intro b ps qs ha hb h
              cases b with
              | nil => exact ⟨rfl, by simpa using h⟩
              | cons y b =>
                cases ps with
                | nil => simp [starred] at h
                | cons z ps =>
                  simp only [starred, List.map_cons, List.flatten_cons, List.nil_append, List.cons_append, List.cons.injEq] at h
                  exact absurd (h.1 ▸ List.mem_cons_self) hb
            | cons x a iha =>
              intro b ps qs ha hb h
              cases b with
              | nil =>
                cases qs with
                | nil => simp [starred] at h
                | cons z qs =>
                  simp only [starred, List.map_cons, List.flatten_cons, List.nil_append, List.cons_append, List.cons.injEq] at h
                  exact absurd (h.1 ▸ List.mem_cons_self) ha
              | cons y b =>
                simp only [List.cons_append, List.cons.injEq] at h
                obtain ⟨e1, e2⟩ := iha b ps qs (fun m => ha (List.mem_cons_of_mem _ m)) (fun m => hb (List.mem_cons_of_mem _ m)) h.2
                exact ⟨by rw [h.1, e1], e2⟩
          obtain ⟨e1, e2⟩ := key a b ps qs (hp _ (by simp)) (hq _ (by simp)) h
          rw [e1, ih qs (fun x hx => hp x (by simp at hx ⊢; rcases hx with h | h <;> simp [h])) (fun x hx => hq x (by simp at hx ⊢; rcases hx with h | h <;> simp [h])) (by simpa using e2)]
  | cons x p ih =>
    intro q ps qs hp hq h
    cases q with
    | nil =>
      cases qs with
      | nil => simp [starred] at h
      | cons b qs =>
        simp only [starred, List.map_cons, List.flatten_cons, List.nil_append, List.cons_append, List.cons.injEq] at h
        exact absurd (h.1 ▸ List.mem_cons_self) (hp _ List.mem_cons_self)
    | cons y q =>
      simp only [List.cons_append, List.cons.injEq] at h
      obtain ⟨e1, e2⟩ := ih q ps qs (fun a ha => (List.mem_cons.mp ha).elim (fun e => fun m => hp _ List.mem_cons_self (by rw [e] at m; exact List.mem_cons_of_mem _ m)) fun ha => hp a (List.mem_cons_of_mem _ ha)) (fun a ha => (List.mem_cons.mp ha).elim (fun e => fun m => hq _ List.mem_cons_self (by rw [e] at m; exact List.mem_cons_of_mem _ m)) fun ha => hq a (List.mem_cons_of_mem _ ha)) h.2
      exact ⟨by rw [h.1, e1], e2⟩
theorem split_of {first : List Nat} {rest : List (List Nat)} (hf : ∀ p ∈ first :: rest, 42 ∉ p) : Txt.split (S (first ++ starred rest)) (S [42]) = (first :: rest).map S := by
  obtain ⟨p, r, e⟩ := split_ne (S (first ++ starred rest)) (S [42])
  have hj := StrLaws.join_split (S (first ++ starred rest)) (S [42])
  have hfr : ∀ q ∈ Txt.split (S (first ++ starred rest)) (S [42]), 42 ∉ q.cps.toList := StrLaws.split_free (S (first ++ starred rest)) 42
  rw [e] at hj hfr ⊢
  have h1 := congrArg (fun x : Str => x.cps.toList) hj
  simp only [join_toList] at h1
  have h2 : (r.map fun q => (S [42]).cps.toList ++ q.cps.toList).flatten = starred (r.map fun q => q.cps.toList) := by
    unfold starred
    rw [List.map_map]; rfl
  rw [h2] at h1
  have h3 : (S (first ++ starred rest)).cps.toList = first ++ starred rest := by simp [S]
  rw [h3] at h1
  obtain ⟨e1, e2⟩ := starred_uniq _ _ _ _ (fun a ha => by
    rcases List.mem_cons.mp ha with rfl | ha
    · exact hfr p List.mem_cons_self
    · obtain ⟨q, hq, rfl⟩ := List.mem_map.mp ha
      exact hfr q (List.mem_cons_of_mem _ hq)) hf h1
  have hS : ∀ q : Str, S q.cps.toList = q := fun q => by simp [S]
  rw [List.map_cons, ← e1, ← e2, hS, List.map_map]
  congr 1
  conv => lhs; rw [← List.map_id r]
  apply List.map_congr_left
  intro q _
  exact (hS q).symm

end
section
open PySem PySem.W PyProof.Rows PySem.Calls PySem.Builtin PySem.Builtin.Str
set_option Elab.async false
set_option maxRecDepth 100000
set_option linter.all false
theorem prepared_flatten : ∀ l : List (List Nat), prepared l.flatten = (l.map prepared).flatten
  | [] => rfl
  | x :: l => by rw [List.flatten_cons, prepared_append, prepared_flatten l]; rfl
theorem starred_append (a b : List (List Nat)) : starred (a ++ b) = starred a ++ starred b := by simp [starred]
theorem star_plain : ∀ q : List Nat, ((List.range q.length).map fun (j : Nat) => [42] ++ [q.getD j 0]).flatten = starred (q.map fun n => [n])
  | [] => rfl
  | x :: q => by
    rw [List.length_cons, List.range_succ_eq_map, List.map_cons, List.map_map, List.flatten_cons]
    have := star_plain q
    simp only [Function.comp_def, List.getD_cons_succ, List.getD_cons_zero]
    rw [this]
    rfl
theorem star_flat : ∀ (q : List Nat) (d : Nat), d < q.length → ((List.range q.length).map fun (j : Nat) => (if j = d then [42, 42] else [42]) ++ [q.getD j 0]).flatten = starred ((q.take d).map (fun n => [n]) ++ [[]] ++ (q.drop d).map fun n => [n])
  | [], d, h => by simp at h
  | x :: q, 0, _ => by
    rw [List.length_cons, List.range_succ_eq_map, List.map_cons, List.map_map, List.flatten_cons]
    have := star_plain q
    simp only [Function.comp_def, List.getD_cons_succ, List.getD_cons_zero, Nat.succ_ne_zero, if_false, if_true]
    rw [this]
    rfl
  | x :: q, d + 1, h => by
    rw [List.length_cons, List.range_succ_eq_map, List.map_cons, List.map_map, List.flatten_cons]
    have := star_flat q d (by simpa using h)
    simp only [Function.comp_def, List.getD_cons_succ, List.getD_cons_zero, Nat.succ_eq_add_one, Nat.add_right_cancel_iff]
    rw [this, if_neg (by omega)]
    rfl
noncomputable def dueTail (q : List Nat) (c3 : Int) (i : Nat) : List (List Nat) := (q.take (dblOf q c3)).map (fun n => [n]) ++ [[]] ++ (q.drop (dblOf q c3)).map (fun n => [n]) ++ (List.replicate (morOf c3 i).toNat [([] : List Nat)]).flatten
theorem due_is (hd q : List Nat) (c3 : Int) (i : Nat) : dueOf hd q c3 i = hd :: dueTail q c3 i := by simp [dueOf, dueTail]
theorem mor01 (c3 : Int) (i : Nat) : morOf c3 i = 0 ∨ morOf c3 i = 1 := by
  have h1 := Int.emod_nonneg (c3 / 144 / 2 ^ i) (b := 2) (by decide)
  have h2 := Int.emod_lt_of_pos (c3 / 144 / 2 ^ i) (b := 2) (by decide)
  unfold morOf
  omega
theorem dbl_lt {q : List Nat} (h : 0 < q.length) (c3 : Int) : dblOf q c3 < q.length ∧ c3 % (q.length : Int) = (dblOf q c3 : Int) := by
  have h1 := Int.emod_nonneg c3 (b := (q.length : Int)) (by omega)
  have h2 := Int.emod_lt_of_pos c3 (b := (q.length : Int)) (by omega)
  unfold dblOf
  omega
theorem path_prepared {hd q : List Nat} {c3 c4 c5 : Int} {i : Nat} (hq : 0 < q.length) (hqs : ∀ x ∈ q, x ∈ alL) (hh : prepared hd = hd) : prepared (pathText hd q c3 c4 c5 i) = hd ++ starred (dueTail q c3 i) := by
  obtain ⟨hd1, hd2⟩ := dbl_lt hq c3
  unfold pathText
  rw [prepared_append, prepared_append, hh, List.append_assoc, prepared_flatten]
  congr 1
  have e1 : (starOf (c3 % (q.length : Int)) (signsOf q c4 c5) q.length).map prepared = (List.range q.length).map fun (j : Nat) => (if j = dblOf q c3 then [42, 42] else [42]) ++ [q.getD j 0] := by
    unfold starOf
    rw [List.map_map]
    apply List.map_congr_left
    intro j hj
    have hj : j < q.length := List.mem_range.mp hj
    simp only [Function.comp_def]
    rw [prepared_append]
    have e2 : (signsOf q c4 c5).getD j [] = letter (q.getD j 0) ((c4 + (j : Int)) % 4) (c5 + (j : Int)) := by
      unfold signsOf
      rw [List.getD_eq_getElem?_getD, List.getElem?_map, List.getElem?_range hj]
      rfl
    have hx : q.getD j 0 ∈ q := by rw [List.getD_eq_getElem?_getD, List.getElem?_eq_getElem hj]; exact List.getElem_mem hj
    rw [e2, prep_letter (hqs _ hx), hd2]
    congr 1
    by_cases h : j = dblOf q c3
    · rw [if_pos h, if_pos (by simp [eqS_i, eqS_t, eqS_b, h])]; decide +kernel
    · rw [if_neg h, if_neg (by simp [eqS_i, eqS_t, eqS_b]; omega)]; decide +kernel
  rw [e1, star_flat q _ hd1]
  have key : ∀ A : List (List Nat), starred A ++ prepared (rep [42] (morOf c3 i)) = starred (A ++ (List.replicate (morOf c3 i).toNat [([] : List Nat)]).flatten) := fun A => by
    rw [starred_append]
    congr 1
    rcases mor01 c3 i with h | h <;> rw [h] <;> decide +kernel
  exact key _
theorem tail_mem {q : List Nat} {c3 : Int} {i : Nat} {p : List Nat} (h : p ∈ dueTail q c3 i) : p = [] ∨ ∃ n ∈ q, p = [n] := by
  simp only [dueTail, List.mem_append, List.mem_map, List.mem_cons, List.not_mem_nil, or_false, List.mem_flatten, List.mem_replicate] at h
  rcases h with ((⟨n, hn, rfl⟩ | rfl) | ⟨n, hn, rfl⟩) | ⟨l, ⟨_, rfl⟩, h⟩
  · exact .inr ⟨n, List.mem_of_mem_take hn, rfl⟩
  · exact .inl rfl
  · exact .inr ⟨n, List.mem_of_mem_drop hn, rfl⟩
  · exact .inl (List.mem_singleton.mp h)
theorem tail_len {q : List Nat} {c3 : Int} {i : Nat} (hq : 0 < q.length) : q.length + 1 ≤ (dueTail q c3 i).length ∧ (dueTail q c3 i).length ≤ q.length + 2 := by
  obtain ⟨hd1, _⟩ := dbl_lt hq c3
  unfold dueTail
  rcases mor01 c3 i with h | h <;> rw [h] <;> simp <;> omega

end
section
open PySem PySem.W PyProof.Rows PySem.Calls PySem.Builtin PySem.Builtin.Str
set_option Elab.async false
set_option maxRecDepth 100000
set_option linter.all false
/-! the plain law, third part: what is read of the translated text -/
theorem S_len (x : List Nat) : (S x).length = x.length := by simp [S, Str.length]
theorem S_list (x : List Nat) : (S x).cps.toList = x := by simp [S]
theorem at_iff (x y : List Nat) (i : Nat) : StrLaws.At (S x) (S y) (S x).length i ↔ i + y.length ≤ x.length ∧ (x.drop i).take y.length = y := by
  unfold StrLaws.At
  rw [StrLaws.subAt_eq, S_len, S_len, S_list, S_list, beq_iff_eq]
theorem at_head {x : List Nat} {c : Nat} {y : List Nat} {i : Nat} (h : StrLaws.At (S x) (S (c :: y)) (S x).length i) : x[i]? = some c := by
  obtain ⟨h1, h2⟩ := (at_iff x (c :: y) i).mp h
  have : ((x.drop i).take (c :: y).length)[0]? = some c := by rw [h2]; rfl
  rw [List.getElem?_take_of_lt (by simp)] at this
  simpa using this
theorem find_is {x y : List Nat} {i : Nat} (hA : StrLaws.At (S x) (S y) (S x).length i) (hn : ∀ k, k < i → ¬ StrLaws.At (S x) (S y) (S x).length k) : ∃ r, occurrences (S x) (S y) 0 (S x).length 1 = i :: r := by
  rcases StrLaws.occ_head (S x) (S y) 1 (Nat.le_refl _) with ⟨_, h⟩ | ⟨j, r, e, h1, h2⟩
  · exact absurd hA (h i)
  · have : j = i := by
      rcases Nat.lt_trichotomy j i with h | h | h
      · exact absurd h1 (hn j h)
      · exact h
      · exact absurd hA (h2 i h)
    exact ⟨r, by rw [e, this]⟩
noncomputable def trTail (mid : List (List Nat)) (last : List Nat) : List Nat := (mid.map grpOf).flatten ++ ([46, 42] ++ escS last)
theorem trTail_cons (p : List Nat) (mid : List (List Nat)) (last : List Nat) : trTail (p :: mid) last = sG6 ++ (escS p ++ (41 :: trTail mid last)) := by
  simp [trTail, grpOf]
theorem chain_shift {s sub : Str} {hi a b f : Nat} {cuts : List Nat} (h : StrLaws.ChainG s sub hi a cuts f) (hn : ∀ k, a ≤ k → k < b → ¬ StrLaws.At s sub hi k) (hab : a ≤ b) (hf : ∀ k, f ≤ k → ¬ StrLaws.At s sub hi k) :
    ∃ f', StrLaws.ChainG s sub hi b cuts f' ∧ ∀ k, f' ≤ k → ¬ StrLaws.At s sub hi k := by
  cases cuts with
  | nil =>
    have e : f = a := h
    exact ⟨b, rfl, fun k hk => hf k (by omega)⟩
  | cons c r =>
    obtain ⟨h1, h2, h3, h4⟩ := h
    have hcb : b ≤ c := Nat.le_of_not_lt fun h => hn c h1 h h2
    exact ⟨f, ⟨hcb, h2, fun k hk hk' => h3 k (Nat.le_trans hab hk) hk', h4⟩, hf⟩
theorem chain_count {x last : List Nat} : ∀ (mid : List (List Nat)) (a : Nat) (cuts : List Nat) (f : Nat), x.drop a = trTail mid last → (∀ p ∈ last :: mid, 40 ∉ escS p) → StrLaws.ChainG (S x) (S sG) (S x).length a cuts f → (∀ k, f ≤ k → ¬ StrLaws.At (S x) (S sG) (S x).length k) → cuts.length = mid.length := by
  intro mid
  induction mid with
  | nil =>
    intro a cuts f hx hp hc hf
    cases cuts with
    | nil => rfl
    | cons c r =>
      have h1 := at_head (c := 40) (y := [63, 62]) hc.2.1
      have h2 : (x.drop a)[c - a]? = some 40 := by rw [List.getElem?_drop, Nat.add_sub_cancel' hc.1]; exact h1
      rw [hx] at h2
      have h3 := List.mem_of_getElem? h2
      simp only [trTail, List.map_nil, List.flatten_nil, List.nil_append, List.mem_append, List.mem_cons, List.not_mem_nil, or_false] at h3
      rcases h3 with h3 | h3
      · omega
      · exact absurd h3 (hp last List.mem_cons_self)
  | cons p mid ih =>
    intro a cuts f hx hp hc hf
    rw [trTail_cons] at hx
    have hlen : a + 3 ≤ x.length := by
      have := congrArg List.length hx
      rw [List.length_drop] at this
      simp only [List.length_append, sG6, List.length_cons] at this
      omega
    have hA : StrLaws.At (S x) (S sG) (S x).length a := (at_iff x sG a).mpr ⟨hlen, by rw [hx]; rfl⟩
    cases cuts with
    | nil =>
      have e : f = a := hc
      exact absurd hA (hf a (by omega))
    | cons c r =>
      obtain ⟨h1, h2, h3, h4⟩ := hc
      have hca : c = a := by
        rcases Nat.lt_or_ge a c with h | h
        · exact absurd hA (h3 a (Nat.le_refl _) h)
        · omega
      subst hca
      have h4 : StrLaws.ChainG (S x) (S sG) (S x).length (c + 3) r f := h4
      have eL : sG6 ++ (escS p ++ (41 :: trTail mid last)) = (sG6 ++ escS p ++ [41]) ++ trTail mid last := by simp
      have hdrop : x.drop (c + 7 + (escS p).length) = trTail mid last := by
        have : x.drop (c + 7 + (escS p).length) = (x.drop c).drop (7 + (escS p).length) := by rw [List.drop_drop]; congr 1; omega
        rw [this, hx]
        rw [eL]
        exact List.drop_left' (by simp only [List.length_append, sG6, List.length_cons, List.length_nil]; omega)
      obtain ⟨f', g1, g2⟩ := chain_shift (b := c + 7 + (escS p).length) h4 (fun k hk hk' hA' => by
        have h5 := at_head (c := 40) (y := [63, 62]) hA'
        have h6 : (x.drop c)[k - c]? = some 40 := by rw [List.getElem?_drop, Nat.add_sub_cancel' (by omega)]; exact h5
        rw [hx, eL, List.getElem?_append_left (by simp only [List.length_append, sG6, List.length_cons, List.length_nil]; omega)] at h6
        have h7 : ([46, 42, 63] ++ escS p ++ [41])[k - c - 3]? = some 40 := by
          have e8 : [46, 42, 63] ++ escS p ++ [41] = (sG6 ++ escS p ++ [41]).drop 3 := by simp [sG6]
          rw [e8, List.getElem?_drop, show 3 + (k - c - 3) = k - c by omega]; exact h6
        have h8 := List.mem_of_getElem? h7
        simp only [List.mem_append, List.mem_cons, List.not_mem_nil, or_false] at h8
        rcases h8 with (h8 | h8) | h8
        · omega
        · exact hp p (by simp) h8
        · omega) (by omega) hf
      rw [List.length_cons, List.length_cons, ih _ _ _ hdrop (fun q hq => hp q (by simp at hq ⊢; rcases hq with h | h <;> simp [h])) g1 g2]
theorem count_is {x last : List Nat} {mid : List (List Nat)} (hx : x = trTail mid last) (hp : ∀ p ∈ last :: mid, 40 ∉ escS p) : Txt.count (S x) (S sG) = (mid.length : Int) := by
  obtain ⟨f, h1, h2⟩ := StrLaws.occ_tight (S x) (S sG) (by decide)
  have := chain_count (x := x) (last := last) mid 0 _ f (by rw [List.drop_zero, hx]) hp h1 h2
  unfold Txt.count
  rw [this]
theorem part_first {a b : List Nat} (ha : 41 ∉ a) : (Txt.partition (S (a ++ 41 :: b)) (S [41])).1.cps.toList = a := by
  have hA : StrLaws.At (S (a ++ 41 :: b)) (S [41]) (S (a ++ 41 :: b)).length a.length := (at_iff _ _ _).mpr ⟨by simp, by simp⟩
  obtain ⟨r, e⟩ := find_is hA fun k hk h => by
    have h1 := at_head h
    rw [List.getElem?_append_left hk] at h1
    exact ha (List.mem_of_getElem? h1)
  unfold Txt.partition
  rw [e]
  show (strSub (S (a ++ 41 :: b)) 0 a.length).cps.toList = a
  rw [StrLaws.strSub_toList, S_list]
  simp
theorem partRun_succ (t : List (List Nat) × List Nat) : ∀ k, partRun t (k + 1) = partRun (partStep t) k
  | 0 => rfl
  | k + 1 => by show partStep (partRun t (k + 1)) = partStep (partRun (partStep t) k); rw [partRun_succ t k]
theorem step_is (acc : List (List Nat)) (p : List Nat) (mid : List (List Nat)) (last : List Nat) (hp : 41 ∉ escS p) : partStep (acc, trTail (p :: mid) last) = (acc ++ [escS p], trTail mid last) := by
  have e0 : (trTail (p :: mid) last).take 6 = sG6 := by rw [trTail_cons]; rfl
  have e1 : (trTail (p :: mid) last).drop 6 = escS p ++ 41 :: trTail mid last := by rw [trTail_cons]; rfl
  have e2 : pieceOf (trTail (p :: mid) last) = escS p := by unfold pieceOf; rw [e1]; exact part_first hp
  unfold partStep
  rw [if_pos e0, e2]
  congr 1
  rw [trTail_cons, show sG6 ++ (escS p ++ (41 :: trTail mid last)) = (sG6 ++ escS p ++ [41]) ++ trTail mid last by simp]
  exact List.drop_left' (by simp only [List.length_append, sG6, List.length_cons, List.length_nil]; omega)
theorem run_is : ∀ (mid : List (List Nat)) (acc : List (List Nat)) (last : List Nat), (∀ p ∈ mid, 41 ∉ escS p) → partRun (acc, trTail mid last) mid.length = (acc ++ mid.map escS, [46, 42] ++ escS last)
  | [], acc, last, _ => by simp [partRun, trTail]
  | p :: mid, acc, last, h => by
    rw [List.length_cons, partRun_succ, step_is _ _ _ _ (h p List.mem_cons_self), run_is mid _ last fun q hq => h q (List.mem_cons_of_mem _ hq)]
    simp
theorem told_is {first last : List Nat} {mid : List (List Nat)} (h : ∀ p ∈ mid, 41 ∉ escS p) : partsEnd (partRun ([escS first], trTail mid last) mid.length) = (first :: (mid ++ [last])).map escS := by
  rw [run_is _ _ _ h]
  simp [partsEnd]

end
section
open PySem PySem.W PyProof.Rows PySem.Calls PySem.Builtin PySem.Builtin.Str
set_option Elab.async false
set_option maxRecDepth 100000
set_option linter.all false
/-! the plain law, fourth part: what the loop's turn needs -/
theorem esc_fin : ∀ x ∈ alL ++ headL, escS [x] = escD [x] ∧ cut (escD [x]) (some (-1)) none = [x] ∧ x < 128 ∧ x ≠ 42 ∧ (escS [x]).length ≤ 2 := by decide +kernel
theorem esc_al : ∀ x ∈ alL, 40 ∉ escS [x] ∧ 41 ∉ escS [x] := by decide +kernel
theorem esc_nil : escS [] = escD [] ∧ cut (escD []) (some (-1)) none = [] := by decide +kernel
theorem head_find (h : Nat) (hh : h ∈ headL) (R : List Nat) : ∀ k, k < (escS [h]).length → ((escS [h] ++ 40 :: 63 :: 62 :: R).drop k).take 3 ≠ sG := by
  have key : ∀ h ∈ headL, ∀ k, k < (escS [h]).length → ((escS [h] ++ [40, 63, 62]).drop k).take 3 ≠ sG := by decide +kernel
  intro k hk
  have := key h hh k hk
  have e : escS [h] ++ 40 :: 63 :: 62 :: R = (escS [h] ++ [40, 63, 62]) ++ R := by simp
  have hl : (escS [h]).length ≤ 2 := (esc_fin h (by simp [hh])).2.2.2.2
  rw [e, List.drop_append_of_le_length (by simp only [List.length_append, List.length_cons, List.length_nil]; omega), List.take_append_of_le_length (by simp only [List.length_drop, List.length_append, List.length_cons, List.length_nil]; omega)]
  exact this
theorem starred_len : ∀ l : List (List Nat), (∀ p ∈ l, p.length ≤ 1) → (starred l).length ≤ 2 * l.length
  | [], _ => by simp [starred]
  | p :: l, h => by
    have h1 := h p List.mem_cons_self
    have h2 := starred_len l fun q hq => h q (List.mem_cons_of_mem _ hq)
    have e : starred (p :: l) = ([42] ++ p) ++ starred l := by simp [starred]
    rw [e, List.length_append, List.length_append, List.length_cons, List.length_cons, List.length_nil]; omega
theorem grp_len : ∀ l : List (List Nat), (∀ p ∈ l, (escS p).length ≤ 2) → ((l.map grpOf).flatten).length ≤ 9 * l.length
  | [], _ => by simp
  | p :: l, h => by
    have h1 := h p List.mem_cons_self
    have h2 := grp_len l fun q hq => h q (List.mem_cons_of_mem _ hq)
    have h3 : (grpOf p).length = 7 + (escS p).length := by simp [grpOf, sG6]; omega
    rw [List.map_cons, List.flatten_cons, List.length_append, List.length_cons]; omega
theorem pathP {hd q : List Nat} {c3 c4 c5 : Int} {i : Nat} (hh : ∃ h ∈ headL, hd = [h]) (hq : 0 < q.length) (hq2 : q.length ≤ 20) (hqs : ∀ x ∈ q, x ∈ alL) : PathP hd q c3 c4 c5 i := by
  obtain ⟨h, hh, rfl⟩ := hh
  have hf := esc_fin h (by simp [hh])
  have htl := tail_len (q := q) (c3 := c3) (i := i) hq
  have htm : ∀ p ∈ dueTail q c3 i, p.length ≤ 1 ∧ (∀ x ∈ p, x < 128) ∧ 42 ∉ p ∧ escS p = escD p ∧ cut (escD p) (some (-1)) none = p ∧ (escS p).length ≤ 2 ∧ 40 ∉ escS p ∧ 41 ∉ escS p := fun p hp => by
    rcases tail_mem hp with rfl | ⟨n, hn, rfl⟩
    · exact ⟨by simp, by simp, by simp, esc_nil.1, esc_nil.2, by decide +kernel, by decide +kernel, by decide +kernel⟩
    · have hn := hqs n hn
      have h1 := esc_fin n (by simp [hn])
      have h2 := esc_al n hn
      exact ⟨by simp, by simpa using h1.2.2.1, by simpa using Ne.symm h1.2.2.2.1, h1.1, h1.2.1, h1.2.2.2.2, h2.1, h2.2⟩
  obtain ⟨mid, last, hml⟩ : ∃ mid last, dueTail q c3 i = mid ++ [last] := by
    have hne : dueTail q c3 i ≠ [] := fun h => by rw [h] at htl; simp at htl
    exact ⟨(dueTail q c3 i).dropLast, (dueTail q c3 i).getLast hne, (List.dropLast_concat_getLast hne).symm⟩
  have hdue : dueOf [h] q c3 i = [h] :: (mid ++ [last]) := by rw [due_is, hml]
  have hmid : mid.length + 1 = (dueTail q c3 i).length := by rw [hml]; simp
  have hprep : prepared (pathText [h] q c3 c4 c5 i) = [h] ++ starred (dueTail q c3 i) := path_prepared hq hqs (prep_self h (by simp [hh]))
  have hm : ∀ p ∈ mid, p ∈ dueTail q c3 i := fun p hp => by rw [hml]; simp [hp]
  have hl : last ∈ dueTail q c3 i := by rw [hml]; simp
  have hst := starred_len (dueTail q c3 i) fun p hp => (htm p hp).1
  have hesc : ∀ p ∈ dueOf [h] q c3 i, escS p = escD p := fun p hp => by
    rw [due_is] at hp
    rcases List.mem_cons.mp hp with rfl | hp
    · exact hf.1
    · exact (htm p hp).2.2.2.1
  refine ⟨⟨hq, by omega⟩, fun x hx => al_range x (hqs x hx), fun x hx => ?_, ⟨[h], mid, last, (escS [h]).length, mid.length, ?_, ?_, ?_, ?_, ?_, ?_, ?_⟩, fun p hp => ?_, ?_⟩
  · obtain ⟨j, _, rfl⟩ := List.mem_map.mp hx
    exact letter_length _ _ _
  · rw [hprep, ← hml]
    exact split_of fun p hp => by
      rcases List.mem_cons.mp hp with rfl | hp
      · simpa using Ne.symm hf.2.2.2.1
      · exact (htm p hp).2.2.1
  · rw [← hml]
    intro p hp
    rcases List.mem_cons.mp hp with rfl | hp
    · exact ⟨by simp, by simpa using hf.2.2.1⟩
    · exact ⟨(htm p hp).1, (htm p hp).2.1⟩
  · rw [hprep, List.length_append]
    simp only [List.length_cons, List.length_nil]
    omega
  · show Txt.find (S (escS [h] ++ trTail mid last)) (S sG) = _
    obtain ⟨p, ms, rfl⟩ : ∃ p ms, mid = p :: ms := by
      cases mid with
      | nil => simp at hmid; omega
      | cons p ms => exact ⟨p, ms, rfl⟩
    have e3 : escS [h] ++ trTail (p :: ms) last = escS [h] ++ 40 :: 63 :: 62 :: ([46, 42, 63] ++ (escS p ++ 41 :: trTail ms last)) := by rw [trTail_cons]; rfl
    rw [e3]
    obtain ⟨r, e⟩ := find_is (x := escS [h] ++ 40 :: 63 :: 62 :: ([46, 42, 63] ++ (escS p ++ 41 :: trTail ms last))) (y := sG) (i := (escS [h]).length) ((at_iff _ _ _).mpr ⟨by simp [sG], by rw [List.drop_left]; rfl⟩) fun k hk hA => by
      have := ((at_iff _ _ _).mp hA).2
      exact head_find h hh _ k hk this
    unfold Txt.find
    rw [e]
  · show Txt.count (S ((escS [h] ++ trTail mid last).drop _)) (S sG) = _
    rw [List.drop_left]
    refine count_is rfl fun p hp => ?_
    rcases List.mem_cons.mp hp with rfl | hp
    · exact (htm _ hl).2.2.2.2.2.2.1
    · exact (htm p (hm p hp)).2.2.2.2.2.2.1
  · have h1 := grp_len mid fun p hp => (htm p (hm p hp)).2.2.2.2.2.1
    have h2 := (htm _ hl).2.2.2.2.2.1
    have h3 := hf.2.2.2.2
    refine ⟨?_, by omega⟩
    show (escS [h] ++ ((mid.map grpOf).flatten ++ ([46, 42] ++ escS last))).length ≤ 1000
    simp only [List.length_append, List.length_cons, List.length_nil]
    omega
  · show partsEnd (partRun ([(escS [h] ++ trTail mid last).take _], (escS [h] ++ trTail mid last).drop _) _) = _
    rw [List.drop_left, List.take_left, told_is fun p hp => (htm p (hm p hp)).2.2.2.2.2.2.2, ← hdue]
    exact List.map_congr_left hesc
  · rw [due_is] at hp
    rcases List.mem_cons.mp hp with rfl | hp
    · exact hf.2.1
    · exact (htm p hp).2.2.2.2.1
  · refine ⟨[h], mid, last, hdue, by simp, ?_, by omega, fun p hp => ?_⟩
    · have := (htm _ hl).1; omega
    · have := (htm p (hm p hp)).1; omega

end
section
open PySem PySem.W PyProof.Rows PySem.Calls
set_option Elab.async false
set_option maxRecDepth 100000
set_option linter.all false
/-! the plain law, fifth part: the paths tell the names apart -/
theorem rep_one (b : Nat) (k : Nat) : rep [b] (k : Int) = List.replicate k b := by
  unfold rep
  rw [Int.toNat_natCast]
  induction k with
  | zero => rfl
  | succ k ih => rw [List.replicate_succ, List.flatten_cons, ih, List.replicate_succ]; rfl
theorem rep_one' (b : Nat) (k : Nat) : rep [b] ((k : Int) + 1) = List.replicate (k + 1) b := by
  rw [show ((k : Int) + 1) = ((k + 1 : Nat) : Int) by omega]; exact rep_one b (k + 1)
/-- the first place at which two words part -/
theorem parting {o t : List Nat} (hlen : o.length = t.length) (hne : o ≠ t) : ∃ p b a r r', pathPlace o t = p ∧ a ≠ b ∧ o.take p = t.take p ∧ o.drop p = b :: r ∧ t.drop p = a :: r' := by
  have hfirst : ∀ (o t : List Nat), o.length = t.length → o ≠ t → ∃ p b a r r', a ≠ b ∧ o.take p = t.take p ∧ o.drop p = b :: r ∧ t.drop p = a :: r' := by
    intro o
    induction o with
    | nil => intro t h1 h2; cases t with | nil => exact absurd rfl h2 | cons _ _ => simp at h1
    | cons x o ih =>
      intro t h1 h2
      cases t with
      | nil => simp at h1
      | cons y t =>
        by_cases hxy : x = y
        · subst hxy
          obtain ⟨p, b, a, r, r', g1, g2, g3, g4⟩ := ih t (by simpa using h1) (fun h => h2 (by rw [h]))
          exact ⟨p + 1, b, a, r, r', g1, by simp [g2], by simpa using g3, by simpa using g4⟩
        · exact ⟨0, x, y, o, t, Ne.symm hxy, rfl, rfl, rfl⟩
  obtain ⟨p, b, a, r, r', g1, g2, g3, g4⟩ := hfirst o t hlen hne
  refine ⟨p, b, a, r, r', ?_, g1, g2, g3, g4⟩
  have hp : p < o.length := by
    have := congrArg List.length g3
    rw [List.length_drop, List.length_cons] at this; omega
  unfold pathPlace
  have e1 : (((List.range (o.length - 1)).map fun (i : Nat) => 1 + i).filter fun (s : Nat) => cut o none (some (s : Int)) == cut t none (some (s : Int))) = ((List.range (o.length - 1)).map fun (i : Nat) => 1 + i).filter fun s => decide (s ≤ p) := by
    apply List.filter_congr
    intro s hs
    obtain ⟨i, hi, rfl⟩ := List.mem_map.mp hs
    have hi := List.mem_range.mp hi
    have c1 : cut o none (some ((1 + i : Nat) : Int)) = o.take (1 + i) := cut_to o (1 + i)
    have c2 : cut t none (some ((1 + i : Nat) : Int)) = t.take (1 + i) := cut_to t (1 + i)
    rw [c1, c2, Bool.eq_iff_iff, beq_iff_eq, decide_eq_true_eq]
    constructor
    · intro h
      refine Nat.le_of_not_lt fun hlt => g1 ?_
      have h1 : o[p]? = some b := by have : (o.drop p)[0]? = some b := by rw [g3]; rfl
                                     simpa using this
      have h2 : t[p]? = some a := by have : (t.drop p)[0]? = some a := by rw [g4]; rfl
                                     simpa using this
      have h3 : (o.take (1 + i))[p]? = (t.take (1 + i))[p]? := by rw [h]
      rw [List.getElem?_take_of_lt hlt, List.getElem?_take_of_lt hlt, h1, h2] at h3
      exact (Option.some.inj h3).symm
    · intro h
      have := congrArg (List.take (1 + i)) g2
      rw [List.take_take, List.take_take, Nat.min_eq_left h] at this
      exact this
  rw [e1]
  have e2 : ∀ m, p ≤ m → (((List.range m).map fun (i : Nat) => 1 + i).filter fun s => decide (s ≤ p)).length = p := by
    intro m
    induction m with
    | zero => intro h; simp; omega
    | succ m ih =>
      intro h
      rw [List.range_succ, List.map_append, List.filter_append, List.length_append]
      by_cases hm : p ≤ m
      · rw [ih hm]
        simp only [List.map_cons, List.map_nil]
        rw [List.filter_cons_of_neg (by simp; omega)]
        rfl
      · have hpm : p = m + 1 := by omega
        have : ((List.range m).map fun (i : Nat) => 1 + i).filter (fun s => decide (s ≤ p)) = (List.range m).map fun (i : Nat) => 1 + i := by
          apply List.filter_eq_self.mpr
          intro s hs
          obtain ⟨i, hi, rfl⟩ := List.mem_map.mp hs
          have := List.mem_range.mp hi
          exact decide_eq_true (by omega)
        rw [this]
        simp only [List.map_cons, List.map_nil]
        rw [List.filter_cons_of_pos (by simp; omega)]
        simp; omega
  exact e2 _ (by omega)
theorem rep_sub {l : List Nat} {a n : Nat} : (List.replicate n a).Sublist l ↔ n ≤ l.count a := List.replicate_sublist_iff
/-- a word over two signs -/
theorem count_two {l : List Nat} {a b : Nat} (hab : a ≠ b) (h : ∀ x ∈ l, x = a ∨ x = b) : l.count a + l.count b = l.length := by
  induction l with
  | nil => rfl
  | cons x l ih =>
    have ih := ih fun y hy => h y (List.mem_cons_of_mem _ hy)
    rcases h x List.mem_cons_self with rfl | rfl
    · rw [List.count_cons_self, List.count_cons_of_ne hab, List.length_cons]; omega
    · rw [List.count_cons_self, List.count_cons_of_ne (Ne.symm hab), List.length_cons]; omega
/-- k + 1 times b and then m times a is not in a word that has k times b ahead of an a and m times a from there on -/
theorem not_sub {u r : List Nat} {a b : Nat} (hab : a ≠ b) : ¬ (List.replicate (u.count b + 1) b ++ List.replicate ((a :: r).count a) a).Sublist (u ++ a :: r) := by
  intro h
  obtain ⟨X1, X2, e, h1, h2⟩ := List.append_sublist_iff.mp h
  have h1 := rep_sub.mp h1
  have h2 := rep_sub.mp h2
  rw [List.count_cons_self] at h2
  have e' : (u ++ [a]) ++ r = X1 ++ X2 := by rw [← e]; simp
  rcases List.append_eq_append_iff.mp e' with ⟨y, h3, h4⟩ | ⟨y, h3, h4⟩
  · have := congrArg (List.count a) h4
    rw [List.count_append] at this; omega
  · have := congrArg (List.count b) h3
    rw [List.count_append, List.count_append, List.count_cons_of_ne hab, List.count_nil] at this; omega
theorem is_sub {u r : List Nat} {a b : Nat} (hab : a ≠ b) : (List.replicate (u.count b + 1) b ++ List.replicate ((b :: r).count a) a).Sublist (u ++ b :: r) := by
  have e : List.replicate (u.count b + 1) b ++ List.replicate ((b :: r).count a) a = List.replicate (u.count b) b ++ (b :: List.replicate (r.count a) a) := by
    rw [List.count_cons_of_ne (Ne.symm hab), List.replicate_succ', List.append_assoc]; rfl
  rw [e]
  exact List.Sublist.append (rep_sub.mpr (Nat.le_refl _)) (List.Sublist.cons_cons b (rep_sub.mpr (Nat.le_refl _)))

end
section
open PySem PySem.W PyProof.Rows PySem.Calls
set_option Elab.async false
set_option maxRecDepth 100000
set_option linter.all false
structure PathsOk (o t q0 q1 : List Nat) : Prop where
  p0 : 0 < q0.length
  p1 : 0 < q1.length
  z0 : q0.length ≤ o.length + 1
  z1 : q1.length ≤ o.length + 1
  m0 : ∀ z ∈ q0, z ∈ o ∨ z ∈ t
  m1 : ∀ z ∈ q1, z ∈ o ∨ z ∈ t
  s0 : q0.Sublist o
  n1 : ¬ q1.Sublist o
  ne : o ≠ t → q1.Sublist t ∧ ¬ q0.Sublist t ∧ q0.length + q1.length ≤ o.length + 2
  eq : o = t → q0.length = o.length ∧ q1.length = o.length + 1
theorem paths_ok {o t : List Nat} (hlen : o.length = t.length) (h0 : 0 < o.length) {x y : Nat} (ho : ∀ z ∈ o, z = x ∨ z = y) (ht : ∀ z ∈ t, z = x ∨ z = y) : ∃ q0 q1, pathsOf o t = [q0, q1] ∧ PathsOk o t q0 q1 := by
  by_cases hot : o = t
  · subst hot
    refine ⟨o, o ++ [o.getD 0 0], by unfold pathsOf; rw [if_pos rfl], h0, by simp, by omega, by simp, fun z hz => .inl hz, fun z hz => ?_, List.Sublist.refl _, fun h => ?_, fun h => absurd rfl h, fun _ => ⟨rfl, by simp⟩⟩
    · rcases List.mem_append.mp hz with hz | hz
      · exact .inl hz
      · rw [List.mem_singleton.mp hz, List.getD_eq_getElem?_getD, List.getElem?_eq_getElem h0]
        exact .inl (List.getElem_mem h0)
    · have := h.length_le
      rw [List.length_append, List.length_cons, List.length_nil] at this; omega
  · obtain ⟨p, b, a, r, r', hp, hab, htk, hdo, hdt⟩ := parting hlen hot
    have eo : o = o.take p ++ b :: r := by rw [← hdo, List.take_append_drop]
    have et : t = o.take p ++ a :: r' := by rw [htk, ← hdt, List.take_append_drop]
    have hpl : p < o.length := by
      have := congrArg List.length hdo
      rw [List.length_drop, List.length_cons] at this; omega
    have hb : o.getD p 0 = b := by
      have : (o.drop p)[0]? = some b := by rw [hdo]; rfl
      rw [List.getElem?_drop, Nat.add_zero] at this
      rw [List.getD_eq_getElem?_getD, this]; rfl
    have ha : t.getD p 0 = a := by
      have : (t.drop p)[0]? = some a := by rw [hdt]; rfl
      rw [List.getElem?_drop, Nat.add_zero] at this
      rw [List.getD_eq_getElem?_getD, this]; rfl
    have mb : b ∈ o := by rw [eo]; simp
    have ma : a ∈ t := by rw [et]; simp
    have two : ∀ z, z = x ∨ z = y → z = a ∨ z = b := fun z hz => by
      have h1 := ho b mb
      have h2 := ht a ma
      rcases hz with rfl | rfl <;> rcases h1 with rfl | rfl <;> rcases h2 with rfl | rfl <;> first | exact .inl rfl | exact .inr rfl | exact absurd rfl hab
    have co := count_two hab fun z hz => two z (ho z hz)
    have ct := count_two hab fun z hz => two z (ht z hz)
    have cu := count_two (l := o.take p) hab fun z hz => two z (ho z (List.mem_of_mem_take hz))
    have memr : ∀ (k : Nat) (c z : Nat), z ∈ List.replicate k c → c = a ∨ c = b → z ∈ o ∨ z ∈ t := fun k c z hz hc => by
      rw [(List.mem_replicate.mp hz).2]
      rcases hc with rfl | rfl
      · exact .inr ma
      · exact .inl mb
    unfold pathsOf
    rw [if_neg hot]
    simp only [hp, hb, ha]
    by_cases hc : o.count a = t.count a
    · rw [if_pos hc]
      rw [rep_one', rep_one, rep_one', rep_one, hdo]
      generalize hu : o.take p = u at *
      have c1 : o.count a = u.count a + (b :: r).count a := by rw [eo, List.count_append]
      have c2 : o.count b = u.count b + (b :: r).count b := by rw [eo, List.count_append]
      have c3 : t.count a = u.count a + (a :: r').count a := by rw [et, List.count_append]
      have c4 : t.count b = u.count b + (a :: r').count b := by rw [et, List.count_append]
      have e1 : (b :: r).count a = (a :: r').count a := by omega
      have e2 : (b :: r).count b = (a :: r').count b := by omega
      have cd : (b :: r).count a + (b :: r).count b = o.length - u.length := by omega
      refine ⟨_, _, rfl, by simp only [List.length_append, List.length_replicate]; omega, by simp only [List.length_append, List.length_replicate]; omega, ?_, ?_, ?_, ?_, ?_, ?_, fun _ => ⟨?_, ?_, ?_⟩, fun h => absurd h hot⟩
      · simp only [List.length_append, List.length_replicate]; omega
      · simp only [List.length_append, List.length_replicate]; omega
      · intro z hz
        rcases List.mem_append.mp hz with hz | hz
        · exact memr _ _ _ hz (.inr rfl)
        · exact memr _ _ _ hz (.inl rfl)
      · intro z hz
        rcases List.mem_append.mp hz with hz | hz
        · exact memr _ _ _ hz (.inl rfl)
        · exact memr _ _ _ hz (.inr rfl)
      · rw [eo]; exact is_sub hab
      · rw [eo]; exact not_sub (Ne.symm hab)
      · rw [et, e2]; exact is_sub (Ne.symm hab)
      · rw [et, e1]; exact not_sub hab
      · simp only [List.length_append, List.length_replicate]; omega
    · rw [if_neg hc]
      by_cases hg : o.count a > t.count a
      · rw [if_pos hg, rep_one', rep_one']
        refine ⟨_, _, rfl, by simp, by simp, by simp only [List.length_replicate]; omega, by simp only [List.length_replicate]; omega, fun z hz => memr _ _ _ hz (.inl rfl), fun z hz => memr _ _ _ hz (.inr rfl), rep_sub.mpr (by omega), fun h => ?_, fun _ => ⟨rep_sub.mpr (by omega), fun h => ?_, by simp only [List.length_replicate]; omega⟩, fun h => absurd h hot⟩
        · have := rep_sub.mp h; omega
        · have := rep_sub.mp h; omega
      · rw [if_neg hg, rep_one', rep_one']
        refine ⟨_, _, rfl, by simp, by simp, by simp only [List.length_replicate]; omega, by simp only [List.length_replicate]; omega, fun z hz => memr _ _ _ hz (.inr rfl), fun z hz => memr _ _ _ hz (.inl rfl), rep_sub.mpr (by omega), fun h => ?_, fun _ => ⟨rep_sub.mpr (by omega), fun h => ?_, by simp only [List.length_replicate]; omega⟩, fun h => absurd h hot⟩
        · have := rep_sub.mp h; omega
        · have := rep_sub.mp h; omega

end
section
open PySem PySem.W PyProof.Rows PySem.Calls
set_option Elab.async false
set_option maxRecDepth 100000
set_option linter.all false
/-! the plain law, sixth part: where a path's taking ends -/
theorem occ_step {nm part : List Nat} {lo : Nat} (h : lo ≤ nm.length) : occOf nm part lo = (if (nm.drop lo).take part.length = part then [lo] else []) ++ occOf nm part (lo + 1) := by
  unfold occOf
  rw [show nm.length + 1 - lo = (nm.length - lo) + 1 by omega, List.range_succ_eq_map, List.map_cons, List.map_map, List.filter_cons]
  have c1 : (cut nm (some ((lo + 0 : Nat) : Int)) (some (((lo + 0 : Nat) : Int) + part.length)) == part) = decide ((nm.drop lo).take part.length = part) := by
    rw [Nat.add_zero, cut_mid, Bool.eq_iff_iff, beq_iff_eq, decide_eq_true_eq]
  rw [c1]
  have e : ((List.range (nm.length - lo)).map ((fun x => lo + x) ∘ Nat.succ)) = (List.range (nm.length + 1 - (lo + 1))).map (lo + 1 + ·) := by
    rw [show nm.length + 1 - (lo + 1) = nm.length - lo by omega]
    apply List.map_congr_left
    intro j _
    simp only [Function.comp_def]; omega
  rw [e]
  by_cases hd : (nm.drop lo).take part.length = part
  · simp [hd]
  · simp [hd]
theorem occ_end {nm part : List Nat} {lo : Nat} (h : nm.length < lo) : occOf nm part lo = [] := by
  unfold occOf
  rw [show nm.length + 1 - lo = 0 by omega]; rfl
theorem occ_nil {nm : List Nat} {lo : Nat} (h : lo ≤ nm.length) : occOf nm [] lo = lo :: occOf nm [] (lo + 1) := by
  rw [occ_step h]; simp
theorem occ_nil_last {nm : List Nat} : ∀ (m lo : Nat), nm.length = lo + m → (occOf nm [] lo).getLast? = some nm.length
  | 0, lo, h => by rw [occ_nil (by omega), occ_end (by omega)]; simp; omega
  | m + 1, lo, h => by
    have ih := occ_nil_last (nm := nm) m (lo + 1) (by omega)
    rw [occ_nil (by omega)]
    cases hl : occOf nm [] (lo + 1) with
    | nil => rw [hl] at ih; simp at ih
    | cons a l => rw [hl] at ih; rw [List.getLast?_cons_cons]; exact ih
theorem occ_one {nm : List Nat} {x : Nat} : ∀ (m lo : Nat), nm.length = lo + m → (occOf nm [x] lo = [] ∧ x ∉ nm.drop lo) ∨ ∃ s r pre, occOf nm [x] lo = s :: r ∧ nm.drop lo = pre ++ x :: nm.drop (s + 1) ∧ x ∉ pre ∧ lo ≤ s ∧ s < nm.length ∧ ∀ e ∈ r, s ≤ e
  | 0, lo, h => by
    left
    have e : nm.drop lo = [] := List.drop_eq_nil_of_le (by omega)
    rw [occ_step (by omega), occ_end (by omega), e]
    simp
  | m + 1, lo, h => by
    have ih := occ_one (nm := nm) (x := x) m (lo + 1) (by omega)
    have hlt : lo < nm.length := by omega
    have ed : nm.drop lo = nm[lo] :: nm.drop (lo + 1) := List.drop_eq_getElem_cons hlt
    rw [occ_step (by omega)]
    by_cases hx : nm[lo] = x
    · right
      have ht : (nm.drop lo).take ([x] : List Nat).length = [x] := by rw [ed, hx]; rfl
      rw [if_pos ht]
      refine ⟨lo, occOf nm [x] (lo + 1), [], rfl, by rw [ed, hx]; rfl, by simp, Nat.le_refl _, hlt, fun e he => ?_⟩
      unfold occOf at he
      obtain ⟨i, _, rfl⟩ := List.mem_map.mp (List.mem_filter.mp he).1
      omega
    · have ht : ¬ (nm.drop lo).take ([x] : List Nat).length = [x] := by
        intro e
        rw [ed] at e
        exact hx (List.cons.inj e).1
      rw [if_neg ht, List.nil_append]
      rcases ih with ⟨h1, h2⟩ | ⟨s, r, pre, h1, h2, h3, h4, h5, h6⟩
      · exact .inl ⟨h1, fun m => by rw [ed] at m; rcases List.mem_cons.mp m with m | m; exact hx m.symm; exact h2 m⟩
      · exact .inr ⟨s, r, nm[lo] :: pre, h1, by rw [ed, h2]; rfl, by simp [Ne.symm hx, h3], by omega, h5, h6⟩
theorem sub_first {x : Nat} {q R : List Nat} : ∀ {pre : List Nat}, x ∉ pre → ((x :: q).Sublist (pre ++ x :: R) ↔ q.Sublist R)
  | [], _ => by simp
  | y :: pre, h => by
    have hy : x ≠ y := fun e => h (by simp [e])
    have ih := sub_first (q := q) (R := R) (pre := pre) fun m => h (List.mem_cons_of_mem _ m)
    rw [List.cons_append, ← ih]
    constructor
    · intro hs
      cases hs with
      | cons _ hs => exact hs
      | cons_cons _ _ => exact absurd rfl hy
    · exact fun hs => List.Sublist.cons _ hs
theorem end_mid {nm : List Nat} : ∀ (mid : List (List Nat)) (lo : Nat), (∀ p ∈ mid, p = [] ∨ ∃ n, p = [n]) → lo ≤ nm.length →
    match endMid nm mid lo with
    | none => ∀ q, ¬ (mid.flatten ++ q).Sublist (nm.drop lo)
    | some lo' => lo' ≤ nm.length ∧ lo ≤ lo' ∧ ∀ q, (mid.flatten ++ q).Sublist (nm.drop lo) ↔ q.Sublist (nm.drop lo')
  | [], lo, _, h => ⟨h, Nat.le_refl _, fun q => Iff.rfl⟩
  | p :: mid, lo, hp, h => by
    rcases hp p List.mem_cons_self with rfl | ⟨x, rfl⟩
    · have ih := end_mid mid lo (fun q hq => hp q (List.mem_cons_of_mem _ hq)) h
      show match (match occOf nm [] lo with | [] => none | s :: _ => endMid nm mid (s + ([] : List Nat).length)) with | none => _ | some lo' => _
      rw [occ_nil h]
      exact ih
    · show match (match occOf nm [x] lo with | [] => none | s :: _ => endMid nm mid (s + ([x] : List Nat).length)) with | none => _ | some lo' => _
      rcases occ_one (nm := nm) (x := x) (nm.length - lo) lo (by omega) with ⟨h1, h2⟩ | ⟨s, r, pre, h1, h2, h3, h4, h5, h6⟩
      · rw [h1]
        intro q hq
        exact h2 (hq.subset (by simp))
      · rw [h1]
        have ih := end_mid (nm := nm) mid (s + 1) (fun q hq => hp q (List.mem_cons_of_mem _ hq)) h5
        show match endMid nm mid (s + 1) with | none => _ | some lo' => _
        revert ih
        cases endMid nm mid (s + 1) with
        | none =>
          intro ih q hq
          refine ih q ?_
          rw [h2] at hq
          exact (sub_first h3).mp hq
        | some lo' =>
          rintro ⟨g1, g2, g3⟩
          refine ⟨g1, by omega, fun q => ?_⟩
          rw [← g3 q, h2]
          exact sub_first h3
theorem end_val {h : Nat} {w : List Nat} {mid : List (List Nat)} {last : List Nat} (hm : ∀ p ∈ mid, p = [] ∨ ∃ n, p = [n]) (hl : last = [] ∨ ∃ n, last = [n]) :
    ((mid.flatten ++ last).Sublist w → 1 < lawEnd [h] mid last ([h] ++ w)) ∧ (¬ (mid.flatten ++ last).Sublist w → lawEnd [h] mid last ([h] ++ w) = 0) := by
  have e1 : (cut ([h] ++ w) none (some (([h] : List Nat).length : Int)) == [h]) = true := by
    rw [cut_to]; simp
  unfold lawEnd
  rw [if_pos e1]
  have key := end_mid (nm := [h] ++ w) mid 1 hm (by simp)
  show (_ → 1 < (match endMid ([h] ++ w) mid 1 with | none => (0 : Int) | some lo => _)) ∧ (_ → (match endMid ([h] ++ w) mid 1 with | none => (0 : Int) | some lo => _) = 0)
  have ew : ([h] ++ w).drop 1 = w := rfl
  revert key
  cases endMid ([h] ++ w) mid 1 with
  | none =>
    intro key
    rw [ew] at key
    exact ⟨fun hs => absurd hs (key last), fun _ => rfl⟩
  | some lo =>
    rintro ⟨g1, g2, g3⟩
    rw [ew] at g3
    rw [g3 last]
    rcases hl with rfl | ⟨x, rfl⟩
    · have e2 := occ_nil_last (nm := [h] ++ w) (([h] ++ w).length - lo) lo (by omega)
      dsimp only
      rw [e2]
      refine ⟨fun _ => ?_, fun hn => absurd (List.nil_sublist _) hn⟩
      simp only [List.length_append, List.length_cons, List.length_nil]; omega
    · dsimp only
      rcases occ_one (nm := [h] ++ w) (x := x) (([h] ++ w).length - lo) lo (by omega) with ⟨h1, h2⟩ | ⟨s, r, pre, h1, h2, h3, h4, h5, h6⟩
      · rw [h1]
        exact ⟨fun hs => absurd (hs.subset (by simp)) h2, fun _ => rfl⟩
      · rw [h1]
        have hs : ([x] : List Nat).Sublist (([h] ++ w).drop lo) := by rw [h2]; simp
        refine ⟨fun _ => ?_, fun hn => absurd hs hn⟩
        obtain ⟨e, he, hle⟩ : ∃ e, (s :: r).getLast? = some e ∧ s ≤ e := by
          cases hgl : (s :: r).getLast? with
          | none => simp at hgl
          | some e =>
            refine ⟨e, rfl, ?_⟩
            rcases List.mem_cons.mp (List.mem_of_getLast? hgl) with h | h
            · rw [h]; exact Nat.le_refl _
            · exact h6 _ h
        rw [he]
        simp only [List.length_cons, List.length_nil]
        omega

end
section
open PySem PySem.W PyProof.Rows PySem.Calls
set_option Elab.async false
set_option maxRecDepth 100000
set_option linter.all false
/-! the plain law, seventh part: the verdicts -/
theorem flat_one : ∀ l : List Nat, (l.map fun n => [n]).flatten = l
  | [] => rfl
  | x :: l => by rw [List.map_cons, List.flatten_cons, flat_one l]; rfl
theorem tail_flat (q : List Nat) (c3 : Int) (i : Nat) : (dueTail q c3 i).flatten = q := by
  unfold dueTail
  rw [List.flatten_append, List.flatten_append, List.flatten_append, flat_one, flat_one]
  rcases mor01 c3 i with h | h <;> rw [h] <;> simp
theorem due_end {h : Nat} {q w : List Nat} {c3 : Int} {i : Nat} (hq : 0 < q.length) : (q.Sublist w → 1 < endP (dueOf [h] q c3 i) ([h] ++ w)) ∧ (¬ q.Sublist w → endP (dueOf [h] q c3 i) ([h] ++ w) = 0) := by
  have htl := tail_len (q := q) (c3 := c3) (i := i) hq
  have hne : dueTail q c3 i ≠ [] := fun h => by rw [h] at htl; simp at htl
  obtain ⟨mid, last, hml⟩ : ∃ mid last, dueTail q c3 i = mid ++ [last] := ⟨_, _, (List.dropLast_concat_getLast hne).symm⟩
  have hfl : mid.flatten ++ last = q := by
    have := tail_flat q c3 i
    rw [hml, List.flatten_append] at this
    simpa using this
  have hpc : ∀ p ∈ dueTail q c3 i, p = [] ∨ ∃ n, p = [n] := fun p hp => (tail_mem hp).imp id fun ⟨n, _, e⟩ => ⟨n, e⟩
  rw [due_is, hml, endP_is]
  have := end_val (h := h) (w := w) (mid := mid) (last := last) (fun p hp => hpc p (by rw [hml]; simp [hp])) (hpc last (by rw [hml]; simp))
  rw [hfl] at this
  exact this
theorem val_nil (nm : List Nat) : ruleVal [] nm = 1 := rfl
theorem val_one (p : List (List Nat)) (nm : List Nat) : ruleVal [p] nm = max 0 (endP p nm) := rfl
theorem val_two (p0 p1 : List (List Nat)) (nm : List Nat) : ruleVal [p0, p1] nm = max (max 0 (endP p0 nm)) (endP p1 nm) := rfl
theorem st_is (nm : List Nat) (t1 : Int) (t2 : PV) (r : Addr) (sev : List (List (List Nat))) (w : PV) (v : Int) (hv : ruleVal sev nm = v) : allowStep nm (t1, t2) ⟨r, sev, w⟩ = if v = 0 then (t1, t2) else if v > t1 then (v, w) else if v = t1 ∧ truth t2 = false then (t1, w) else (t1, t2) := by
  subst hv; rfl
theorem st_zero {nm : List Nat} {t1 : Int} {t2 : PV} {r : Addr} {sev : List (List (List Nat))} {w : PV} (hv : ruleVal sev nm = 0) : allowStep nm (t1, t2) ⟨r, sev, w⟩ = (t1, t2) := by
  rw [st_is nm t1 t2 r sev w 0 hv, if_pos rfl]
theorem st_more {nm : List Nat} {t1 : Int} {t2 : PV} {r : Addr} {sev : List (List (List Nat))} {w : PV} {v : Int} (hv : ruleVal sev nm = v) (h0 : v ≠ 0) (h : t1 < v) : allowStep nm (t1, t2) ⟨r, sev, w⟩ = (v, w) := by
  rw [st_is nm t1 t2 r sev w v hv, if_neg h0, if_pos h]
theorem st_like {nm : List Nat} {t1 : Int} {t2 : PV} {r : Addr} {sev : List (List (List Nat))} {w : PV} (hv : ruleVal sev nm = t1) (h0 : t1 ≠ 0) (h : truth t2 = false) : allowStep nm (t1, t2) ⟨r, sev, w⟩ = (t1, w) := by
  rw [st_is nm t1 t2 r sev w t1 hv, if_neg h0, if_neg (by omega), if_pos ⟨rfl, h⟩]
theorem st_keep {nm : List Nat} {t1 : Int} {t2 : PV} {r : Addr} {sev : List (List (List Nat))} {w : PV} {v : Int} (hv : ruleVal sev nm = v) (h : v ≤ t1) (ht : truth t2 = true) : allowStep nm (t1, t2) ⟨r, sev, w⟩ = (t1, t2) := by
  rw [st_is nm t1 t2 r sev w v hv]
  split
  · rfl
  · rw [if_neg (by omega), if_neg (fun h => by rw [ht] at h; cases h.2)]
theorem truth_str {w : List Nat} (hw : w ≠ []) : truth (.str w) = true := by
  cases w with
  | nil => exact absurd rfl hw
  | cons _ _ => rfl
theorem fold6 {nm : List Nat} {a b c d e f : RuleD} {t0 t1 t2 t3 t4 t5 t6 : Int × PV} (h1 : allowStep nm t0 a = t1) (h2 : allowStep nm t1 b = t2) (h3 : allowStep nm t2 c = t3) (h4 : allowStep nm t3 d = t4) (h5 : allowStep nm t4 e = t5) (h6 : allowStep nm t5 f = t6) :
    [a, b, c, d, e, f].foldl (allowStep nm) t0 = t6 := by
  rw [List.foldl_cons, h1, List.foldl_cons, h2, List.foldl_cons, h3, List.foldl_cons, h4, List.foldl_cons, h5, List.foldl_cons, h6, List.foldl_nil]
theorem allow_first {p0 p1 : List (List Nat)} {w0 w1 nm : List Nat} (h0 : 1 < endP p0 nm) (h1 : endP p1 nm = 0) (hw : w0 ≠ []) (r1 r2 ra rb r3 r4 : Addr) : allowOf (dsW p0 p1 w0 w1 r1 r2 ra rb r3 r4) nm = .str w0 := by
  have v2 : ruleVal [p0, p1] nm = endP p0 nm := by rw [val_two]; omega
  have va : ruleVal [p0] nm = endP p0 nm := by rw [val_one]; omega
  have vb : ruleVal [p1] nm = 0 := by rw [val_one]; omega
  unfold allowOf dsW
  rw [fold6 (st_more (val_nil nm) (by decide) (by decide)) (st_more v2 (by omega) h0) (st_like va (by omega) rfl) (st_zero vb) (st_keep v2 (Int.le_refl _) (truth_str hw)) (st_keep (val_nil nm) (by omega) (truth_str hw))]
theorem allow_second {p0 p1 : List (List Nat)} {w0 w1 nm : List Nat} (h0 : endP p0 nm = 0) (h1 : 1 < endP p1 nm) (hw : w1 ≠ []) (r1 r2 ra rb r3 r4 : Addr) : allowOf (dsW p0 p1 w0 w1 r1 r2 ra rb r3 r4) nm = .str w1 := by
  have v2 : ruleVal [p0, p1] nm = endP p1 nm := by rw [val_two]; omega
  have va : ruleVal [p0] nm = 0 := by rw [val_one]; omega
  have vb : ruleVal [p1] nm = endP p1 nm := by rw [val_one]; omega
  unfold allowOf dsW
  rw [fold6 (st_more (val_nil nm) (by decide) (by decide)) (st_more v2 (by omega) h1) (st_zero va) (st_like vb (by omega) rfl) (st_keep v2 (Int.le_refl _) (truth_str hw)) (st_keep (val_nil nm) (by omega) (truth_str hw))]
theorem brief_first {p0 p1 : List (List Nat)} {w0 w1 q0 q1 nm : List Nat} {size : Nat} (h0 : 1 < endP p0 nm) (h1 : endP p1 nm = 0) (ra rb : Addr) : allowOf (dsB p0 p1 w0 w1 q0 q1 size ra rb) nm = if qB q0 size then .str w0 else .bool true := by
  have va : ruleVal [p0] nm = endP p0 nm := by rw [val_one]; omega
  have vb : ruleVal [p1] nm = 0 := by rw [val_one]; omega
  unfold allowOf dsB
  cases qB q0 size <;> cases qB q1 size <;> simp only [Bool.false_eq_true, if_false, if_true, List.nil_append, List.append_nil, List.cons_append, List.foldl_cons, List.foldl_nil]
  · rw [st_zero vb]
  · rw [st_more va (by omega) (by omega)]
  · rw [st_more va (by omega) (by omega), st_zero vb]
theorem brief_second {p0 p1 : List (List Nat)} {w0 w1 q0 q1 nm : List Nat} {size : Nat} (h0 : endP p0 nm = 0) (h1 : 1 < endP p1 nm) (ra rb : Addr) : allowOf (dsB p0 p1 w0 w1 q0 q1 size ra rb) nm = if qB q1 size then .str w1 else .bool true := by
  have va : ruleVal [p0] nm = 0 := by rw [val_one]; omega
  have vb : ruleVal [p1] nm = endP p1 nm := by rw [val_one]; omega
  unfold allowOf dsB
  cases qB q0 size <;> cases qB q1 size <;> simp only [Bool.false_eq_true, if_false, if_true, List.nil_append, List.append_nil, List.cons_append, List.foldl_cons, List.foldl_nil]
  · rw [st_more vb (by omega) (by omega)]
  · rw [st_zero va]
  · rw [st_zero va, st_more vb (by omega) (by omega)]

end
section
open PySem PySem.W PyProof.Rows PySem.Calls
set_option Elab.async false
set_option maxRecDepth 100000
set_option linter.all false
/-! the plain law, last part: what the walk asks for -/
theorem cells_six (ns : List Int) : (cellsOf ns).length = 6 := by
  unfold cellsOf
  have key : ∀ (l : List Nat) (cs : List Int), (l.foldl (cellStep ns) cs).length = cs.length := by
    intro l
    induction l with
    | nil => intro cs; rfl
    | cons i l ih => intro cs; rw [List.foldl_cons, ih]; unfold cellStep; rw [List.length_set]
  rw [key]; rfl
theorem pair_is (c0 : Int) : ∃ x y, pairOf c0 = [x, y] ∧ x ∈ alL ∧ y ∈ alL := by
  have h8 : (c0 % 8).toNat < 8 := by omega
  unfold pairOf
  generalize (c0 % 8).toNat = k at h8
  have : ∀ k < 8, ∃ x ∈ alL, ∃ y ∈ alL, pairsL.getD k [] = [x, y] := by decide
  obtain ⟨x, hx, y, hy, e⟩ := this k h8
  exact ⟨x, y, e, hx, hy⟩
theorem head_is (c0 : Int) : ∃ h ∈ headL, headOf c0 = [h] := by
  have h8 : (c0 / 240 % 8).toNat < 8 := by omega
  unfold headOf
  generalize (c0 / 240 % 8).toNat = k at h8
  have : ∀ k < 8, headL.getD k 0 ∈ headL := by decide
  exact ⟨_, this k h8, rfl⟩
theorem word_mem {x y : Nat} {cell : Int} {n : Nat} {z : Nat} (h : z ∈ wordOf [x, y] cell n) : z = x ∨ z = y := by
  unfold wordOf wordSigns at h
  obtain ⟨l, hl, hz⟩ := List.mem_flatten.mp h
  obtain ⟨j, _, rfl⟩ := List.mem_map.mp hl
  rw [List.mem_singleton.mp hz]
  have h2 : (cell / 2 ^ j % 2).toNat < 2 := by
    have := Int.emod_lt_of_pos (cell / 2 ^ j) (b := 2) (by decide); omega
  generalize (cell / 2 ^ j % 2).toNat = k at h2
  rcases k with _ | _ | k
  · exact .inl rfl
  · exact .inr rfl
  · omega
theorem moved_bound {c3 : Int} {n j : Nat} (hn : 0 < n) (hj : j < n) : 0 ≤ movedAt (swapOf c3 n) j ∧ (movedAt (swapOf c3 n) j).toNat < n := by
  have a1 := Int.emod_nonneg c3 (b := (n : Int)) (by omega)
  have a2 := Int.emod_lt_of_pos c3 (b := (n : Int)) (by omega)
  have b1 := Int.emod_nonneg (c3 / (n : Int)) (b := (n : Int)) (by omega)
  have b2 := Int.emod_lt_of_pos (c3 / (n : Int)) (b := (n : Int)) (by omega)
  unfold movedAt swapOf
  generalize c3 % (n : Int) = a at *
  generalize c3 / (n : Int) % (n : Int) = b at *
  have hs : ([a, b] : List Int).sum = a + b := by simp
  rw [hs]
  split
  · rename_i h
    have : (j : Int) = a ∨ (j : Int) = b := by
      simp only [memS_c, memS_n, List.map_cons, List.map_nil, List.any_cons, List.any_nil, eqS_i, eqS_t, eqS_b, Bool.or_false, Bool.or_eq_true, beq_iff_eq] at h
      omega
    omega
  · omega
theorem moved_mem {w : List Nat} {c3 : Int} {n : Nat} {z : Nat} (hn : 0 < n) (hw : w.length = n) (h : z ∈ movedOf w (swapOf c3 n) n) : z ∈ w := by
  unfold movedOf movedSigns at h
  obtain ⟨l, hl, hz⟩ := List.mem_flatten.mp h
  obtain ⟨j, hj, rfl⟩ := List.mem_map.mp hl
  rw [List.mem_singleton.mp hz]
  have := (moved_bound (c3 := c3) hn (List.mem_range.mp hj)).2
  rw [← hw] at this
  rw [List.getD_eq_getElem?_getD, ← hw, List.getElem?_eq_getElem this]
  exact List.getElem_mem this
theorem tailP {h : Nat} {o t q0 q1 : List Nat} {size : Nat} {c3 c4 c5 : Int} (hh : h ∈ headL) (hs : 3 ≤ size ∧ size ≤ 12) (hol : o.length = size) (htl : t.length = size) (hoa : ∀ x ∈ o, x ∈ alL) (hta : ∀ x ∈ t, x ∈ alL) (hP : PathsOk o t q0 q1) :
    TailP o t [h] size (typedOf o c4) (typedOf t c5) q0 q1 (dueOf [h] q0 c3 0) (dueOf [h] q1 c3 1) (if qB q0 size then .str (typedOf o c4) else .bool true) (if qB q1 size then .str (typedOf t c5) else .bool true) := by
  have z0 := hP.z0
  have z1 := hP.z1
  have q0a : ∀ x ∈ q0, x ∈ alL := fun x hx => (hP.m0 x hx).elim (hoa x) (hta x)
  have q1a : ∀ x ∈ q1, x ∈ alL := fun x hx => (hP.m1 x hx).elim (hoa x) (hta x)
  have l4 := typed_len hoa c4
  have l5 := typed_len hta c5
  have no : typedOf o c4 ≠ [] := fun e => by
    have := prep_typed hoa c4
    rw [e, prepared_nil] at this
    rw [← this] at hol; simp at hol; omega
  have nt : typedOf t c5 ≠ [] := fun e => by
    have := prep_typed hta c5
    rw [e, prepared_nil] at this
    rw [← this] at htl; simp at htl; omega
  have eo0 := (due_end (h := h) (w := o) (c3 := c3) (i := 0) hP.p0).1 hP.s0
  have eo1 := (due_end (h := h) (w := o) (c3 := c3) (i := 1) hP.p1).2 hP.n1
  have qf : o = t → qB q0 size = false ∧ qB q1 size = false := fun e => by
    have := hP.eq e
    exact ⟨decide_eq_false (by omega), decide_eq_false (by omega)⟩
  refine ⟨by omega, by omega, by simp, by omega, by omega, by omega, by omega, (pathP (c4 := c4) (c5 := c5) ⟨h, hh, rfl⟩ hP.p0 (by omega) q0a).good, (pathP (c4 := c4) (c5 := c5) ⟨h, hh, rfl⟩ hP.p1 (by omega) q1a).good, fun r1 r2 ra rb r3 r4 => allow_first eo0 eo1 no r1 r2 ra rb r3 r4, fun r1 r2 ra rb r3 r4 => ?_, fun ra rb => brief_first eo0 eo1 ra rb, fun ra rb => ?_, ?_, ?_, ?_⟩
  · by_cases e : o = t
    · rw [if_pos (by simpa using e), ← e]
      exact allow_first eo0 eo1 no r1 r2 ra rb r3 r4
    · rw [if_neg (by simpa using e)]
      obtain ⟨h1, h2, _⟩ := hP.ne e
      exact allow_second ((due_end (h := h) (w := t) (c3 := c3) (i := 0) hP.p0).2 h2) ((due_end (h := h) (w := t) (c3 := c3) (i := 1) hP.p1).1 h1) nt r1 r2 ra rb r3 r4
  · by_cases e : o = t
    · have h1 := brief_first (w0 := typedOf o c4) (w1 := typedOf t c5) (q0 := q0) (q1 := q1) (size := size) eo0 eo1 ra rb
      rw [e] at h1
      rw [e, h1, (qf e).1, (qf e).2]; rfl
    · obtain ⟨h1, h2, _⟩ := hP.ne e
      exact brief_second ((due_end (h := h) (w := t) (c3 := c3) (i := 0) hP.p0).2 h2) ((due_end (h := h) (w := t) (c3 := c3) (i := 1) hP.p1).1 h1) ra rb
  · cases hq : qB q0 size with
    | true => exact .inr ⟨rfl, by simp⟩
    | false => exact .inl (by simp)
  · cases hq : qB q1 size with
    | true => exact .inr ⟨rfl, by simp⟩
    | false => exact .inl (by simp)
  · by_cases e : o = t
    · exact .inl e
    · right
      obtain ⟨_, _, h3⟩ := hP.ne e
      by_cases hq : qB q0 size = true
      · left; rw [if_pos hq]; exact fun h => nomatch h
      · right
        have h4 : ¬ (q0.length : Int) ≤ (size : Int) / 2 + 1 := of_decide_eq_false (by simpa [qB] using hq)
        have h5 : qB q1 size = true := decide_eq_true (by omega)
        rw [if_pos h5]; exact fun h => nomatch h
section
variable {cc : Cx} {K0 : Shared} {Q : Flow → Shared → Prop} {L : Addr} {ns : List Int}
theorem law_all {n : Nat} (hN : cc.N = n + 4) (T0 : K0.heap.get? tb = some (tabObj #[])) (hz : ns.length ≤ 65536)
    (hQ : ∀ v s K ρ G, Lk (lawC cc L) K0 K → Base (lawC cc L) K → Act ((lawC cc L).fx G) K [] ρ s → Rep [] s.heap (.bool true) v → Q (.ret v) s) :
    Bd ((lawC cc L).fx []) K0 [] [(Str.ofString "script", .list (ns.map .int))] (sBody (stm 21)) Q := by
  obtain ⟨c0, c1, c2, c3, c4, c5, hcs⟩ : ∃ c0 c1 c2 c3 c4 c5, cellsOf ns = [c0, c1, c2, c3, c4, c5] := by
    have := cells_six ns
    match cellsOf ns, this with
    | [a, b, c, d, e, f], _ => exact ⟨a, b, c, d, e, f, rfl⟩
  obtain ⟨x, y, hp, hx, hy⟩ := pair_is c0
  obtain ⟨h, hh, hhd⟩ := head_is c0
  have hs : 3 ≤ sizeOf' c0 ∧ sizeOf' c0 ≤ 12 := by unfold sizeOf'; omega
  have al2 : ∀ z, z = x ∨ z = y → z ∈ alL := fun z hz => by rcases hz with rfl | rfl <;> assumption
  have ho2 : ∀ z ∈ wordOf (pairOf c0) c1 (sizeOf' c0), z = x ∨ z = y := fun z hz => by rw [hp] at hz; exact word_mem hz
  have hol : (wordOf (pairOf c0) c1 (sizeOf' c0)).length = sizeOf' c0 := word_len _ _ _
  have ht2 : ∀ z ∈ twoOf c0 (wordOf (pairOf c0) c2 (sizeOf' c0)) (movedOf (wordOf (pairOf c0) c1 (sizeOf' c0)) (swapOf c3 (sizeOf' c0)) (sizeOf' c0)) (wordOf (pairOf c0) c1 (sizeOf' c0)), z = x ∨ z = y := fun z hz => by
    unfold twoOf at hz
    have h8 : (c0 / 80 % 3).toNat < 3 := by omega
    generalize (c0 / 80 % 3).toNat = k at h8 hz
    rcases k with _ | _ | _ | k
    · rw [hp] at hz; exact word_mem hz
    · exact ho2 z (moved_mem (by omega) hol hz)
    · exact ho2 z hz
    · omega
  have htl : (twoOf c0 (wordOf (pairOf c0) c2 (sizeOf' c0)) (movedOf (wordOf (pairOf c0) c1 (sizeOf' c0)) (swapOf c3 (sizeOf' c0)) (sizeOf' c0)) (wordOf (pairOf c0) c1 (sizeOf' c0))).length = sizeOf' c0 := by
    unfold twoOf
    have h8 : (c0 / 80 % 3).toNat < 3 := by omega
    generalize (c0 / 80 % 3).toNat = k at h8
    rcases k with _ | _ | _ | k
    · exact word_len _ _ _
    · exact moved_len _ _ _
    · exact word_len _ _ _
    · omega
  generalize hoo : wordOf (pairOf c0) c1 (sizeOf' c0) = o at *
  generalize htt : twoOf c0 (wordOf (pairOf c0) c2 (sizeOf' c0)) (movedOf o (swapOf c3 (sizeOf' c0)) (sizeOf' c0)) o = t at *
  obtain ⟨q0, q1, hpq, hP⟩ := paths_ok (o := o) (t := t) (by omega) (by omega) ho2 ht2
  have hoa : ∀ z ∈ o, z ∈ alL := fun z hz => al2 z (ho2 z hz)
  have hta : ∀ z ∈ t, z ∈ alL := fun z hz => al2 z (ht2 z hz)
  have l4 := typed_len hoa c4
  have l5 := typed_len hta c5
  have z0 := hP.z0
  have z1 := hP.z1
  refine law_head hN hz hcs (size := sizeOf' c0) (o := o) (t := t) (hd := [h]) (q0 := q0) (q1 := q1) rfl hoo.symm hhd.symm htt.symm (fun j hj => moved_bound (by omega) hj) (fun z hz => al_range z (hoa z hz)) (fun z hz => al_range z (hta z hz)) (prep_typed hoa c4) (prep_typed hta c5) hpq (by omega) (by omega) ?_
  exact law_loop hN T0 (c3 := c3) (c4 := c4) (c5 := c5) rfl rfl rfl (pathP ⟨h, hh, rfl⟩ hP.p0 (by omega) fun z hz => (hP.m0 z hz).elim (hoa z) (hta z)) (pathP ⟨h, hh, rfl⟩ hP.p1 (by omega) fun z hz => (hP.m1 z hz).elim (hoa z) (hta z)) (tailP hh hs hol htl hoa hta hP) hQ
end

end
section
open PySem PySem.W PyProof.Rows PySem.Calls
set_option Elab.async false
set_option maxRecDepth 100000
set_option linter.all false
theorem h1_tb (P : Params) : (H1 P).get? tb = some (tabObj #[]) := by kernel_rfl
theorem h1_table (P : Params) : ∃ o vs, (H1 P).get? 188 = some o ∧ o.cls = .type "code" ∧ o.data = .fields vs ∧ vs[11]? = some (.ref tb) := by
  have h : ∃ o, (H1 P).get? 188 = some o ∧ o = o188_8 P := ⟨_, by kernel_rfl, rfl⟩
  obtain ⟨o, ho, rfl⟩ := h
  exact ⟨_, _, ho, rfl, rfl, rfl⟩
theorem law_run {w : World} {s₁ : Shared} (hY : ∀ b o, (H1 w.params).get? b = some o → s₁.heap.get? b = some o) {ns : List Int} (hz : ns.length ≤ 65536) {v : Value} (hv : Rep [] s₁.heap (.list (ns.map .int)) v) {Q : Value → Shared → Prop} {E : Value → Shared → Prop}
    (hQ : ∀ s', OldK s₁.heap s'.heap → s'.os = s₁.os → s'.gens = s₁.gens → Q (.bool true) s') : wpAny (model pg w) callerA (call (.ref 194) [v]) Q E s₁ := by
  let c : Cx := ⟨w, callerA, callEnvC (lawFd 21 "law" 193) 0 194, [], 4, []⟩
  have S : Sit c [] s₁ := ⟨⟨⟨_, hY _ _ (h1_tb _)⟩, fun b o _ e => hY b o e⟩, (fun a ha => nomatch ha), by kernel_rfl, by kernel_rfl, by kernel_rfl, (fun e he => nomatch he), rfl, by show callerA.units + 50 * (4 + 1) < cLine; decide, by show callerA.depth + 8 * (4 + 1) < recursionLimit; decide, (fun e he => nomatch he)⟩
  refine Cl.enter (c := c) (ρ := []) (names := [Str.ofString "script"]) (fd := lawFd 21 "law" 193) (cd := 193) (n := 3) (ps := [.list (ns.map .int)]) S ⟨v, _, rfl, hv, rfl⟩ rfl rfl law_o (by decide) rfl law_c (by decide) rfl rfl rfl rfl rfl (fun vs h => match vs, h with | [_], _ => rfl)
    (by kernel_rfl) (by decide +kernel) (by kernel_rfl) (by kernel_rfl) (by kernel_rfl) fun s₂ E' X k => ?_
  have T0 : s₁.heap.get? tb = some (tabObj #[]) := hY _ _ (h1_tb _)
  refine (law_all (cc := c) (K0 := s₁) (L := s₁.heap.objs.size) (n := 0) (ns := ns) (Q := fun fl s' => Q (match fl with | .ret v => v | _ => .none) s') rfl T0 hz fun u s K ρ G hL hB X' hr => ?_).run s₂ E' X
  obtain rfl : u = .bool true := hr
  obtain ⟨⟨F0, ρ0, XB⟩, ps, T, _⟩ := hB
  have hnew : ∀ b o, s₁.heap.get? b = some o → ¬ own (lawC c s₁.heap.objs.size) [] b := fun b o e => by
    have hb := Heap.lt_size e
    rintro (h | ⟨n', h⟩ | h)
    · rw [h] at hb; exact Nat.lt_irrefl _ hb
    · have := X'.above n' b (mem_of_lookup h)
      exact Nat.lt_irrefl _ (Nat.lt_trans this hb)
    · simp at h
  have hps : s.heap.get? tb = some (tabObj ps) := X'.keep tb _ (fun h => (X'.h1 tb h).2 rfl) T.at_
  have hold : ∀ b o, b ≠ tb → s₁.heap.get? b = some o → s.heap.get? b = some o := fun b o hb e => X'.keep b o (hnew b o e) (hL.keep b o (hnew b o e) hb e)
  refine hQ s ⟨fun b o e => ?_, fun b o e => ?_⟩ ?_ ?_
  · by_cases hb : b = tb
    · subst hb
      rw [T0] at e
      obtain rfl : tabObj #[] = o := Option.some.inj e
      obtain ⟨o', vs, g1, g2, g3, g4⟩ := h1_table w.params
      exact .inr (.inl ⟨⟨188, o', vs, hY _ _ g1, g2, g3, g4⟩, rfl, #[], ps, rfl, by rw [hps]; simp [tabObj]⟩)
    · exact .inl (hold b o hb e)
  · by_cases hb : b = tb
    · exact ⟨_, by rw [hb]; exact hps⟩
    · exact ⟨o, hold b o hb e⟩
  · obtain ⟨_, _, rfl⟩ := hL.eq
    obtain ⟨_, _, rfl⟩ := X'.same
    rfl
  · obtain ⟨_, _, rfl⟩ := hL.eq
    obtain ⟨_, _, rfl⟩ := X'.same
    rfl

end
section
open PySem PySem.W PyProof.Rows PySem.Calls
set_option Elab.async false
set_option maxRecDepth 100000
set_option linter.all false
theorem items_int {R : WRecords} : ∀ {xs : List WData}, WShape.hasItems R xs .int = true → ∃ ns : List Int, xs = ns.map .int
  | [], _ => ⟨[], rfl⟩
  | d :: xs, h => by
    simp only [WShape.hasItems, Bool.and_eq_true] at h
    obtain ⟨i, rfl⟩ := hasW_int h.1
    obtain ⟨ns, rfl⟩ := items_int h.2
    exact ⟨i :: ns, rfl⟩
theorem reads_ints {R : WRecords} {cl : Str → Option Addr} {h : Heap} : ∀ {ns : List Int} {vs : List Value} {as : List Addr}, ReadsAllW R cl h vs (ns.map .int) as → Reps [] h (ns.map .int) vs
  | [], vs, as, r => by cases r; rfl
  | n :: ns, vs, as, r => by
    cases r with
    | cons r1 r2 =>
      cases r1
      exact ⟨_, _, rfl, ⟨_, rfl⟩, reads_ints r2⟩
theorem pre_len {R : WRecords} {ns : List Int} (h : WTm.holds R (.and (.not (.lt (.lit (.int 63)) (.len (.arg 0)))) (.lit (.bool true))) { args := [.list (ns.map .int)] } = true) : ns.length ≤ 63 := by
  refine Nat.le_of_not_lt fun hn => ?_
  have h1 : (63 : Int) < (ns.length : Int) := by omega
  have h2 : less? (WData.int 63) (WData.int (ns.length : Int)) = some true := by
    have h3 : less? (WData.int 63) (WData.int (ns.length : Int)) = some (decide ((63 : Int) < (ns.length : Int))) := rfl
    rw [h3, decide_eq_true h1]
  simp [WTm.holds, WTm.value, h2] at h
theorem post_ok {R : WRecords} {args after : List WData} : (WShape.has R (.bool true) .bool && WTm.holds R (.eq .res (.lit (.bool true))) { args := args, res := some (.bool true), after := after }) = true := by
  have h1 : WShape.has R (.bool true) .bool = true := rfl
  rw [h1, Bool.true_and]
  have h2 : WTm.value R (.eq .res (.lit (.bool true))) { args := args, res := some (.bool true), after := after } = some (.bool true) := by
    simp [WTm.value]
    first | rfl | decide +kernel | (unfold same; simp) | simp [same]
  unfold WTm.holds
  rw [h2]
theorem said : OpenLaw.wellSaid PySem.Challenge.rw_rs0173_01 = true := by
  unfold OpenLaw.wellSaid OpenRow.wellSaid OpenRow.partSaid looksOpen
  repeat' (with_reducible apply look_both)
  all_goals decide +kernel
end
end Mine
set_option maxRecDepth 100000 in
set_option maxHeartbeats 8000000 in
theorem PySem.Challenge.cw_rs0173_01_holds : PySem.Challenge.rw_rs0173_01.Holds := by
  refine holds_law Mine.said fun said => ?_
  refine holds_open (q := Mine.qv) (loose := Mine.looseV) (Xt := Mine.XtV) (XP := fun _ _ => True) (Yf := Mine.YfV) (Ya := Mine.YaV)
    (YP := fun w h => ∀ b o, (Mine.H1 w.params).get? b = some o → h.get? b = some o) (N := 20000) Mine.left
    (fun w s e b o h => by rw [show s.heap = Mine.H1 w.params from e]; exact h) (fun w h h' a b x o e => b x o (a x o e)) (fun _ _ => trivial) (fun _ _ _ _ _ => trivial)
    (by rfl) (by rfl) (by rfl) (fun s e => recFacts_of (by rfl)) (by rfl) (by first | assumption | decide +kernel) (by decide +kernel) ⟨rfl, rfl, rfl, rfl, rfl, by decide +kernel⟩ ?hw ?hc
  case hw => w_witness2
  case hc =>
    intro w s₀ s₁ mg mb G hY a o pm cd doc dV kV ho hd hcd hD hmg hgens args vals as hpre hlay hreads hwell hns
    have gd : Mine.Gd w s₁ := ⟨⟨_, hY _ _ (Mine.h1_tb _)⟩, fun b o _ e => hY b o e⟩
    have h1 : mg (Str.ofString "law") = some (.ref 194) := by
      have := Mine.Ns.uniq G.T.g gd.g (Str.ofString "law")
      rw [this]; kernel_rfl
    have hmg' : mg (Str.ofString "law") = some (.ref a) := hmg
    rw [h1] at hmg'
    obtain rfl : 194 = a := by simpa using hmg'
    obtain ⟨hsh, hh⟩ := pre_splitW hpre
    obtain ⟨d, r, rfl, hd1, hd2⟩ := hasAllW_cons hsh
    obtain rfl := hasAllW_nil hd2
    obtain ⟨xs, rfl, hxs⟩ := hasW_list hd1
    obtain ⟨ns, rfl⟩ := Mine.items_int hxs
    have hlen := Mine.pre_len hh
    cases hreads with
    | cons r1 r2 =>
      cases r2
      cases r1 with
      | list g1 g2 g3 g4 =>
        have hrep := Mine.reads_ints g4
        have hl := hrep.length
        rw [Array.length_toList, List.length_map] at hl
        refine Mine.law_run hY (ns := ns) (by omega) ⟨_, _, rfl, by simp, ⟨_, g1, g2, _, g3⟩, by omega, hrep⟩ fun s' hK hos hg => ⟨.inl ⟨_, .bool true, [], rfl, ?_, .bool true, ?_, ?_⟩, hK, hos, ?_⟩
        · intro cls; rfl
        · exact Mine.post_ok
        · intro _; exact ⟨List.nodup_nil, fun a ha => nomatch ha⟩
        · rw [hg, hgens]; exact .of_eq rfl

