import PyProof.Rows.All
import Wide.All
import OpenK.AllK
import Wide.FinOn
import PySem.Challenge.RW_ti0027_01
set_option Elab.async false
local macro_rules | `(tactic| walk_at $s:str) => `(tactic| k_extra $s)
-- part HSaid
section
open PySem PySem.W PyProof.Rows
set_option maxRecDepth 100000
set_option maxHeartbeats 0
namespace Mine
theorem law_said : PySem.Challenge.rw_ti0027_01.wellSaid = true := by
  unfold OpenLaw.wellSaid OpenRow.wellSaid OpenRow.partSaid looksOpen
  repeat' (with_reducible refine look_both ?_ ?_)
  all_goals decide +kernel
end Mine
end
-- part HGoes
section
open PySem PySem.W PyProof.Rows
set_option maxRecDepth 100000
namespace Mine
section
variable {p : Program} {w : World} {n₀ : Nat} {ann : Option Value} {c : Code} {f₀ : Frame} {stk : List Frame} {α β : Type}

noncomputable def Goes (p : Program) (w : World) (n₀ : Nat) (ann : Option Value) (c : Code) (f : Frame) (stk : List Frame) (B : Nat) (x : Sem α) (s : Shared) (a : α) (s' : Shared) : Prop :=
  ∀ (K : α → Sem Fin) (H : Value → Sem Fin) (gd : Bool → Bool) (lv : List Value → List Value) (pos : Pos),
    ∃ pos', ∀ N r, topRun treeTable p w n₀ ann N s' ⟨K a, c, pos', f :: stk⟩ = some r →
      topRun treeTable p w n₀ ann (N + B) s ⟨x.wrap K H gd lv, c, pos, f :: stk⟩ = some r
noncomputable def gw (p : Program) (w : World) (n₀ : Nat) (ann : Option Value) (c : Code) (f : Frame) (stk : List Frame) (B : Nat) (x : Sem α) (Q : α → Shared → Prop) (s : Shared) : Prop :=
  ∃ a s', Goes p w n₀ ann c f stk B x s a s' ∧ Q a s'

theorem Goes.more {B B' : Nat} {x : Sem α} {s s' : Shared} {a : α} (h : Goes p w n₀ ann c f₀ stk B x s a s') (le : B ≤ B') : Goes p w n₀ ann c f₀ stk B' x s a s' := by
  intro K H gd lv pos
  obtain ⟨pos', g⟩ := h K H gd lv pos
  refine ⟨pos', fun N r e => ?_⟩
  have := topRun_mono (B' - B) _ _ _ _ (g N r e)
  rw [show N + B + (B' - B) = N + B' by omega] at this
  exact this
theorem gw_more {B B' : Nat} {x : Sem α} {Q : α → Shared → Prop} {s : Shared} (h : gw p w n₀ ann c f₀ stk B x Q s) (le : B ≤ B') : gw p w n₀ ann c f₀ stk B' x Q s :=
  let ⟨a, s', g, q⟩ := h; ⟨a, s', g.more le, q⟩
theorem gw_mono {B : Nat} {x : Sem α} {Q Q' : α → Shared → Prop} {s : Shared} (h : gw p w n₀ ann c f₀ stk B x Q s) (hq : ∀ a s, Q a s → Q' a s) : gw p w n₀ ann c f₀ stk B x Q' s :=
  let ⟨a, s', g, q⟩ := h; ⟨a, s', g, hq _ _ q⟩
theorem gw_pure {a : α} {Q : α → Shared → Prop} {s : Shared} (h : Q a s) : gw p w n₀ ann c f₀ stk 0 (pure a) Q s :=
  ⟨a, s, fun _ _ _ _ pos => ⟨pos, fun _ _ e => e⟩, h⟩
theorem wrap_bind' {γ : Type} (x : Sem α) (f : α → Sem β) (K : β → Sem γ) (H : Value → Sem γ) (gd : Bool → Bool) (lv : List Value → List Value) :
    (x >>= f).wrap K H gd lv = x.wrap (fun a => (f a).wrap K H gd lv) H gd lv := by
  rw [Sem.bind_eq_wrap', Sem.wrap_wrap]
  rfl
theorem gw_bind {B1 B2 : Nat} {x : Sem α} {f : α → Sem β} {Q : β → Shared → Prop} {s : Shared} (h : gw p w n₀ ann c f₀ stk B1 x (fun a s1 => gw p w n₀ ann c f₀ stk B2 (f a) Q s1) s) :
    gw p w n₀ ann c f₀ stk (B2 + B1) (x >>= f) Q s := by
  obtain ⟨a, s1, g, b, s2, g2, q⟩ := h
  refine ⟨b, s2, fun K H gd lv pos => ?_, q⟩
  obtain ⟨p1, e1⟩ := g (fun a => (f a).wrap K H gd lv) H gd lv pos
  obtain ⟨p2, e2⟩ := g2 K H gd lv p1
  refine ⟨p2, fun N r e => ?_⟩
  rw [wrap_bind', ← Nat.add_assoc]
  exact e1 _ _ (e2 _ _ e)
theorem gw_map {B1 : Nat} {x : Sem α} {f : α → β} {Q : β → Shared → Prop} {s : Shared} (h : gw p w n₀ ann c f₀ stk B1 x (fun a s1 => Q (f a) s1) s) :
    gw p w n₀ ann c f₀ stk (0 + B1) (f <$> x) Q s := by
  refine gw_bind (gw_mono h fun a s1 q => gw_pure q)

theorem topRun_op {N : Nat} {s s' : Shared} {t t' : Thread} {r : Shared} (ht : through t = false) (hk : stepOk n₀ ann t = true) (hs : step (denote treeTable) p w s t = .go s' t')
    (h : topRun treeTable p w n₀ ann N s' t' = some r) : topRun treeTable p w n₀ ann (N + 1) s t = some r := by
  unfold topRun
  rw [ht, hk, hs]
  exact h
theorem gw_rule {tag : String} {Q : Unit → Shared → Prop} {s : Shared} (h : Q () s) : gw p w n₀ ann c f₀ stk 1 (rule tag) Q s :=
  ⟨(), s, fun _ _ _ _ pos => ⟨pos, fun _ _ e => topRun_op rfl rfl rfl e⟩, h⟩
theorem gw_standAt {po : Pos} {Q : Unit → Shared → Prop} {s : Shared} (h : Q () s) : gw p w n₀ ann c f₀ stk 1 (standAt po) Q s :=
  ⟨(), s, fun _ _ _ _ _ => ⟨po, fun _ _ e => topRun_op rfl rfl rfl e⟩, h⟩
theorem gw_fresh {Q : Tok → Shared → Prop} {s : Shared} (h : Q s.toks { s with toks := s.toks + 1 }) : gw p w n₀ ann c f₀ stk 1 fresh Q s :=
  ⟨_, _, fun _ _ _ _ pos => ⟨pos, fun _ _ e => topRun_op rfl rfl rfl e⟩, h⟩
theorem gw_ask {Q : Setting → Shared → Prop} {s : Shared} (h : Q ⟨p, w.params⟩ s) : gw p w n₀ ann c f₀ stk 1 ask Q s :=
  ⟨_, _, fun _ _ _ _ pos => ⟨pos, fun _ _ e => topRun_op rfl rfl rfl e⟩, h⟩
theorem gw_alloc {o : Obj} {Q : Addr → Shared → Prop} {s : Shared} (h : Q s.heap.objs.size { s with heap := s.heap.push o }) : gw p w n₀ ann c f₀ stk 1 (alloc o) Q s :=
  ⟨_, _, fun _ _ _ _ pos => ⟨pos, fun _ _ e => topRun_op rfl rfl rfl e⟩, h⟩
theorem gw_loadPart {a : Addr} {part : Option Value} {o : Obj} {Q : Obj → Shared → Prop} {s : Shared} (ho : s.heap.get? a = some o) (h : Q o s) : gw p w n₀ ann c f₀ stk 1 (loadPart a part) Q s :=
  ⟨o, s, fun K H gd lv pos => ⟨pos, fun _ _ e => topRun_op rfl rfl (s' := s) (t' := ⟨K o, c, pos, f₀ :: stk⟩) (by
    show step _ p w s ⟨.load a part _, c, pos, f₀ :: stk⟩ = _
    simp only [step, ho]; rfl) e⟩, h⟩
theorem gw_load {a : Addr} {o : Obj} {Q : Obj → Shared → Prop} {s : Shared} (ho : s.heap.get? a = some o) (h : Q o s) : gw p w n₀ ann c f₀ stk 1 (load a) Q s := gw_loadPart ho h
theorem gw_updatePart {a : Addr} {part : Option Value} {f : Obj → Obj} {o : Obj} {Q : Unit → Shared → Prop} {s : Shared} (ho : s.heap.get? a = some o) (ha : n₀ ≤ a)
    (h : Q () { s with heap := s.heap.update a f }) : gw p w n₀ ann c f₀ stk 1 (updatePart a part f) Q s :=
  ⟨(), _, fun K H gd lv pos => ⟨pos, fun _ _ e => topRun_op rfl (by
      show (_ && (Nat.ble n₀ a || a == mainNs || a == cStatics || ann == some (.ref a))) = true
      rw [Nat.ble_eq_true_of_le ha]; rfl) (s' := { s with heap := s.heap.update a f }) (t' := ⟨K (), c, pos, f₀ :: stk⟩) (by
    show step _ p w s ⟨.update a part f _, c, pos, f₀ :: stk⟩ = _
    simp only [step, ho]; rfl) e⟩, h⟩

theorem gw_keep {B : Nat} {vs : List Value} {m : Sem α} {Q : α → Shared → Prop} {s : Shared} (h : gw p w n₀ ann c f₀ stk B m Q s) : gw p w n₀ ann c f₀ stk B (m.keep vs) Q s := by
  obtain ⟨a, s', g, q⟩ := h
  refine ⟨a, s', fun K H gd lv pos => ?_, q⟩
  rw [Sem.keep_eq_wrap, Sem.wrap_wrap]
  exact g K H _ _ pos
theorem gw_holding {B : Nat} {vs : List Value} {m : Sem α} {Q : α → Shared → Prop} {s : Shared} (h : gw p w n₀ ann c f₀ stk B m Q s) : gw p w n₀ ann c f₀ stk B (holding vs m) Q s := by
  rw [holding_eq_keep]; exact gw_keep h
theorem gw_onRaise {B : Nat} {m : Sem α} {k : Value → Sem Unit} {Q : α → Shared → Prop} {s : Shared} (h : gw p w n₀ ann c f₀ stk B m Q s) : gw p w n₀ ann c f₀ stk B (m.onRaise k) Q s := by
  obtain ⟨a, s', g, q⟩ := h
  refine ⟨a, s', fun K H gd lv pos => ?_, q⟩
  rw [Sem.onRaise_eq_wrap, Sem.wrap_wrap]
  exact g K _ _ _ pos
theorem gw_tryCatch {B : Nat} {m : Sem α} {k : Value → Sem α} {Q : α → Shared → Prop} {s : Shared} (h : gw p w n₀ ann c f₀ stk B m Q s) : gw p w n₀ ann c f₀ stk B (m.tryCatch k) Q s := by
  obtain ⟨a, s', g, q⟩ := h
  refine ⟨a, s', fun K H gd lv pos => ?_, q⟩
  rw [Sem.tryCatch_eq_wrap, Sem.wrap_wrap]
  exact g K _ _ _ pos

theorem gw_mkInt {i : Int} {Q : Value → Shared → Prop} {s : Shared} (h : Q (.int i s.toks) { s with toks := s.toks + 1 }) : gw p w n₀ ann c f₀ stk (0 + 1) (mkInt i) Q s := gw_bind (gw_fresh (gw_pure h))
theorem gw_mkText {x : Str} {Q : Value → Shared → Prop} {s : Shared} (h : Q (.str x s.toks) { s with toks := s.toks + 1 }) : gw p w n₀ ann c f₀ stk (0 + 1) (mkText x) Q s := gw_bind (gw_fresh (gw_pure h))

theorem gw_int_hash {k : Int} {t : Tok} {Q : Value → Shared → Prop} {s : Shared} (h : Q (.int (rawHash k) s.toks) { s with toks := s.toks + 1 }) :
    gw p w n₀ ann c f₀ stk 4 (call (.builtin "int.__hash__") [.int k t]) Q s := by
  refine ⟨_, _, fun K H gd lv pos => ⟨pos, fun N r e => ?_⟩, h⟩
  have : topRun treeTable p w n₀ ann (N + 4) s ⟨(call (.builtin "int.__hash__") [.int k t]).wrap K H gd lv, c, pos, f₀ :: stk⟩ =
      topRun treeTable p w n₀ ann N { s with toks := s.toks + 1 } ⟨K (.int (rawHash k) s.toks), c, pos, f₀ :: stk⟩ := by
    kernel_rfl
  rw [this]; exact e

theorem specialOf_int_hash {k : Int} {t : Tok} : specialOf (.int k t) "__hash__" = pure (some (.builtin "int.__hash__")) := slot_int_hash.lookup
theorem gw_special_hash {k : Int} {t : Tok} {refuse : Sem Value} {Q : Option Value → Shared → Prop} {s : Shared} (h : Q (some (.int (rawHash k) s.toks)) { s with toks := s.toks + 1 }) :
    gw p w n₀ ann c f₀ stk 5 (callSpecialIfBoundUnlessNone? (.int k t) "__hash__" refuse) Q s := by
  unfold callSpecialIfBoundUnlessNone? bindSpecialIfBound?
  refine gw_holding ?_
  rw [specialOf_int_hash]
  simp only [pure_bind, slot_int_hash.bind]
  have fin : gw p w n₀ ann c f₀ stk (0 + 4) (if (Value.builtin "int.__hash__" == Value.none) = true then (refuse >>= fun v => pure (some v)) else (call (.builtin "int.__hash__") [.int k t] >>= fun v => pure (some v))) Q s := by
    simp only [builtin_beq_none, Bool.false_eq_true, if_false]
    exact gw_bind (gw_int_hash (gw_pure h))
  refine gw_more (B := 0 + 4 + (0 + 1)) (gw_bind (gw_bind (gw_ask ?_))) (by decide)
  split
  · exact gw_pure fin
  · exact gw_tryCatch (gw_pure fin)
theorem gw_pyHash {k : Int} {t : Tok} {Q : Int → Shared → Prop} {s : Shared} (h : Q (hashInt k) { s with toks := s.toks + 1 }) : gw p w n₀ ann c f₀ stk 5 (pyHash (.int k t)) Q s := by
  have hr := rawHash_range k
  unfold pyHash
  have hv : [Value.int k t].any Value.onHeap = false := rfl
  refine gw_more (B := 0 + 5 + 0 + 0 + 0) (gw_bind ?_) (by decide)
  rw [cRoomFor, if_neg (by rw [hv]; exact Bool.false_ne_true)]
  refine gw_pure (gw_bind ?_)
  rw [specialOf_int_hash]
  refine gw_pure ?_
  show gw _ _ _ _ _ _ _ _ (if (some (Value.builtin "int.__hash__") == some Value.none) = true then _ else _) Q s
  rw [if_neg (by rw [beq_builtin_none]; exact Bool.false_ne_true)]
  refine gw_bind (gw_pure ?_)
  show gw _ _ _ _ _ _ _ _ (callSpecialIfBoundUnlessNone? (.int k t) "__hash__" _ >>= _) Q s
  refine gw_bind (gw_special_hash ?_)
  show gw _ _ _ _ _ _ _ _ (if (decide (-(2 : Int) ^ 63 ≤ rawHash k) && decide (rawHash k < 2 ^ 63)) = true then _ else _) Q _
  rw [if_pos (by rw [decide_eq_true hr.1, decide_eq_true hr.2]; rfl)]
  exact gw_pure h
end
end Mine
end
-- part HG3
section
open PySem PySem.W PyProof.Rows
set_option maxRecDepth 100000
namespace Mine
noncomputable def hp (l : List Obj) : Heap := ⟨l.toArray, {}⟩
noncomputable def dO (es : List DictEntry) : Obj := { cls := .type "dict", data := .dict es.toArray es.length }
theorem hp_get {pre post : List Obj} {es : List DictEntry} {a : Nat} (ha : a = pre.length) : (hp (pre ++ dO es :: post)).get? a = some (dO es) := by
  subst ha
  unfold hp Heap.get?
  simp [dO]
theorem hp_size (l : List Obj) : (hp l).objs.size = l.length := by simp [hp]
theorem hp_push (l : List Obj) (o : Obj) : (hp l).push o = hp (l ++ [o]) := by simp [hp, Heap.push]
theorem hp_upd {pre post : List Obj} {o : Obj} {f : Obj → Obj} {a : Nat} (ha : a = pre.length) : (hp (pre ++ o :: post)).update a f = hp (pre ++ f o :: post) := by
  subst ha
  show Heap.mk ((pre ++ o :: post).toArray.modify pre.length f) {} = Heap.mk (pre ++ f o :: post).toArray {}
  congr 1
  apply Array.ext'
  rw [Array.toList_modify]
  show (pre ++ o :: post).modify pre.length f = pre ++ f o :: post
  induction pre with
  | nil => simp [List.modify]
  | cons x r ih => simpa [List.modify] using ih
theorem dO_push (es : List DictEntry) (e : DictEntry) : (dO es).mapDictKeys (·.push e) = dO (es ++ [e]) := by
  simp [dO, Obj.mapDictKeys]
section
variable {p : Program} {w : World} {n₀ : Nat} {ann : Option Value} {c₀ : Code} {f₀ : Frame} {stk : List Frame} {α β : Type}
theorem gw_dictEntries {d : Addr} {part : Option Value} {es : List DictEntry} {Q : Array DictEntry → Shared → Prop} {s : Shared} (ho : s.heap.get? d = some (dO es)) (h : Q es.toArray s) :
    gw p w n₀ ann c₀ f₀ stk (0 + 1) (dictEntries d part) Q s := by
  unfold dictEntries
  exact gw_bind (gw_loadPart ho (gw_pure h))
theorem gw_dictEpoch {d : Addr} {part : Option Value} {es : List DictEntry} {Q : Nat → Shared → Prop} {s : Shared} (ho : s.heap.get? d = some (dO es)) (h : Q es.length s) :
    gw p w n₀ ann c₀ f₀ stk (0 + 1) (dictEpoch d part) Q s := by
  unfold dictEpoch
  exact gw_bind (gw_loadPart ho (gw_pure h))
theorem places_nil {es : List DictEntry} {h : Int} (hn : ∀ e ∈ es, e.hash ≠ h) : placesWithHash es.toArray.size (fun i => es.toArray[i]?.map (·.hash)) h = [] := by
  unfold placesWithHash
  rw [List.filter_eq_nil_iff]
  intro i hi
  simp only [List.size_toArray, List.mem_range] at hi
  simp [hi]
  exact hn _ (List.getElem_mem hi)
theorem gw_dictFind_none {d : Addr} {k : Int} {t : Tok} {h : Int} {es : List DictEntry} {Q : Option Nat → Shared → Prop} {s : Shared} (ho : s.heap.get? d = some (dO es)) (hn : ∀ e ∈ es, e.hash ≠ h) (hq : Q none s) :
    gw p w n₀ ann c₀ f₀ stk 1 (dictFind d (.int k t) h) Q s := by
  unfold dictFind
  refine gw_holding (gw_more (B := 0 + (0 + 1)) (gw_bind (gw_dictEntries ho ?_)) (by decide))
  dsimp only
  rw [places_nil hn]
  exact gw_pure hq
theorem gw_updateDictKeys {d : Addr} {part : Option Value} {es : List DictEntry} {e : DictEntry} {Q : Unit → Shared → Prop} {s : Shared} {pre post : List Obj} (hs : s.heap = hp (pre ++ dO es :: post)) (hd : d = pre.length) (hn : n₀ ≤ d) (hz : es.length < sizeLine)
    (h : Q () { s with heap := hp (pre ++ dO (es ++ [e]) :: post) }) : gw p w n₀ ann c₀ f₀ stk 3 (updateDictKeys d (·.push e) part) Q s := by
  have ho : s.heap.get? d = some (dO es) := by rw [hs]; exact hp_get hd
  have hu : s.heap.update d (Obj.mapDictKeys (·.push e)) = hp (pre ++ dO (es ++ [e]) :: post) := by rw [hs, hp_upd hd, dO_push]
  unfold updateDictKeys
  refine gw_more (B := 0 + 1 + 1 + 1) (gw_bind (gw_loadPart ho ?_)) (by decide)
  dsimp only [dO]
  refine gw_bind (gw_updatePart ho hn ?_)
  rw [hu]
  unfold lookBehind
  refine gw_bind (gw_loadPart (o := dO (es ++ [e])) (hp_get hd) ?_)
  have : (dO (es ++ [e])).data.pastItsLine = none := by
    unfold dO Data.pastItsLine
    dsimp only
    rw [if_neg]
    simp only [List.size_toArray, List.length_append, List.length_singleton]
    omega
  rw [this]
  exact gw_pure h
theorem gw_dictSet {d : Addr} {k : Int} {t : Tok} {v : Value} {es : List DictEntry} {Q : Unit → Shared → Prop} {s : Shared} {pre post : List Obj} (hs : s.heap = hp (pre ++ dO es :: post)) (hd : d = pre.length) (hn : n₀ ≤ d) (hz : es.length < sizeLine)
    (hk : ∀ e ∈ es, e.hash ≠ hashInt k) (h : Q () { s with heap := hp (pre ++ dO (es ++ [⟨hashInt k, .int k t, v⟩]) :: post), toks := s.toks + 1 }) : gw p w n₀ ann c₀ f₀ stk 10 (dictSet d (.int k t) v) Q s := by
  unfold dictSet
  refine gw_holding (gw_more (B := 3 + 1 + 1 + 5) (gw_bind (gw_pyHash ?_)) (by decide))
  unfold dictSetHashed
  refine gw_holding (gw_bind (gw_dictFind_none (es := es) ?_ hk ?_))
  · rw [hs]; exact hp_get hd
  · exact gw_bind (gw_rule (gw_updateDictKeys hs hd hn hz h))
theorem gw_dictPut {d : Addr} {e : DictEntry} {k : Int} {t : Tok} (he : e.key = .int k t) {es : List DictEntry} {Q : Unit → Shared → Prop} {s : Shared} {pre post : List Obj} (hs : s.heap = hp (pre ++ dO es :: post)) (hd : d = pre.length) (hn : n₀ ≤ d) (hz : es.length < sizeLine)
    (hk : ∀ x ∈ es, x.hash ≠ e.hash) (h : Q () { s with heap := hp (pre ++ dO (es ++ [e]) :: post) }) : gw p w n₀ ann c₀ f₀ stk 4 (dictPut d e.hash e.key e.val) Q s := by
  unfold dictPut
  refine gw_more (B := 3 + 1) (gw_bind ?_) (by decide)
  rw [he]
  refine gw_dictFind_none (es := es) (by rw [hs]; exact hp_get hd) hk ?_
  have : e = ⟨e.hash, .int k t, e.val⟩ := by rw [← he]
  rw [this] at h
  exact gw_updateDictKeys hs hd hn hz h
end
end Mine
end
-- part HG4
section
open PySem PySem.W PyProof.Rows
set_option maxRecDepth 100000
namespace Mine
noncomputable def ents : List (Int × Str) → Nat → List DictEntry
  | [], _ => []
  | q :: r, t => ⟨hashInt q.1, .int q.1 t, .str q.2 (t + 1)⟩ :: ents r (t + 3)
theorem ents_append : ∀ (a b : List (Int × Str)) (t : Nat), ents (a ++ b) t = ents a t ++ ents b (t + 3 * a.length)
  | [], b, t => by simp [ents]
  | q :: r, b, t => by
    simp only [List.cons_append, ents, ents_append r b, List.length_cons]
    rw [show t + 3 + 3 * r.length = t + 3 * (r.length + 1) by omega]
theorem ents_length : ∀ (a : List (Int × Str)) (t : Nat), (ents a t).length = a.length
  | [], _ => rfl
  | q :: r, t => by simp only [ents, List.length_cons, ents_length r]
theorem ents_hash : ∀ (a : List (Int × Str)) (t : Nat), ∀ e ∈ ents a t, ∃ q ∈ a, e.hash = hashInt q.1 ∧ ∃ u, e.key = .int q.1 u
  | [], t, e, h => by cases h
  | q :: r, t, e, h => by
    rcases List.mem_cons.mp h with rfl | h
    · exact ⟨q, .head _, rfl, _, rfl⟩
    · obtain ⟨q', m, z⟩ := ents_hash r _ e h
      exact ⟨q', .tail _ m, z⟩
section
variable {p : Program} {w : World} {n₀ : Nat} {ann : Option Value} {c₀ : Code} {f₀ : Frame} {stk : List Frame} {α β γ : Type}
theorem gw_forIn {B : Nat} {f : γ → PUnit → Sem (ForInStep PUnit)} {J : List γ → Shared → Prop} {Q : PUnit → Shared → Prop}
    (turn : ∀ x rest s, J (x :: rest) s → gw p w n₀ ann c₀ f₀ stk B (f x ⟨⟩) (fun r s' => r = .yield ⟨⟩ ∧ J rest s') s) (fin : ∀ s, J [] s → Q ⟨⟩ s) :
    ∀ (l : List γ) (s : Shared), J l s → gw p w n₀ ann c₀ f₀ stk (l.length * B) (forIn l PUnit.unit f) Q s
  | [], s, h => by
    rw [List.forIn_nil, List.length_nil, Nat.zero_mul]
    exact gw_pure (fin s h)
  | x :: l, s, h => by
    rw [List.forIn_cons, List.length_cons, Nat.add_mul, Nat.one_mul]
    refine gw_bind (gw_mono (turn x l s h) ?_)
    rintro r s' ⟨rfl, h'⟩
    exact gw_forIn turn fin l s' h'

noncomputable def it (pos : Pos) (q : Int × Str) : Sem Value × Sem Value := (mkInt q.1, do let x ← mkText q.2; standAt pos; pure x)
theorem gw_subDict_long {pos : Pos} {kvs : List (Int × Str)} {objs : List Obj} {s : Shared} {Q : Addr → Shared → Prop} (hs : s.heap = hp objs) (hn : n₀ ≤ objs.length) (h15 : 15 < kvs.length) (hz : kvs.length ≤ sizeLine)
    (hk : (kvs.map fun q => hashInt q.1).Pairwise (· ≠ ·)) (h : Q objs.length { s with heap := hp (objs ++ [dO (ents kvs s.toks)]), toks := s.toks + 3 * kvs.length }) :
    gw p w n₀ ann c₀ f₀ stk (kvs.length * 20 + 2) (subDict (kvs.map (it pos))) Q s := by
  unfold subDict
  refine gw_more (B := 0 + (0 + (kvs.map (it pos)).length * 20 + 1) + 1) (gw_bind (gw_alloc ?_)) (by rw [List.length_map]; omega)
  refine gw_bind (gw_holding ?_)
  rw [if_neg (by simp; omega)]
  refine gw_bind (gw_rule (gw_bind ?_))
  have ha : s.heap.objs.size = objs.length := by rw [hs, hp_size]
  refine gw_forIn (J := fun rest s' => ∃ dn kr, kvs = dn ++ kr ∧ rest = kr.map (it pos) ∧ s' = { s with heap := hp (objs ++ dO (ents dn s.toks) :: []), toks := s.toks + 3 * dn.length }) ?_ ?_ _ _
    ⟨[], kvs, rfl, rfl, by rw [hs, hp_push]; rfl⟩
  · rintro x rest s' ⟨dn, kr, e1, e2, rfl⟩
    obtain ⟨q, kr', rfl⟩ : ∃ q kr', kr = q :: kr' := by
      cases kr with
      | nil => cases e2
      | cons q kr' => exact ⟨q, kr', rfl⟩
    simp only [List.map_cons, List.cons.injEq] at e2
    obtain ⟨rfl, rfl⟩ := e2
    unfold it
    dsimp only
    refine gw_more (B := 0 + 10 + (0 + 1 + (0 + 1)) + (0 + 1)) (gw_bind (gw_mkInt ?_)) (by decide)
    refine gw_bind (gw_holding (gw_bind (gw_mkText (gw_bind (gw_standAt (gw_pure ?_))))))
    refine gw_bind (gw_holding (gw_dictSet (es := ents dn s.toks) (pre := objs) (post := []) rfl (by rw [ha]) (by rw [ha]; exact hn) ?_ ?_ ?_))
    · rw [ents_length]
      have := congrArg List.length e1
      simp only [List.length_append, List.length_cons] at this
      omega
    · intro e he
      obtain ⟨q', m, z, _⟩ := ents_hash _ _ e he
      rw [z]
      rw [e1, List.map_append, List.map_cons] at hk
      exact (List.pairwise_append.mp hk).2.2 _ (List.mem_map_of_mem m) _ (.head _)
    · refine gw_pure ⟨rfl, dn ++ [q], kr', by rw [e1]; simp, rfl, ?_⟩
      rw [ents_append]
      simp only [ents, List.length_append, List.length_singleton]
      congr 1
  · rintro s' ⟨dn, kr, e1, e2, rfl⟩
    have : kr = [] := by simpa using e2.symm
    subst this
    rw [List.append_nil] at e1
    subst e1
    refine gw_pure (gw_pure ?_)
    rw [ha]
    exact h
end
end Mine
end
-- part HG5
section
open PySem PySem.W PyProof.Rows
set_option maxRecDepth 100000
namespace Mine
section
variable {p : Program} {w : World} {n₀ : Nat} {ann : Option Value} {c₀ : Code} {f₀ : Frame} {stk : List Frame} {α β γ : Type}
theorem gw_typeOf_dict {d : Addr} {es : List DictEntry} {Q : Value → Shared → Prop} {s : Shared} (ho : s.heap.get? d = some (dO es)) (h : Q (.type "dict") s) : gw p w n₀ ann c₀ f₀ stk (0 + 1) (typeOf (.ref d)) Q s := by
  unfold typeOf
  exact gw_bind (gw_loadPart ho (gw_pure h))
theorem gw_isInstance_dict {d : Addr} {es : List DictEntry} {Q : Bool → Shared → Prop} {s : Shared} (ho : s.heap.get? d = some (dO es)) (h : Q true s) : gw p w n₀ ann c₀ f₀ stk (0 + (0 + 1)) (isInstance (.ref d) (.type "dict")) Q s := by
  unfold isInstance
  refine gw_bind (gw_typeOf_dict ho ?_)
  rw [isSubtype_dict_dict]
  exact gw_pure h
theorem gw_special_iter {d : Addr} {es : List DictEntry} {Q : Option Value → Shared → Prop} {s : Shared} (ho : s.heap.get? d = some (dO es)) (h : Q (some (.builtin "dict.__iter__")) s) : gw p w n₀ ann c₀ f₀ stk (0 + (0 + 1)) (specialOf (.ref d) "__iter__") Q s := by
  unfold specialOf
  refine gw_bind (gw_typeOf_dict ho ?_)
  rw [F.slot_dict_iter.lookup]
  exact gw_pure h
theorem gw_merge {d a : Addr} {es fs : List DictEntry} {pre mid post : List Obj} {s : Shared} {Q : Unit → Shared → Prop} (hs : s.heap = hp (pre ++ dO es :: (mid ++ dO fs :: post))) (hd : d = pre.length) (ha : a = pre.length + 1 + mid.length)
    (hsm : (a == sysModules) = false) (hn : n₀ ≤ d) (he : es ≠ []) (hz : es.length + fs.length ≤ sizeLine) (hf : ∀ e ∈ fs, ∃ k t, e.key = .int k t) (hk : (es ++ fs).Pairwise fun x y => x.hash ≠ y.hash)
    (h : Q () { s with heap := hp (pre ++ dO (es ++ fs) :: (mid ++ dO fs :: post)) }) : gw p w n₀ ann c₀ f₀ stk (fs.length * 7 + 10) (mergeMapping d (.ref a) false) Q s := by
  have ga : ∀ es', (hp (pre ++ dO es' :: (mid ++ dO fs :: post))).get? a = some (dO fs) := fun es' => by
    have : pre ++ dO es' :: (mid ++ dO fs :: post) = (pre ++ dO es' :: mid) ++ dO fs :: post := by simp
    rw [this]
    exact hp_get (by rw [ha]; simp; omega)
  have gd : s.heap.get? d = some (dO es) := by rw [hs]; exact hp_get hd
  have g0 : s.heap.get? a = some (dO fs) := by rw [hs]; exact ga es
  unfold mergeMapping
  refine gw_more (B := (0 + (List.range fs.length).length * 7) + (0 + 1) + (0 + 1) + (0 + 1) + 0 + (0 + (0 + 1)) + (0 + (0 + 1))) (gw_bind (gw_isInstance_dict g0 ?_)) (by rw [List.length_range]; omega)
  dsimp only
  rw [if_pos rfl]
  refine gw_bind (gw_special_iter g0 (gw_bind (gw_pure ?_)))
  rw [beq_self_eq_true]
  dsimp only
  rw [hsm, if_neg Bool.false_ne_true]
  refine gw_bind (gw_dictEntries gd ?_)
  rw [if_neg (by simpa using he)]
  refine gw_bind (gw_dictEntries g0 ?_)
  refine gw_bind (gw_dictEpoch g0 ?_)
  rw [List.size_toArray]
  refine gw_bind ?_
  refine gw_forIn (J := fun rest s' => ∃ dn, List.range fs.length = List.range dn ++ rest ∧ dn ≤ fs.length ∧ s' = { s with heap := hp (pre ++ dO (es ++ fs.take dn) :: (mid ++ dO fs :: post)) }) ?_ ?_ _ _
    ⟨0, by rw [List.range_zero]; rfl, Nat.zero_le _, by rw [List.take_zero, List.append_nil, ← hs]⟩
  · rintro x rest s' ⟨dn, e1, le, rfl⟩
    have hlen := congrArg List.length e1
    simp only [List.length_range, List.length_append, List.length_cons] at hlen
    have hx : x = dn := by
      have := congrArg (·[dn]?) e1
      simp [show dn < fs.length by omega] at this
      exact this.symm
    subst hx
    have hlt : x < fs.length := by omega
    refine gw_more (B := 0 + (0 + 1) + 4 + (0 + 1)) (gw_bind (gw_dictEntries (ga _) ?_)) (by decide)
    rw [List.getElem?_toArray, List.getElem?_eq_getElem hlt]
    dsimp only
    simp only [Bool.false_eq_true, if_false]
    obtain ⟨k, t, hkey⟩ := hf fs[x] (List.getElem_mem hlt)
    have hsplit : es ++ fs = (es ++ fs.take x) ++ fs[x] :: fs.drop (x + 1) := by
      rw [List.append_assoc, ← List.drop_eq_getElem_cons hlt, List.take_append_drop]
    refine gw_bind (gw_holding (gw_dictPut hkey (es := es ++ fs.take x) (pre := pre) (post := mid ++ dO fs :: post) rfl hd hn ?_ ?_ ?_))
    · rw [List.length_append, List.length_take]; omega
    · intro y hy
      rw [hsplit] at hk
      exact (List.pairwise_append.mp hk).2.2 _ hy _ (.head _)
    · refine gw_bind (gw_dictEpoch (ga _) ?_)
      rw [if_neg (by simp)]
      refine gw_pure ⟨rfl, x + 1, ?_, hlt, ?_⟩
      · rw [e1, List.range_succ, List.append_assoc]; rfl
      · rw [List.take_succ_eq_append_getElem hlt, List.append_assoc]
  · rintro s' ⟨dn, e1, le, rfl⟩
    have := congrArg List.length e1
    simp only [List.length_range, List.length_append, List.length_nil] at this
    rw [show fs.take dn = fs by rw [List.take_of_length_le (by omega)]]
    exact gw_pure h
end
end Mine
end
-- part HG6
section
open PySem PySem.W PyProof.Rows
set_option maxRecDepth 100000
namespace Mine
noncomputable abbrev Pr := Sem Value × Sem Value
noncomputable def flushM (run : List Pr) (main : Option Addr) : Sem (Option Addr) :=
  if run.isEmpty then pure main else
  match main with
  | none => do let d ← subDict run; pure (some d)
  | some d => do
    let sub ← holding [.ref d] (subDict run)
    (holding [.ref d, .ref sub] (mergeMapping d (.ref sub) false)).onRaise fun x => do let _ ← holding [.ref d, x] (runValue (.builtin "proto.let_go" {}))
    pure (some d)
noncomputable abbrev DF := (Option (Sem Value) × Sem Value) → (Option Addr × List Pr) → Sem (ForInStep (Option Addr × List Pr))
noncomputable def opt (p : Pr) : Option (Sem Value) × Sem Value := (some p.1, p.2)
theorem forIn_chunk (f : DF) (h16 : ∀ (p : Pr) (run : List Pr) (m : Option Addr), run.length + 1 < 17 → f (opt p) (m, run) = pure (.yield (m, run ++ [p])))
    (h17 : ∀ (p : Pr) (run : List Pr) (m : Option Addr), run.length + 1 = 17 → f (opt p) (m, run) = (do let m' ← flushM (run ++ [p]) m; pure (.yield (m', [])))) (rest : List (Option (Sem Value) × Sem Value)) (m : Option Addr) :
    ∀ (c run : List Pr), run.length + c.length = 17 → c ≠ [] → forIn (c.map opt ++ rest) (m, run) f = (do let m' ← flushM (run ++ c) m; forIn rest (m', []) f)
  | [], _, _, h => absurd rfl h
  | [q], run, h, _ => by
    simp only [List.map_cons, List.map_nil, List.cons_append, List.nil_append, List.forIn_cons]
    rw [h17 q run m (by simpa using h), bind_assoc]
    simp
  | q :: q' :: r, run, h, _ => by
    simp only [List.map_cons, List.cons_append, List.forIn_cons]
    rw [h16 q run m (by simp only [List.length_cons] at h; omega), pure_bind]
    have := forIn_chunk f h16 h17 rest m (q' :: r) (run ++ [q]) (by simp only [List.length_cons, List.length_append, List.length_nil] at h ⊢; omega) (by simp)
    simp only [List.map_cons, List.cons_append, List.append_assoc, List.nil_append, List.forIn_cons] at this
    exact this
theorem forIn_last (f : DF) (h16 : ∀ (p : Pr) (run : List Pr) (m : Option Addr), run.length + 1 < 17 → f (opt p) (m, run) = pure (.yield (m, run ++ [p]))) (m : Option Addr) :
    ∀ (c run : List Pr), run.length + c.length < 17 → forIn (c.map opt) (m, run) f = pure (m, run ++ c)
  | [], run, _ => by simp
  | q :: r, run, h => by
    simp only [List.map_cons, List.forIn_cons]
    rw [h16 q run m (by simp only [List.length_cons] at h; omega), pure_bind]
    have := forIn_last f h16 m r (run ++ [q]) (by simp only [List.length_cons, List.length_append, List.length_nil] at h ⊢; omega)
    simpa using this
noncomputable def showD : List (List Pr) → List Pr → Option Addr → Sem (Option Addr)
  | [], l, m => flushM l m
  | c :: r, l, m => do let m' ← flushM c m; showD r l m'
theorem forIn_show {γ : Type} (k : Option Addr → Sem γ) (f : DF) (h16 : ∀ (p : Pr) (run : List Pr) (m : Option Addr), run.length + 1 < 17 → f (opt p) (m, run) = pure (.yield (m, run ++ [p])))
    (h17 : ∀ (p : Pr) (run : List Pr) (m : Option Addr), run.length + 1 = 17 → f (opt p) (m, run) = (do let m' ← flushM (run ++ [p]) m; pure (.yield (m', [])))) (l : List Pr) (hl : l.length < 17) :
    ∀ (cs : List (List Pr)) (m : Option Addr), (∀ c ∈ cs, c.length = 17) → (do let s ← forIn ((cs.flatten ++ l).map opt) (m, ([] : List Pr)) f; let d ← flushM s.2 s.1; k d) = (showD cs l m >>= k)
  | [], m, _ => by
    rw [List.flatten_nil, List.nil_append, forIn_last f h16 m l [] (by simpa using hl)]
    simp [showD]
  | c :: cs, m, hc => by
    have hn : c.length = 17 := hc c (.head _)
    rw [List.flatten_cons, List.append_assoc, List.map_append, forIn_chunk f h16 h17 _ m c [] (by simpa using hn) (by intro e; rw [e] at hn; cases hn)]
    simp only [List.nil_append, bind_assoc, showD]
    congr 1
    funext m'
    exact forIn_show k f h16 h17 l hl cs m' fun c' h' => hc c' (.tail _ h')
theorem dictDisplay_chunks (l : List Pr) (hl : l.length < 17) (cs : List (List Pr)) (hc : ∀ c ∈ cs, c.length = 17) :
    dictDisplay ((cs.flatten ++ l).map opt) = (do match ← showD cs l none with | some d => pure (.ref d) | none => newDict) := by
  unfold dictDisplay
  dsimp only
  refine forIn_show (fun d => match d with | some d => pure (.ref d) | none => newDict) _ ?_ ?_ l hl cs none hc
  · intro p run m h
    have hne : ((run ++ [(p.1, p.2)]).length == 17) = false := by simp; omega
    simp only [opt, hne, Bool.false_eq_true, if_false]
  · intro p run m h
    have hne : ((run ++ [(p.1, p.2)]).length == 17) = true := by simp; omega
    simp only [opt, hne, if_true]
    rfl
end Mine
end
-- part HG7
section
open PySem PySem.W PyProof.Rows
set_option maxRecDepth 100000
namespace Mine
noncomputable def entsS : List (Int × Str) → Nat → List DictEntry
  | [], _ => []
  | q :: r, t => ⟨hashInt q.1, .int q.1 t, .str q.2 (t + 1)⟩ :: entsS r (t + 2)
theorem entsS_append : ∀ (a b : List (Int × Str)) (t : Nat), entsS (a ++ b) t = entsS a t ++ entsS b (t + 2 * a.length)
  | [], b, t => by simp [entsS]
  | q :: r, b, t => by
    simp only [List.cons_append, entsS, entsS_append r b, List.length_cons]
    rw [show t + 2 + 2 * r.length = t + 2 * (r.length + 1) by omega]
theorem entsS_length : ∀ (a : List (Int × Str)) (t : Nat), (entsS a t).length = a.length
  | [], _ => rfl
  | q :: r, t => by simp only [entsS, List.length_cons, entsS_length r]
theorem entsS_hash : ∀ (a : List (Int × Str)) (t : Nat), ∀ e ∈ entsS a t, ∃ q ∈ a, e.hash = hashInt q.1 ∧ ∃ u, e.key = .int q.1 u
  | [], t, e, h => by cases h
  | q :: r, t, e, h => by
    rcases List.mem_cons.mp h with rfl | h
    · exact ⟨q, .head _, rfl, _, rfl⟩
    · obtain ⟨q', m, z⟩ := entsS_hash r _ e h
      exact ⟨q', .tail _ m, z⟩
theorem ents_hashes : ∀ (a : List (Int × Str)) (t : Nat), (ents a t).map (·.hash) = a.map fun q => hashInt q.1
  | [], _ => rfl
  | q :: r, t => by simp only [ents, List.map_cons, ents_hashes r]
theorem entsS_hashes : ∀ (a : List (Int × Str)) (t : Nat), (entsS a t).map (·.hash) = a.map fun q => hashInt q.1
  | [], _ => rfl
  | q :: r, t => by simp only [entsS, List.map_cons, entsS_hashes r]
noncomputable def valsS : List (Int × Str) → Nat → List (Value × Value)
  | [], _ => []
  | q :: r, t => (.int q.1 t, .str q.2 (t + 1)) :: valsS r (t + 2)
section
variable {p : Program} {w : World} {n₀ : Nat} {ann : Option Value} {c₀ : Code} {f₀ : Frame} {stk : List Frame} {α β γ : Type}
theorem gw_evalPairs {pos : Pos} : ∀ (kvs : List (Int × Str)) (s : Shared) (Q : List (Value × Value) → Shared → Prop), Q (valsS kvs s.toks) { s with toks := s.toks + 2 * kvs.length } →
    gw p w n₀ ann c₀ f₀ stk (kvs.length * 10) (evalPairs (kvs.map (it pos))) Q s
  | [], s, Q, h => gw_pure h
  | q :: r, s, Q, h => by
    unfold it
    simp only [List.map_cons]
    unfold evalPairs
    refine gw_more (B := 0 + r.length * 10 + (0 + 1 + (0 + 1)) + (0 + 1)) (gw_bind (gw_mkInt ?_)) (by simp only [List.length_cons]; omega)
    refine gw_bind (gw_holding (gw_bind (gw_mkText (gw_bind (gw_standAt (gw_pure ?_))))))
    refine gw_bind (gw_holding ?_)
    refine gw_evalPairs r _ _ (gw_pure ?_)
    have e : s.toks + 1 + 1 + 2 * r.length = s.toks + 2 * (q :: r).length := by simp only [List.length_cons]; omega
    dsimp only
    rw [e]
    exact h
theorem gw_subDict_short {pos : Pos} {kvs : List (Int × Str)} {objs : List Obj} {s : Shared} {Q : Addr → Shared → Prop} (hs : s.heap = hp objs) (hn : n₀ ≤ objs.length) (h15 : kvs.length ≤ 15)
    (hk : (kvs.map fun q => hashInt q.1).Pairwise (· ≠ ·)) (h : Q objs.length { s with heap := hp (objs ++ [dO (entsS kvs s.toks)]), toks := s.toks + 3 * kvs.length }) :
    gw p w n₀ ann c₀ f₀ stk (kvs.length * 20 + 2) (subDict (kvs.map (it pos))) Q s := by
  unfold subDict
  have hvl : ∀ (a : List (Int × Str)) t, (valsS a t).length = a.length := by
    intro a
    induction a with
    | nil => intro t; rfl
    | cons q r ih => intro t; simp only [valsS, List.length_cons, ih]
  refine gw_more (B := 0 + (0 + (valsS kvs s.toks).length * 10 + kvs.length * 10) + 1) (gw_bind (gw_alloc ?_)) (by rw [hvl]; omega)
  refine gw_bind (gw_holding ?_)
  rw [if_pos (by rw [List.length_map]; exact h15)]
  refine gw_bind (gw_evalPairs kvs _ _ ?_)
  have ha : s.heap.objs.size = objs.length := by rw [hs, hp_size]
  refine gw_holding (gw_bind ?_)
  have hvs : ∀ (a b : List (Int × Str)) t, valsS (a ++ b) t = valsS a t ++ valsS b (t + 2 * a.length) := by
    intro a
    induction a with
    | nil => intro b t; simp [valsS]
    | cons q r ih =>
      intro b t
      simp only [List.cons_append, valsS, ih, List.length_cons]
      rw [show t + 2 + 2 * r.length = t + 2 * (r.length + 1) by omega]
  refine gw_forIn (J := fun rest s' => ∃ dn kr, kvs = dn ++ kr ∧ rest = valsS kr (s.toks + 2 * dn.length) ∧ s' = { s with heap := hp (objs ++ dO (entsS dn s.toks) :: []), toks := s.toks + 2 * kvs.length + dn.length }) ?_ ?_ _ _
    ⟨[], kvs, rfl, rfl, by rw [hs, hp_push]; rfl⟩
  · rintro x rest s' ⟨dn, kr, e1, e2, rfl⟩
    obtain ⟨q, kr', rfl⟩ : ∃ q kr', kr = q :: kr' := by
      cases kr with
      | nil => cases e2
      | cons q kr' => exact ⟨q, kr', rfl⟩
    simp only [valsS, List.cons.injEq] at e2
    obtain ⟨rfl, rfl⟩ := e2
    dsimp only
    have hlen := congrArg List.length e1
    simp only [List.length_append, List.length_cons] at hlen
    refine gw_more (B := 0 + 10) (gw_bind (gw_dictSet (es := entsS dn s.toks) (pre := objs) (post := []) rfl (by rw [ha]) (by rw [ha]; exact hn) ?_ ?_ ?_)) (by decide)
    · rw [entsS_length, sizeLine_eq]
      omega
    · intro e he
      obtain ⟨q', m, z, _⟩ := entsS_hash _ _ e he
      rw [z]
      rw [e1, List.map_append, List.map_cons] at hk
      exact (List.pairwise_append.mp hk).2.2 _ (List.mem_map_of_mem m) _ (.head _)
    · refine gw_pure ⟨rfl, dn ++ [q], kr', by rw [e1]; simp, ?_, ?_⟩
      · rw [List.length_append, List.length_singleton, Nat.mul_add, ← Nat.add_assoc]
      · rw [entsS_append]
        simp only [entsS, List.length_append, List.length_singleton]
        congr 1
  · rintro s' ⟨dn, kr, e1, e2, rfl⟩
    have : kr = [] := by
      cases kr with
      | nil => rfl
      | cons q r => cases e2
    subst this
    rw [List.append_nil] at e1
    subst e1
    refine gw_pure (gw_pure ?_)
    rw [ha]
    rw [show s.toks + 2 * kvs.length + kvs.length = s.toks + 3 * kvs.length by omega]
    exact h
noncomputable def subsOf : List (List (Int × Str)) → Nat → List Obj
  | [], _ => []
  | c :: r, t => dO (ents c t) :: subsOf r (t + 3 * c.length)
theorem gw_flush {pos : Pos} {c : List (Int × Str)} {fs es : List DictEntry} {t' : Nat} {objs subs : List Obj} {s : Shared} {Q : Option Addr → Shared → Prop} (hc : c ≠ []) (hs : s.heap = hp (objs ++ dO es :: subs)) (hn : n₀ ≤ objs.length) (hsm : (1 : Nat) < objs.length)
    (he : es ≠ []) (hz : es.length + fs.length ≤ sizeLine) (hf : ∀ e ∈ fs, ∃ k t, e.key = .int k t) (hk : (es ++ fs).Pairwise fun x y => x.hash ≠ y.hash) (hl : fs.length ≤ 17)
    (sub : ∀ (Q : Addr → Shared → Prop), Q (objs ++ dO es :: subs).length { s with heap := hp ((objs ++ dO es :: subs) ++ [dO fs]), toks := t' } → gw p w n₀ ann c₀ f₀ stk 342 (subDict (c.map (it pos))) Q s)
    (h : Q (some objs.length) { s with heap := hp (objs ++ dO (es ++ fs) :: (subs ++ [dO fs])), toks := t' }) : gw p w n₀ ann c₀ f₀ stk 500 (flushM (c.map (it pos)) (some objs.length)) Q s := by
  unfold flushM
  rw [if_neg (by simpa using hc)]
  dsimp only
  refine gw_more (B := 0 + (fs.length * 7 + 10) + 342) (gw_bind (gw_holding (sub _ ?_))) (by omega)
  refine gw_bind (gw_onRaise (gw_holding (gw_merge (pre := objs) (es := es) (mid := subs) (post := []) (fs := fs) ?_ rfl ?_ ?_ hn he hz hf hk ?_)))
  · simp
  · show @Eq Nat _ _
    rw [List.length_append, List.length_cons]; omega
  · refine beq_eq_false_iff_ne.mpr (show @Ne Nat _ 1 from ?_)
    rw [List.length_append, List.length_cons]; omega
  · exact gw_pure h
theorem gw_showD {pos : Pos} {l : List (Int × Str)} (hl0 : l ≠ []) (hl : l.length ≤ 15) {objs : List Obj} (hn : n₀ ≤ objs.length) (hsm : (1 : Nat) < objs.length) :
    ∀ (cs : List (List (Int × Str))) (es : List DictEntry) (subs : List Obj) (s : Shared) (Q : Option Addr → Shared → Prop), (∀ c ∈ cs, c.length = 17) → s.heap = hp (objs ++ dO es :: subs) → es ≠ [] →
      es.length + cs.flatten.length + l.length ≤ sizeLine → ((es.map (·.hash)) ++ (cs.flatten ++ l).map fun q => hashInt q.1).Pairwise (· ≠ ·) →
      Q (some objs.length) { s with heap := hp (objs ++ dO (es ++ (ents cs.flatten s.toks ++ entsS l (s.toks + 3 * cs.flatten.length))) :: (subs ++ (subsOf cs s.toks ++ [dO (entsS l (s.toks + 3 * cs.flatten.length))]))), toks := s.toks + 3 * (cs.flatten.length + l.length) } →
      gw p w n₀ ann c₀ f₀ stk (cs.length * 500 + 500) (showD (cs.map fun c => c.map (it pos)) (l.map (it pos)) (some objs.length)) Q s
  | [], es, subs, s, Q, _, hs, he, hz, hk, h => by
    simp only [List.flatten_nil, List.nil_append, List.length_nil, Nat.mul_zero, Nat.add_zero, Nat.zero_add, ents, subsOf, Nat.zero_mul, List.map_nil, showD] at *
    have hpw : (es ++ entsS l s.toks).Pairwise fun x y => x.hash ≠ y.hash :=
      (List.pairwise_map (f := fun e : DictEntry => e.hash) (R := fun a b => a ≠ b)).mp (by rw [List.map_append, entsS_hashes]; exact hk)
    refine gw_flush (fs := entsS l s.toks) (subs := subs) (t' := s.toks + 3 * l.length) hl0 hs hn hsm he (by rw [entsS_length]; exact hz) (fun e h' => ?_) hpw (by rw [entsS_length]; omega) (fun Q' hq => ?_) h
    · obtain ⟨q, _, _, u, z⟩ := entsS_hash _ _ e h'
      exact ⟨_, u, z⟩
    · refine gw_more (gw_subDict_short hs (by simp; omega) hl ?_ hq) (by omega)
      exact (List.pairwise_append.mp hk).2.1
  | c :: cs, es, subs, s, Q, hc, hs, he, hz, hk, h => by
    have hn17 : c.length = 17 := hc c (.head _)
    simp only [List.flatten_cons, List.length_append, List.map_cons, List.map_append, List.append_assoc, List.length_cons, showD] at *
    have hk1 : ((es.map (·.hash)) ++ c.map fun q => hashInt q.1).Pairwise (· ≠ ·) := by
      rw [← List.append_assoc] at hk
      exact (List.pairwise_append.mp hk).1
    have hpw : (es ++ ents c s.toks).Pairwise fun x y => x.hash ≠ y.hash :=
      (List.pairwise_map (f := fun e : DictEntry => e.hash) (R := fun a b => a ≠ b)).mp (by rw [List.map_append, ents_hashes]; exact hk1)
    refine gw_more (B := (cs.length * 500 + 500) + 500) (gw_bind ?_) (by omega)
    refine gw_flush (fs := ents c s.toks) (subs := subs) (t' := s.toks + 3 * c.length) (by intro e; rw [e] at hn17; cases hn17) hs hn hsm he (by rw [ents_length]; omega) (fun e h' => ?_) hpw (by rw [ents_length]; omega) (fun Q' hq => ?_) ?_
    · obtain ⟨q, _, _, u, z⟩ := ents_hash _ _ e h'
      exact ⟨_, u, z⟩
    · refine gw_more (gw_subDict_long hs (by simp; omega) (by omega) (by rw [sizeLine_eq]; omega) ?_ hq) (by omega)
      exact (List.pairwise_append.mp hk1).2.1
    · refine gw_showD hl0 hl hn hsm cs (es ++ ents c s.toks) (subs ++ [dO (ents c s.toks)]) _ Q (fun c' h' => hc c' (.tail _ h')) rfl (by simp [he]) (by rw [List.length_append, ents_length]; omega) ?_ ?_
      · rw [List.map_append, ents_hashes, List.append_assoc, List.map_append]; exact hk
      · simp only [ents_append, subsOf, List.append_assoc, List.cons_append, List.nil_append] at h ⊢
        rw [show s.toks + 3 * c.length + 3 * cs.flatten.length = s.toks + 3 * (c.length + cs.flatten.length) by omega,
          show s.toks + 3 * c.length + 3 * (cs.flatten.length + l.length) = s.toks + 3 * (c.length + cs.flatten.length + l.length) by omega]
        exact h
end
end Mine
end
-- part HObjs
section
open PySem PySem.W PyProof.Rows
set_option maxRecDepth 100000
set_option maxHeartbeats 0
set_option linter.unusedVariables false
noncomputable section
namespace Mine
noncomputable def pw : Program := PySem.Challenge.pw_ti0027_01
noncomputable def bE : List Stmt := behindTheImports pw
noncomputable def stAt (i : Nat) : Stmt := bE.getD i (.Pass ⟨0, 0, 0, 0⟩)
noncomputable def fArgs (i : Nat) : Arguments := match stAt i with | .FunctionDef _ a _ _ _ _ _ _ _ _ => a | _ => default
noncomputable def fBody (i : Nat) : List Stmt := match stAt i with | .FunctionDef _ _ b _ _ _ _ _ _ _ => b | _ => []
noncomputable def fScope (i : Nat) : Scope := match stAt i with | .FunctionDef _ _ _ _ _ _ s _ _ _ => s | _ => default
noncomputable def b3ks : List (Option Expr) := match stAt 15 with | .Assign _ (.Dict ks _ _) _ => ks | _ => []
noncomputable def b3vs : List Expr := match stAt 15 with | .Assign _ (.Dict _ vs _) _ => vs | _ => []
noncomputable def b3pos : Pos := match stAt 15 with | .Assign _ (.Dict _ _ po) _ => po | _ => default
noncomputable def kOf : Option Expr → Int | some (.Constant (.int k) _ _) => k | _ => 0
noncomputable def vOf : Expr → Str | .Constant (.str x) _ _ => x | _ => default
noncomputable def b3kv : List (Int × Str) := (b3ks.zip b3vs).map fun q => (kOf q.1, vOf q.2)
noncomputable def b3c0 : List (Int × Str) := b3kv.take 17
noncomputable def b3cs : List (List (Int × Str)) := (List.range 37).map fun i => (b3kv.drop (17 * i + 17)).take 17
noncomputable def b3l : List (Int × Str) := b3kv.drop 646
noncomputable abbrev L : BT := BT.nil
noncomputable abbrev N (o : Obj) (a b : BT) : BT := BT.node o a b
@[reducible] noncomputable def o_1_0 (P : Params) : Obj := Obj.mk (Value.type "dict") none (Data.dict (List.toArray [DictEntry.mk (PyData.keyHash P (Str.mk #[98, 117, 105, 108, 116, 105, 110, 115])) (Value.str (Str.mk #[98, 117, 105, 108, 116, 105, 110, 115]) 162) (Value.ref 4), DictEntry.mk (PyData.keyHash P (Str.mk #[95, 95, 109, 97, 105, 110, 95, 95])) (Value.str (Str.mk #[95, 95, 109, 97, 105, 110, 95, 95]) 163) (Value.ref 5), DictEntry.mk (PyData.keyHash P (Str.mk #[95, 115, 114, 101])) (Value.str (Str.mk #[95, 115, 114, 101]) 244) (Value.ref 12)]) 3) (List.toArray [])
@[reducible] noncomputable def o_2_0 (P : Params) : Obj := Obj.mk Value.none none (Data.dict (List.toArray [DictEntry.mk (PyData.keyHash P (Str.mk #[105, 109, 112, 111, 114, 116, 46, 108, 111, 97, 100, 101, 100, 46, 95, 115, 114, 101])) (Value.str (Str.mk #[105, 109, 112, 111, 114, 116, 46, 108, 111, 97, 100, 101, 100, 46, 95, 115, 114, 101]) 183) (Value.bool true), DictEntry.mk (PyData.keyHash P (Str.mk #[99, 108, 97, 115, 115, 46, 95, 102, 114, 111, 122, 101, 110, 95, 105, 109, 112, 111, 114, 116, 108, 105, 98, 46, 66, 117, 105, 108, 116, 105, 110, 73, 109, 112, 111, 114, 116, 101, 114])) (Value.str (Str.mk #[99, 108, 97, 115, 115, 46, 95, 102, 114, 111, 122, 101, 110, 95, 105, 109, 112, 111, 114, 116, 108, 105, 98, 46, 66, 117, 105, 108, 116, 105, 110, 73, 109, 112, 111, 114, 116, 101, 114]) 185) (Value.ref 14), DictEntry.mk (PyData.keyHash P (Str.mk #[119, 97, 116, 99, 104, 101, 100, 46, 105, 109, 112, 111, 114, 116])) (Value.str (Str.mk #[119, 97, 116, 99, 104, 101, 100, 46, 105, 109, 112, 111, 114, 116]) 206) (Value.ref 18), DictEntry.mk (PyData.keyHash P (Str.mk #[99, 108, 97, 115, 115, 46, 95, 102, 114, 111, 122, 101, 110, 95, 105, 109, 112, 111, 114, 116, 108, 105, 98, 46, 77, 111, 100, 117, 108, 101, 83, 112, 101, 99])) (Value.str (Str.mk #[99, 108, 97, 115, 115, 46, 95, 102, 114, 111, 122, 101, 110, 95, 105, 109, 112, 111, 114, 116, 108, 105, 98, 46, 77, 111, 100, 117, 108, 101, 83, 112, 101, 99]) 216) (Value.ref 22), DictEntry.mk (PyData.keyHash P (Str.mk #[115, 121, 115, 46, 109, 111, 100, 117, 108, 101, 115, 46, 98, 111, 111, 107, 101, 100, 45, 101, 112, 111, 99, 104])) (Value.str (Str.mk #[115, 121, 115, 46, 109, 111, 100, 117, 108, 101, 115, 46, 98, 111, 111, 107, 101, 100, 45, 101, 112, 111, 99, 104]) 245) (Value.int (3) 0), DictEntry.mk (PyData.keyHash P (Str.mk #[105, 109, 112, 111, 114, 116, 46, 108, 97, 116, 101, 114, 45, 108, 97, 105, 100, 46, 95, 115, 114, 101])) (Value.str (Str.mk #[105, 109, 112, 111, 114, 116, 46, 108, 97, 116, 101, 114, 45, 108, 97, 105, 100, 46, 95, 115, 114, 101]) 270) (Value.bool true), DictEntry.mk (PyData.keyHash P (Str.mk #[119, 97, 116, 99, 104, 101, 100, 46, 108, 105, 98, 114, 97, 114, 121])) (Value.str (Str.mk #[119, 97, 116, 99, 104, 101, 100, 46, 108, 105, 98, 114, 97, 114, 121]) 272) (Value.ref 27), DictEntry.mk (PyData.keyHash P (Str.mk #[119, 97, 116, 99, 104, 101, 100, 46, 108, 105, 98, 114, 97, 114, 121, 45, 111, 98, 106, 101, 99, 116, 115])) (Value.str (Str.mk #[119, 97, 116, 99, 104, 101, 100, 46, 108, 105, 98, 114, 97, 114, 121, 45, 111, 98, 106, 101, 99, 116, 115]) 0) (Value.str (Str.mk #[12]) 0), DictEntry.mk (PyData.keyHash P (Str.mk #[119, 97, 116, 99, 104, 101, 100, 46, 108, 105, 98, 114, 97, 114, 121, 45, 100, 101, 101, 112, 46, 95, 115, 114, 101])) (Value.str (Str.mk #[119, 97, 116, 99, 104, 101, 100, 46, 108, 105, 98, 114, 97, 114, 121, 45, 100, 101, 101, 112, 46, 95, 115, 114, 101]) 273) (Value.str (Str.mk #[4, 0, 0, 11, 4, 0, 0, 11, 4, 0, 0, 3, 4, 0, 0, 11, 8, 4, 100, 105, 99, 116, 2]) 0)]) 9) (List.toArray [])
@[reducible] noncomputable def o_3_0 (P : Params) : Obj := Obj.mk (Value.type "dict") none (Data.dict (List.toArray [DictEntry.mk (PyData.keyHash P (Str.mk #[95, 95, 110, 97, 109, 101, 95, 95])) (Value.str (Str.mk #[95, 95, 110, 97, 109, 101, 95, 95]) 165) (Value.str (Str.mk #[95, 95, 109, 97, 105, 110, 95, 95]) 164), DictEntry.mk (PyData.keyHash P (Str.mk #[95, 95, 100, 111, 99, 95, 95])) (Value.str (Str.mk #[95, 95, 100, 111, 99, 95, 95]) 166) Value.none, DictEntry.mk (PyData.keyHash P (Str.mk #[95, 95, 112, 97, 99, 107, 97, 103, 101, 95, 95])) (Value.str (Str.mk #[95, 95, 112, 97, 99, 107, 97, 103, 101, 95, 95]) 167) Value.none, DictEntry.mk (PyData.keyHash P (Str.mk #[95, 95, 108, 111, 97, 100, 101, 114, 95, 95])) (Value.str (Str.mk #[95, 95, 108, 111, 97, 100, 101, 114, 95, 95]) 168) (Value.builtin "__main__.__loader__#opaque"), DictEntry.mk (PyData.keyHash P (Str.mk #[95, 95, 115, 112, 101, 99, 95, 95])) (Value.str (Str.mk #[95, 95, 115, 112, 101, 99, 95, 95]) 169) Value.none, DictEntry.mk (PyData.keyHash P (Str.mk #[95, 95, 97, 110, 110, 111, 116, 97, 116, 105, 111, 110, 115, 95, 95])) (Value.str (Str.mk #[95, 95, 97, 110, 110, 111, 116, 97, 116, 105, 111, 110, 115, 95, 95]) 170) (Value.ref 6), DictEntry.mk (PyData.keyHash P (Str.mk #[95, 95, 98, 117, 105, 108, 116, 105, 110, 115, 95, 95])) (Value.str (Str.mk #[95, 95, 98, 117, 105, 108, 116, 105, 110, 115, 95, 95]) 171) (Value.ref 4), DictEntry.mk (PyData.keyHash P (Str.mk #[95, 95, 102, 105, 108, 101, 95, 95])) (Value.str (Str.mk #[95, 95, 102, 105, 108, 101, 95, 95]) 173) (Value.str (Str.mk #[47, 99, 108, 97, 105, 109, 47, 99, 117, 116, 46, 112, 121]) 172), DictEntry.mk (PyData.keyHash P (Str.mk #[95, 95, 99, 97, 99, 104, 101, 100, 95, 95])) (Value.str (Str.mk #[95, 95, 99, 97, 99, 104, 101, 100, 95, 95]) 174) Value.none, DictEntry.mk (PyData.keyHash P (Str.mk #[95, 115, 114, 101])) (Value.str (Str.mk #[95, 115, 114, 101]) 275) (Value.ref 12)]) 10) (List.toArray [])
@[reducible] noncomputable def o_11_0 (P : Params) : Obj := Obj.mk (Value.type "dict") none (Data.dict (List.toArray [DictEntry.mk (PyData.keyHash P (Str.mk #[95, 95, 110, 97, 109, 101, 95, 95])) (Value.str (Str.mk #[95, 95, 110, 97, 109, 101, 95, 95]) 247) (Value.str (Str.mk #[95, 115, 114, 101]) 246), DictEntry.mk (PyData.keyHash P (Str.mk #[95, 95, 100, 111, 99, 95, 95])) (Value.str (Str.mk #[95, 95, 100, 111, 99, 95, 95]) 248) Value.none, DictEntry.mk (PyData.keyHash P (Str.mk #[95, 95, 112, 97, 99, 107, 97, 103, 101, 95, 95])) (Value.str (Str.mk #[95, 95, 112, 97, 99, 107, 97, 103, 101, 95, 95]) 250) (Value.str (Str.mk #[]) 249), DictEntry.mk (PyData.keyHash P (Str.mk #[95, 95, 108, 111, 97, 100, 101, 114, 95, 95])) (Value.str (Str.mk #[95, 95, 108, 111, 97, 100, 101, 114, 95, 95]) 251) (Value.builtin "off-the-table:_sre.__loader__:shared#opaque"), DictEntry.mk (PyData.keyHash P (Str.mk #[95, 95, 115, 112, 101, 99, 95, 95])) (Value.str (Str.mk #[95, 95, 115, 112, 101, 99, 95, 95]) 252) (Value.builtin "off-the-table:_sre.__spec__:shared#opaque"), DictEntry.mk (PyData.keyHash P (Str.mk #[99, 111, 109, 112, 105, 108, 101])) (Value.str (Str.mk #[99, 111, 109, 112, 105, 108, 101]) 253) (Value.builtin "_sre.compile"), DictEntry.mk (PyData.keyHash P (Str.mk #[116, 101, 109, 112, 108, 97, 116, 101])) (Value.str (Str.mk #[116, 101, 109, 112, 108, 97, 116, 101]) 254) (Value.builtin "off-the-table:_sre.template:shared#opaque"), DictEntry.mk (PyData.keyHash P (Str.mk #[103, 101, 116, 99, 111, 100, 101, 115, 105, 122, 101])) (Value.str (Str.mk #[103, 101, 116, 99, 111, 100, 101, 115, 105, 122, 101]) 255) (Value.builtin "off-the-table:_sre.getcodesize:shared#opaque"), DictEntry.mk (PyData.keyHash P (Str.mk #[97, 115, 99, 105, 105, 95, 105, 115, 99, 97, 115, 101, 100])) (Value.str (Str.mk #[97, 115, 99, 105, 105, 95, 105, 115, 99, 97, 115, 101, 100]) 256) (Value.builtin "off-the-table:_sre.ascii_iscased:shared#opaque"), DictEntry.mk (PyData.keyHash P (Str.mk #[117, 110, 105, 99, 111, 100, 101, 95, 105, 115, 99, 97, 115, 101, 100])) (Value.str (Str.mk #[117, 110, 105, 99, 111, 100, 101, 95, 105, 115, 99, 97, 115, 101, 100]) 257) (Value.builtin "off-the-table:_sre.unicode_iscased:shared#opaque"), DictEntry.mk (PyData.keyHash P (Str.mk #[97, 115, 99, 105, 105, 95, 116, 111, 108, 111, 119, 101, 114])) (Value.str (Str.mk #[97, 115, 99, 105, 105, 95, 116, 111, 108, 111, 119, 101, 114]) 258) (Value.builtin "off-the-table:_sre.ascii_tolower:shared#opaque"), DictEntry.mk (PyData.keyHash P (Str.mk #[117, 110, 105, 99, 111, 100, 101, 95, 116, 111, 108, 111, 119, 101, 114])) (Value.str (Str.mk #[117, 110, 105, 99, 111, 100, 101, 95, 116, 111, 108, 111, 119, 101, 114]) 259) (Value.builtin "off-the-table:_sre.unicode_tolower:shared#opaque"), DictEntry.mk (PyData.keyHash P (Str.mk #[77, 65, 71, 73, 67])) (Value.str (Str.mk #[77, 65, 71, 73, 67]) 261) (Value.int (20230612) 260), DictEntry.mk (PyData.keyHash P (Str.mk #[67, 79, 68, 69, 83, 73, 90, 69])) (Value.str (Str.mk #[67, 79, 68, 69, 83, 73, 90, 69]) 263) (Value.int (4) 262), DictEntry.mk (PyData.keyHash P (Str.mk #[77, 65, 88, 82, 69, 80, 69, 65, 84])) (Value.str (Str.mk #[77, 65, 88, 82, 69, 80, 69, 65, 84]) 265) (Value.int (4294967295) 264), DictEntry.mk (PyData.keyHash P (Str.mk #[77, 65, 88, 71, 82, 79, 85, 80, 83])) (Value.str (Str.mk #[77, 65, 88, 71, 82, 79, 85, 80, 83]) 267) (Value.int (1073741823) 266), DictEntry.mk (PyData.keyHash P (Str.mk #[99, 111, 112, 121, 114, 105, 103, 104, 116])) (Value.str (Str.mk #[99, 111, 112, 121, 114, 105, 103, 104, 116]) 269) (Value.str (Str.mk #[32, 83, 82, 69, 32, 50, 46, 50, 46, 50, 32, 67, 111, 112, 121, 114, 105, 103, 104, 116, 32, 40, 99, 41, 32, 49, 57, 57, 55, 45, 50, 48, 48, 50, 32, 98, 121, 32, 83, 101, 99, 114, 101, 116, 32, 76, 97, 98, 115, 32, 65, 66, 32]) 268)]) 17) (List.toArray [])
@[reducible] noncomputable def o_12_0 (P : Params) : Obj := Obj.mk (Value.type "module") (some 11) (Data.plain) (List.toArray [])
@[reducible] noncomputable def o_13_0 (P : Params) : Obj := Obj.mk (Value.type "dict") none (Data.dict (List.toArray [DictEntry.mk (PyData.keyHash P (Str.mk #[95, 95, 109, 111, 100, 117, 108, 101, 95, 95])) (Value.str (Str.mk #[95, 95, 109, 111, 100, 117, 108, 101, 95, 95]) 189) (Value.str (Str.mk #[95, 102, 114, 111, 122, 101, 110, 95, 105, 109, 112, 111, 114, 116, 108, 105, 98]) 186), DictEntry.mk (PyData.keyHash P (Str.mk #[95, 95, 102, 105, 114, 115, 116, 108, 105, 110, 101, 110, 111, 95, 95])) (Value.str (Str.mk #[95, 95, 102, 105, 114, 115, 116, 108, 105, 110, 101, 110, 111, 95, 95]) 190) (Value.int (971) 187), DictEntry.mk (PyData.keyHash P (Str.mk #[95, 95, 100, 111, 99, 95, 95])) (Value.str (Str.mk #[95, 95, 100, 111, 99, 95, 95]) 191) (Value.builtin "_frozen_importlib.BuiltinImporter.__doc__:str#opaque"), DictEntry.mk (PyData.keyHash P (Str.mk #[95, 79, 82, 73, 71, 73, 78])) (Value.str (Str.mk #[95, 79, 82, 73, 71, 73, 78]) 192) (Value.str (Str.mk #[98, 117, 105, 108, 116, 45, 105, 110]) 188), DictEntry.mk (PyData.keyHash P (Str.mk #[102, 105, 110, 100, 95, 115, 112, 101, 99])) (Value.str (Str.mk #[102, 105, 110, 100, 95, 115, 112, 101, 99]) 193) (Value.builtin "_frozen_importlib.BuiltinImporter.find_spec#opaque"), DictEntry.mk (PyData.keyHash P (Str.mk #[99, 114, 101, 97, 116, 101, 95, 109, 111, 100, 117, 108, 101])) (Value.str (Str.mk #[99, 114, 101, 97, 116, 101, 95, 109, 111, 100, 117, 108, 101]) 194) (Value.builtin "_frozen_importlib.BuiltinImporter.create_module#opaque"), DictEntry.mk (PyData.keyHash P (Str.mk #[101, 120, 101, 99, 95, 109, 111, 100, 117, 108, 101])) (Value.str (Str.mk #[101, 120, 101, 99, 95, 109, 111, 100, 117, 108, 101]) 195) (Value.builtin "_frozen_importlib.BuiltinImporter.exec_module#opaque"), DictEntry.mk (PyData.keyHash P (Str.mk #[103, 101, 116, 95, 99, 111, 100, 101])) (Value.str (Str.mk #[103, 101, 116, 95, 99, 111, 100, 101]) 196) (Value.builtin "_frozen_importlib.BuiltinImporter.get_code#opaque"), DictEntry.mk (PyData.keyHash P (Str.mk #[103, 101, 116, 95, 115, 111, 117, 114, 99, 101])) (Value.str (Str.mk #[103, 101, 116, 95, 115, 111, 117, 114, 99, 101]) 197) (Value.builtin "_frozen_importlib.BuiltinImporter.get_source#opaque"), DictEntry.mk (PyData.keyHash P (Str.mk #[105, 115, 95, 112, 97, 99, 107, 97, 103, 101])) (Value.str (Str.mk #[105, 115, 95, 112, 97, 99, 107, 97, 103, 101]) 198) (Value.builtin "_frozen_importlib.BuiltinImporter.is_package#opaque"), DictEntry.mk (PyData.keyHash P (Str.mk #[108, 111, 97, 100, 95, 109, 111, 100, 117, 108, 101])) (Value.str (Str.mk #[108, 111, 97, 100, 95, 109, 111, 100, 117, 108, 101]) 199) (Value.builtin "_frozen_importlib.BuiltinImporter.load_module#opaque"), DictEntry.mk (PyData.keyHash P (Str.mk #[95, 95, 115, 116, 97, 116, 105, 99, 95, 97, 116, 116, 114, 105, 98, 117, 116, 101, 115, 95, 95])) (Value.str (Str.mk #[95, 95, 115, 116, 97, 116, 105, 99, 95, 97, 116, 116, 114, 105, 98, 117, 116, 101, 115, 95, 95]) 200) (Value.ref 15), DictEntry.mk (PyData.keyHash P (Str.mk #[95, 95, 100, 105, 99, 116, 95, 95])) (Value.str (Str.mk #[95, 95, 100, 105, 99, 116, 95, 95]) 202) (Value.ref 16), DictEntry.mk (PyData.keyHash P (Str.mk #[95, 95, 119, 101, 97, 107, 114, 101, 102, 95, 95])) (Value.str (Str.mk #[95, 95, 119, 101, 97, 107, 114, 101, 102, 95, 95]) 204) (Value.ref 17)]) 14) (List.toArray [])
@[reducible] noncomputable def o_14_0 (P : Params) : Obj := Obj.mk (Value.type "type") none (Data.cls (ClassData.mk (Str.mk #[66, 117, 105, 108, 116, 105, 110, 73, 109, 112, 111, 114, 116, 101, 114]) [(Value.type "object")] [(Value.ref 14), (Value.type "object")] 13 (Str.mk #[66, 117, 105, 108, 116, 105, 110, 73, 109, 112, 111, 114, 116, 101, 114]) true [] [] false none false)) (List.toArray [])
@[reducible] noncomputable def o_15_0 (P : Params) : Obj := Obj.mk (Value.type "tuple") none (Data.seq (List.toArray []) 0) (List.toArray [])
@[reducible] noncomputable def o_16_0 (P : Params) : Obj := Obj.mk (Value.type "getset_descriptor") none (Data.fields (List.toArray [(Value.str (Str.mk #[95, 95, 100, 105, 99, 116, 95, 95]) 201), (Value.ref 14), (Value.builtin "function.__dict__"), (Value.builtin "function.__dict__#set")])) (List.toArray [])
@[reducible] noncomputable def o_17_0 (P : Params) : Obj := Obj.mk (Value.type "getset_descriptor") none (Data.fields (List.toArray [(Value.str (Str.mk #[95, 95, 119, 101, 97, 107, 114, 101, 102, 95, 95]) 203), (Value.ref 14), (Value.builtin "ExceptionGroup.__weakref__"), Value.none])) (List.toArray [])
@[reducible] noncomputable def o_18_0 (P : Params) : Obj := Obj.mk Value.none none (Data.seq (List.toArray [(Value.int (13) 0), (Value.str (Str.mk #[6, 189, 10, 95, 95, 109, 111, 100, 117, 108, 101, 95, 95, 6, 186, 17, 95, 102, 114, 111, 122, 101, 110, 95, 105, 109, 112, 111, 114, 116, 108, 105, 98, 6, 190, 15, 95, 95, 102, 105, 114, 115, 116, 108, 105, 110, 101, 110, 111, 95, 95, 4, 187, 0, 971, 6, 191, 7, 95, 95, 100, 111, 99, 95, 95, 9, 52, 95, 102, 114, 111, 122, 101, 110, 95, 105, 109, 112, 111, 114, 116, 108, 105, 98, 46, 66, 117, 105, 108, 116, 105, 110, 73, 109, 112, 111, 114, 116, 101, 114, 46, 95, 95, 100, 111, 99, 95, 95, 58, 115, 116, 114, 35, 111, 112, 97, 113, 117, 101, 6, 192, 7, 95, 79, 82, 73, 71, 73, 78, 6, 188, 8, 98, 117, 105, 108, 116, 45, 105, 110, 6, 193, 9, 102, 105, 110, 100, 95, 115, 112, 101, 99, 9, 50, 95, 102, 114, 111, 122, 101, 110, 95, 105, 109, 112, 111, 114, 116, 108, 105, 98, 46, 66, 117, 105, 108, 116, 105, 110, 73, 109, 112, 111, 114, 116, 101, 114, 46, 102, 105, 110, 100, 95, 115, 112, 101, 99, 35, 111, 112, 97, 113, 117, 101, 6, 194, 13, 99, 114, 101, 97, 116, 101, 95, 109, 111, 100, 117, 108, 101, 9, 54, 95, 102, 114, 111, 122, 101, 110, 95, 105, 109, 112, 111, 114, 116, 108, 105, 98, 46, 66, 117, 105, 108, 116, 105, 110, 73, 109, 112, 111, 114, 116, 101, 114, 46, 99, 114, 101, 97, 116, 101, 95, 109, 111, 100, 117, 108, 101, 35, 111, 112, 97, 113, 117, 101, 6, 195, 11, 101, 120, 101, 99, 95, 109, 111, 100, 117, 108, 101, 9, 52, 95, 102, 114, 111, 122, 101, 110, 95, 105, 109, 112, 111, 114, 116, 108, 105, 98, 46, 66, 117, 105, 108, 116, 105, 110, 73, 109, 112, 111, 114, 116, 101, 114, 46, 101, 120, 101, 99, 95, 109, 111, 100, 117, 108, 101, 35, 111, 112, 97, 113, 117, 101, 6, 196, 8, 103, 101, 116, 95, 99, 111, 100, 101, 9, 49, 95, 102, 114, 111, 122, 101, 110, 95, 105, 109, 112, 111, 114, 116, 108, 105, 98, 46, 66, 117, 105, 108, 116, 105, 110, 73, 109, 112, 111, 114, 116, 101, 114, 46, 103, 101, 116, 95, 99, 111, 100, 101, 35, 111, 112, 97, 113, 117, 101, 6, 197, 10, 103, 101, 116, 95, 115, 111, 117, 114, 99, 101, 9, 51, 95, 102, 114, 111, 122, 101, 110, 95, 105, 109, 112, 111, 114, 116, 108, 105, 98, 46, 66, 117, 105, 108, 116, 105, 110, 73, 109, 112, 111, 114, 116, 101, 114, 46, 103, 101, 116, 95, 115, 111, 117, 114, 99, 101, 35, 111, 112, 97, 113, 117, 101, 6, 198, 10, 105, 115, 95, 112, 97, 99, 107, 97, 103, 101, 9, 51, 95, 102, 114, 111, 122, 101, 110, 95, 105, 109, 112, 111, 114, 116, 108, 105, 98, 46, 66, 117, 105, 108, 116, 105, 110, 73, 109, 112, 111, 114, 116, 101, 114, 46, 105, 115, 95, 112, 97, 99, 107, 97, 103, 101, 35, 111, 112, 97, 113, 117, 101, 6, 199, 11, 108, 111, 97, 100, 95, 109, 111, 100, 117, 108, 101, 9, 52, 95, 102, 114, 111, 122, 101, 110, 95, 105, 109, 112, 111, 114, 116, 108, 105, 98, 46, 66, 117, 105, 108, 116, 105, 110, 73, 109, 112, 111, 114, 116, 101, 114, 46, 108, 111, 97, 100, 95, 109, 111, 100, 117, 108, 101, 35, 111, 112, 97, 113, 117, 101, 6, 200, 21, 95, 95, 115, 116, 97, 116, 105, 99, 95, 97, 116, 116, 114, 105, 98, 117, 116, 101, 115, 95, 95, 4, 0, 0, 15, 6, 202, 8, 95, 95, 100, 105, 99, 116, 95, 95, 4, 0, 0, 16, 6, 204, 11, 95, 95, 119, 101, 97, 107, 114, 101, 102, 95, 95, 4, 0, 0, 17]) 0), (Value.bool true), (Value.bool true), (Value.str (Str.mk #[]) 205), (Value.int (21) 0), (Value.str (Str.mk #[6, 227, 10, 95, 95, 109, 111, 100, 117, 108, 101, 95, 95, 6, 217, 17, 95, 102, 114, 111, 122, 101, 110, 95, 105, 109, 112, 111, 114, 116, 108, 105, 98, 6, 228, 15, 95, 95, 102, 105, 114, 115, 116, 108, 105, 110, 101, 110, 111, 95, 95, 4, 218, 0, 562, 6, 229, 7, 95, 95, 100, 111, 99, 95, 95, 9, 47, 95, 102, 114, 111, 122, 101, 110, 95, 105, 109, 112, 111, 114, 116, 108, 105, 98, 46, 77, 111, 100, 117, 108, 101, 83, 112, 101, 99, 46, 95, 95, 100, 111, 99, 95, 95, 58, 115, 116, 114, 35, 111, 112, 97, 113, 117, 101, 6, 230, 8, 95, 95, 105, 110, 105, 116, 95, 95, 9, 44, 95, 102, 114, 111, 122, 101, 110, 95, 105, 109, 112, 111, 114, 116, 108, 105, 98, 46, 77, 111, 100, 117, 108, 101, 83, 112, 101, 99, 46, 95, 95, 105, 110, 105, 116, 95, 95, 35, 111, 112, 97, 113, 117, 101, 6, 231, 8, 95, 95, 114, 101, 112, 114, 95, 95, 9, 44, 95, 102, 114, 111, 122, 101, 110, 95, 105, 109, 112, 111, 114, 116, 108, 105, 98, 46, 77, 111, 100, 117, 108, 101, 83, 112, 101, 99, 46, 95, 95, 114, 101, 112, 114, 95, 95, 35, 111, 112, 97, 113, 117, 101, 6, 232, 6, 95, 95, 101, 113, 95, 95, 9, 42, 95, 102, 114, 111, 122, 101, 110, 95, 105, 109, 112, 111, 114, 116, 108, 105, 98, 46, 77, 111, 100, 117, 108, 101, 83, 112, 101, 99, 46, 95, 95, 101, 113, 95, 95, 35, 111, 112, 97, 113, 117, 101, 6, 233, 6, 99, 97, 99, 104, 101, 100, 9, 42, 95, 102, 114, 111, 122, 101, 110, 95, 105, 109, 112, 111, 114, 116, 108, 105, 98, 46, 77, 111, 100, 117, 108, 101, 83, 112, 101, 99, 46, 99, 97, 99, 104, 101, 100, 35, 111, 112, 97, 113, 117, 101, 6, 234, 6, 112, 97, 114, 101, 110, 116, 9, 42, 95, 102, 114, 111, 122, 101, 110, 95, 105, 109, 112, 111, 114, 116, 108, 105, 98, 46, 77, 111, 100, 117, 108, 101, 83, 112, 101, 99, 46, 112, 97, 114, 101, 110, 116, 35, 111, 112, 97, 113, 117, 101, 6, 235, 12, 104, 97, 115, 95, 108, 111, 99, 97, 116, 105, 111, 110, 9, 48, 95, 102, 114, 111, 122, 101, 110, 95, 105, 109, 112, 111, 114, 116, 108, 105, 98, 46, 77, 111, 100, 117, 108, 101, 83, 112, 101, 99, 46, 104, 97, 115, 95, 108, 111, 99, 97, 116, 105, 111, 110, 35, 111, 112, 97, 113, 117, 101, 6, 236, 21, 95, 95, 115, 116, 97, 116, 105, 99, 95, 97, 116, 116, 114, 105, 98, 117, 116, 101, 115, 95, 95, 4, 0, 0, 23, 6, 238, 8, 95, 95, 100, 105, 99, 116, 95, 95, 4, 0, 0, 24, 6, 240, 11, 95, 95, 119, 101, 97, 107, 114, 101, 102, 95, 95, 4, 0, 0, 25, 6, 241, 8, 95, 95, 104, 97, 115, 104, 95, 95, 0]) 0), (Value.bool true), (Value.bool true), (Value.str (Str.mk #[]) 242)]) 1) (List.toArray [])
@[reducible] noncomputable def o_19_0 (P : Params) : Obj := Obj.mk (Value.type "list") none (Data.seq (List.toArray []) 0) (List.toArray [])
@[reducible] noncomputable def o_20_0 (P : Params) : Obj := Obj.mk (Value.type "dict") none (Data.dict (List.toArray [DictEntry.mk (PyData.keyHash P (Str.mk #[110, 97, 109, 101])) (Value.str (Str.mk #[110, 97, 109, 101]) 208) (Value.str (Str.mk #[95, 115, 114, 101]) 207), DictEntry.mk (PyData.keyHash P (Str.mk #[108, 111, 97, 100, 101, 114])) (Value.str (Str.mk #[108, 111, 97, 100, 101, 114]) 209) (Value.ref 14), DictEntry.mk (PyData.keyHash P (Str.mk #[111, 114, 105, 103, 105, 110])) (Value.str (Str.mk #[111, 114, 105, 103, 105, 110]) 210) (Value.str (Str.mk #[98, 117, 105, 108, 116, 45, 105, 110]) 184), DictEntry.mk (PyData.keyHash P (Str.mk #[108, 111, 97, 100, 101, 114, 95, 115, 116, 97, 116, 101])) (Value.str (Str.mk #[108, 111, 97, 100, 101, 114, 95, 115, 116, 97, 116, 101]) 211) Value.none, DictEntry.mk (PyData.keyHash P (Str.mk #[115, 117, 98, 109, 111, 100, 117, 108, 101, 95, 115, 101, 97, 114, 99, 104, 95, 108, 111, 99, 97, 116, 105, 111, 110, 115])) (Value.str (Str.mk #[115, 117, 98, 109, 111, 100, 117, 108, 101, 95, 115, 101, 97, 114, 99, 104, 95, 108, 111, 99, 97, 116, 105, 111, 110, 115]) 212) Value.none, DictEntry.mk (PyData.keyHash P (Str.mk #[95, 117, 110, 105, 110, 105, 116, 105, 97, 108, 105, 122, 101, 100, 95, 115, 117, 98, 109, 111, 100, 117, 108, 101, 115])) (Value.str (Str.mk #[95, 117, 110, 105, 110, 105, 116, 105, 97, 108, 105, 122, 101, 100, 95, 115, 117, 98, 109, 111, 100, 117, 108, 101, 115]) 213) (Value.ref 19), DictEntry.mk (PyData.keyHash P (Str.mk #[95, 115, 101, 116, 95, 102, 105, 108, 101, 97, 116, 116, 114])) (Value.str (Str.mk #[95, 115, 101, 116, 95, 102, 105, 108, 101, 97, 116, 116, 114]) 214) (Value.bool false), DictEntry.mk (PyData.keyHash P (Str.mk #[95, 99, 97, 99, 104, 101, 100])) (Value.str (Str.mk #[95, 99, 97, 99, 104, 101, 100]) 215) Value.none, DictEntry.mk (PyData.keyHash P (Str.mk #[95, 105, 110, 105, 116, 105, 97, 108, 105, 122, 105, 110, 103])) (Value.str (Str.mk #[95, 105, 110, 105, 116, 105, 97, 108, 105, 122, 105, 110, 103]) 243) (Value.bool false)]) 9) (List.toArray [])
@[reducible] noncomputable def o_21_0 (P : Params) : Obj := Obj.mk (Value.type "dict") none (Data.dict (List.toArray [DictEntry.mk (PyData.keyHash P (Str.mk #[95, 95, 109, 111, 100, 117, 108, 101, 95, 95])) (Value.str (Str.mk #[95, 95, 109, 111, 100, 117, 108, 101, 95, 95]) 227) (Value.str (Str.mk #[95, 102, 114, 111, 122, 101, 110, 95, 105, 109, 112, 111, 114, 116, 108, 105, 98]) 217), DictEntry.mk (PyData.keyHash P (Str.mk #[95, 95, 102, 105, 114, 115, 116, 108, 105, 110, 101, 110, 111, 95, 95])) (Value.str (Str.mk #[95, 95, 102, 105, 114, 115, 116, 108, 105, 110, 101, 110, 111, 95, 95]) 228) (Value.int (562) 218), DictEntry.mk (PyData.keyHash P (Str.mk #[95, 95, 100, 111, 99, 95, 95])) (Value.str (Str.mk #[95, 95, 100, 111, 99, 95, 95]) 229) (Value.builtin "_frozen_importlib.ModuleSpec.__doc__:str#opaque"), DictEntry.mk (PyData.keyHash P (Str.mk #[95, 95, 105, 110, 105, 116, 95, 95])) (Value.str (Str.mk #[95, 95, 105, 110, 105, 116, 95, 95]) 230) (Value.builtin "_frozen_importlib.ModuleSpec.__init__#opaque"), DictEntry.mk (PyData.keyHash P (Str.mk #[95, 95, 114, 101, 112, 114, 95, 95])) (Value.str (Str.mk #[95, 95, 114, 101, 112, 114, 95, 95]) 231) (Value.builtin "_frozen_importlib.ModuleSpec.__repr__#opaque"), DictEntry.mk (PyData.keyHash P (Str.mk #[95, 95, 101, 113, 95, 95])) (Value.str (Str.mk #[95, 95, 101, 113, 95, 95]) 232) (Value.builtin "_frozen_importlib.ModuleSpec.__eq__#opaque"), DictEntry.mk (PyData.keyHash P (Str.mk #[99, 97, 99, 104, 101, 100])) (Value.str (Str.mk #[99, 97, 99, 104, 101, 100]) 233) (Value.builtin "_frozen_importlib.ModuleSpec.cached#opaque"), DictEntry.mk (PyData.keyHash P (Str.mk #[112, 97, 114, 101, 110, 116])) (Value.str (Str.mk #[112, 97, 114, 101, 110, 116]) 234) (Value.builtin "_frozen_importlib.ModuleSpec.parent#opaque"), DictEntry.mk (PyData.keyHash P (Str.mk #[104, 97, 115, 95, 108, 111, 99, 97, 116, 105, 111, 110])) (Value.str (Str.mk #[104, 97, 115, 95, 108, 111, 99, 97, 116, 105, 111, 110]) 235) (Value.builtin "_frozen_importlib.ModuleSpec.has_location#opaque"), DictEntry.mk (PyData.keyHash P (Str.mk #[95, 95, 115, 116, 97, 116, 105, 99, 95, 97, 116, 116, 114, 105, 98, 117, 116, 101, 115, 95, 95])) (Value.str (Str.mk #[95, 95, 115, 116, 97, 116, 105, 99, 95, 97, 116, 116, 114, 105, 98, 117, 116, 101, 115, 95, 95]) 236) (Value.ref 23), DictEntry.mk (PyData.keyHash P (Str.mk #[95, 95, 100, 105, 99, 116, 95, 95])) (Value.str (Str.mk #[95, 95, 100, 105, 99, 116, 95, 95]) 238) (Value.ref 24), DictEntry.mk (PyData.keyHash P (Str.mk #[95, 95, 119, 101, 97, 107, 114, 101, 102, 95, 95])) (Value.str (Str.mk #[95, 95, 119, 101, 97, 107, 114, 101, 102, 95, 95]) 240) (Value.ref 25), DictEntry.mk (PyData.keyHash P (Str.mk #[95, 95, 104, 97, 115, 104, 95, 95])) (Value.str (Str.mk #[95, 95, 104, 97, 115, 104, 95, 95]) 241) Value.none]) 13) (List.toArray [])
@[reducible] noncomputable def o_22_0 (P : Params) : Obj := Obj.mk (Value.type "type") none (Data.cls (ClassData.mk (Str.mk #[77, 111, 100, 117, 108, 101, 83, 112, 101, 99]) [(Value.type "object")] [(Value.ref 22), (Value.type "object")] 21 (Str.mk #[77, 111, 100, 117, 108, 101, 83, 112, 101, 99]) true [] [] false none false)) (List.toArray [])
@[reducible] noncomputable def o_23_0 (P : Params) : Obj := Obj.mk (Value.type "tuple") none (Data.seq (List.toArray [(Value.str (Str.mk #[95, 99, 97, 99, 104, 101, 100]) 219), (Value.str (Str.mk #[95, 115, 101, 116, 95, 102, 105, 108, 101, 97, 116, 116, 114]) 220), (Value.str (Str.mk #[95, 117, 110, 105, 110, 105, 116, 105, 97, 108, 105, 122, 101, 100, 95, 115, 117, 98, 109, 111, 100, 117, 108, 101, 115]) 221), (Value.str (Str.mk #[108, 111, 97, 100, 101, 114]) 222), (Value.str (Str.mk #[108, 111, 97, 100, 101, 114, 95, 115, 116, 97, 116, 101]) 223), (Value.str (Str.mk #[110, 97, 109, 101]) 224), (Value.str (Str.mk #[111, 114, 105, 103, 105, 110]) 225), (Value.str (Str.mk #[115, 117, 98, 109, 111, 100, 117, 108, 101, 95, 115, 101, 97, 114, 99, 104, 95, 108, 111, 99, 97, 116, 105, 111, 110, 115]) 226)]) 0) (List.toArray [])
@[reducible] noncomputable def o_24_0 (P : Params) : Obj := Obj.mk (Value.type "getset_descriptor") none (Data.fields (List.toArray [(Value.str (Str.mk #[95, 95, 100, 105, 99, 116, 95, 95]) 237), (Value.ref 22), (Value.builtin "function.__dict__"), (Value.builtin "function.__dict__#set")])) (List.toArray [])
@[reducible] noncomputable def o_25_0 (P : Params) : Obj := Obj.mk (Value.type "getset_descriptor") none (Data.fields (List.toArray [(Value.str (Str.mk #[95, 95, 119, 101, 97, 107, 114, 101, 102, 95, 95]) 239), (Value.ref 22), (Value.builtin "ExceptionGroup.__weakref__"), Value.none])) (List.toArray [])
@[reducible] noncomputable def o_26_0 (P : Params) : Obj := Obj.mk (Value.ref 22) (some 20) (Data.plain) (List.toArray [])
@[reducible] noncomputable def o_27_0 (P : Params) : Obj := Obj.mk Value.none none (Data.seq (List.toArray [(Value.int (11) 0), (Value.str (Str.mk #[6, 247, 8, 95, 95, 110, 97, 109, 101, 95, 95, 6, 246, 4, 95, 115, 114, 101, 6, 248, 7, 95, 95, 100, 111, 99, 95, 95, 0, 6, 250, 11, 95, 95, 112, 97, 99, 107, 97, 103, 101, 95, 95, 6, 249, 0, 6, 251, 10, 95, 95, 108, 111, 97, 100, 101, 114, 95, 95, 4, 0, 0, 14, 6, 252, 8, 95, 95, 115, 112, 101, 99, 95, 95, 4, 0, 0, 26, 6, 253, 7, 99, 111, 109, 112, 105, 108, 101, 9, 12, 95, 115, 114, 101, 46, 99, 111, 109, 112, 105, 108, 101, 6, 254, 8, 116, 101, 109, 112, 108, 97, 116, 101, 9, 13, 95, 115, 114, 101, 46, 116, 101, 109, 112, 108, 97, 116, 101, 6, 255, 11, 103, 101, 116, 99, 111, 100, 101, 115, 105, 122, 101, 9, 16, 95, 115, 114, 101, 46, 103, 101, 116, 99, 111, 100, 101, 115, 105, 122, 101, 6, 256, 13, 97, 115, 99, 105, 105, 95, 105, 115, 99, 97, 115, 101, 100, 9, 18, 95, 115, 114, 101, 46, 97, 115, 99, 105, 105, 95, 105, 115, 99, 97, 115, 101, 100, 6, 257, 15, 117, 110, 105, 99, 111, 100, 101, 95, 105, 115, 99, 97, 115, 101, 100, 9, 20, 95, 115, 114, 101, 46, 117, 110, 105, 99, 111, 100, 101, 95, 105, 115, 99, 97, 115, 101, 100, 6, 258, 13, 97, 115, 99, 105, 105, 95, 116, 111, 108, 111, 119, 101, 114, 9, 18, 95, 115, 114, 101, 46, 97, 115, 99, 105, 105, 95, 116, 111, 108, 111, 119, 101, 114, 6, 259, 15, 117, 110, 105, 99, 111, 100, 101, 95, 116, 111, 108, 111, 119, 101, 114, 9, 20, 95, 115, 114, 101, 46, 117, 110, 105, 99, 111, 100, 101, 95, 116, 111, 108, 111, 119, 101, 114, 6, 261, 5, 77, 65, 71, 73, 67, 4, 260, 0, 20230612, 6, 263, 8, 67, 79, 68, 69, 83, 73, 90, 69, 4, 262, 0, 4, 6, 265, 9, 77, 65, 88, 82, 69, 80, 69, 65, 84, 4, 264, 0, 4294967295, 6, 267, 9, 77, 65, 88, 71, 82, 79, 85, 80, 83, 4, 266, 0, 1073741823, 6, 269, 9, 99, 111, 112, 121, 114, 105, 103, 104, 116, 6, 268, 53, 32, 83, 82, 69, 32, 50, 46, 50, 46, 50, 32, 67, 111, 112, 121, 114, 105, 103, 104, 116, 32, 40, 99, 41, 32, 49, 57, 57, 55, 45, 50, 48, 48, 50, 32, 98, 121, 32, 83, 101, 99, 114, 101, 116, 32, 76, 97, 98, 115, 32, 65, 66, 32]) 0), (Value.bool true), (Value.bool false), (Value.str (Str.mk #[95, 115, 114, 101]) 271)]) 0) (List.toArray [])
noncomputable def tree_0 (P : Params) : BT := (N (boot_o_0 P) (N (o_1_0 P) (N (o_3_0 P) (N (boot_o_7 P) (N (o_15_0 P) L L) (N (o_23_0 P) L L)) (N (o_11_0 P) (N (o_19_0 P) L L) (N (o_27_0 P) L L))) (N (boot_o_5 P) (N (boot_o_9 P) (N (o_17_0 P) L L) (N (o_25_0 P) L L)) (N (o_13_0 P) (N (o_21_0 P) L L) L))) (N (o_2_0 P) (N (boot_o_4 P) (N (boot_o_8 P) (N (o_16_0 P) L L) (N (o_24_0 P) L L)) (N (o_12_0 P) (N (o_20_0 P) L L) L)) (N (boot_o_6 P) (N (boot_o_10 P) (N (o_18_0 P) L L) (N (o_26_0 P) L L)) (N (o_14_0 P) (N (o_22_0 P) L L) L))))
-- objs 28 toks 276
@[reducible] noncomputable def o_28_a (P : Params) : Obj := Obj.mk (Value.type "tuple") none (Data.seq (List.toArray []) 0) (List.toArray [])
@[reducible] noncomputable def o_29_a (P : Params) : Obj := Obj.mk Value.none none (Data.fields (List.toArray [])) (List.toArray [])
@[reducible] noncomputable def o_30_a (P : Params) : Obj := Obj.mk (Value.type "code") none (Data.fields (List.toArray [(Value.str (Str.mk #[60, 109, 111, 100, 117, 108, 101, 62]) 277), (Value.str (Str.mk #[60, 109, 111, 100, 117, 108, 101, 62]) 278), (Value.str (Str.mk #[47, 99, 108, 97, 105, 109, 47, 99, 117, 116, 46, 112, 121]) 279), (Value.int (1) 0), (Value.int (0) 0), (Value.int (0) 0), (Value.int (0) 0), (Value.int (0) 0), (Value.ref 28), (Value.bool false), (Value.int (276) 0), (Value.ref 29), Value.none, Value.none, Value.none, Value.none, (Value.int (280) 0), (Value.int (1) 0), (Value.str (Str.mk #[47, 99, 108, 97, 105, 109, 47, 99, 117, 116, 46, 112, 121]) 281)])) (List.toArray [])
@[reducible] noncomputable def o_31_a (P : Params) : Obj := Obj.mk (Value.type "frame") none (Data.plain) (List.toArray [(some (Value.ref 30)), (some (Value.ref 3)), (some (Value.ref 3)), none, (some (Value.str (Str.mk #[95, 95, 109, 97, 105, 110, 95, 95]) 164)), none, (some (Value.ref 0))])
noncomputable def tree_a (P : Params) : BT := (N (boot_o_0 P) (N (o_1_0 P) (N (o_3_0 P) (N (boot_o_7 P) (N (o_15_0 P) (N (o_31_a P) L L) L) (N (o_23_0 P) L L)) (N (o_11_0 P) (N (o_19_0 P) L L) (N (o_27_0 P) L L))) (N (boot_o_5 P) (N (boot_o_9 P) (N (o_17_0 P) L L) (N (o_25_0 P) L L)) (N (o_13_0 P) (N (o_21_0 P) L L) (N (o_29_a P) L L)))) (N (o_2_0 P) (N (boot_o_4 P) (N (boot_o_8 P) (N (o_16_0 P) L L) (N (o_24_0 P) L L)) (N (o_12_0 P) (N (o_20_0 P) L L) (N (o_28_a P) L L))) (N (boot_o_6 P) (N (boot_o_10 P) (N (o_18_0 P) L L) (N (o_26_0 P) L L)) (N (o_14_0 P) (N (o_22_0 P) L L) (N (o_30_a P) L L)))))
-- objs 32 toks 282
@[reducible] noncomputable def o_3_12 (P : Params) : Obj := Obj.mk (Value.type "dict") none (Data.dict (List.toArray [DictEntry.mk (PyData.keyHash P (Str.mk #[95, 95, 110, 97, 109, 101, 95, 95])) (Value.str (Str.mk #[95, 95, 110, 97, 109, 101, 95, 95]) 165) (Value.str (Str.mk #[99, 112, 121, 51, 49, 51, 46, 115, 116, 114, 105, 110, 103, 112, 114, 101, 112]) 403), DictEntry.mk (PyData.keyHash P (Str.mk #[95, 95, 100, 111, 99, 95, 95])) (Value.str (Str.mk #[95, 95, 100, 111, 99, 95, 95]) 166) Value.none, DictEntry.mk (PyData.keyHash P (Str.mk #[95, 95, 112, 97, 99, 107, 97, 103, 101, 95, 95])) (Value.str (Str.mk #[95, 95, 112, 97, 99, 107, 97, 103, 101, 95, 95]) 167) Value.none, DictEntry.mk (PyData.keyHash P (Str.mk #[95, 95, 108, 111, 97, 100, 101, 114, 95, 95])) (Value.str (Str.mk #[95, 95, 108, 111, 97, 100, 101, 114, 95, 95]) 168) (Value.builtin "__main__.__loader__#opaque"), DictEntry.mk (PyData.keyHash P (Str.mk #[95, 95, 115, 112, 101, 99, 95, 95])) (Value.str (Str.mk #[95, 95, 115, 112, 101, 99, 95, 95]) 169) Value.none, DictEntry.mk (PyData.keyHash P (Str.mk #[95, 95, 97, 110, 110, 111, 116, 97, 116, 105, 111, 110, 115, 95, 95])) (Value.str (Str.mk #[95, 95, 97, 110, 110, 111, 116, 97, 116, 105, 111, 110, 115, 95, 95]) 170) (Value.ref 6), DictEntry.mk (PyData.keyHash P (Str.mk #[95, 95, 98, 117, 105, 108, 116, 105, 110, 115, 95, 95])) (Value.str (Str.mk #[95, 95, 98, 117, 105, 108, 116, 105, 110, 115, 95, 95]) 171) (Value.ref 4), DictEntry.mk (PyData.keyHash P (Str.mk #[95, 95, 102, 105, 108, 101, 95, 95])) (Value.str (Str.mk #[95, 95, 102, 105, 108, 101, 95, 95]) 173) (Value.str (Str.mk #[47, 99, 108, 97, 105, 109, 47, 99, 117, 116, 46, 112, 121]) 172), DictEntry.mk (PyData.keyHash P (Str.mk #[95, 95, 99, 97, 99, 104, 101, 100, 95, 95])) (Value.str (Str.mk #[95, 95, 99, 97, 99, 104, 101, 100, 95, 95]) 174) Value.none, DictEntry.mk (PyData.keyHash P (Str.mk #[95, 115, 114, 101])) (Value.str (Str.mk #[95, 115, 114, 101]) 275) (Value.ref 12), DictEntry.mk (PyData.keyHash P (Str.mk #[95, 116, 119, 105, 110, 95, 114, 101, 95, 49])) (Value.str (Str.mk #[95, 116, 119, 105, 110, 95, 114, 101, 95, 49]) 299) (Value.ref 36), DictEntry.mk (PyData.keyHash P (Str.mk #[95, 116, 119, 105, 110, 95, 114, 101, 95, 50])) (Value.str (Str.mk #[95, 116, 119, 105, 110, 95, 114, 101, 95, 50]) 341) (Value.ref 41), DictEntry.mk (PyData.keyHash P (Str.mk #[67, 82, 76, 70])) (Value.str (Str.mk #[67, 82, 76, 70]) 343) (Value.str (Str.mk #[13, 10]) 342), DictEntry.mk (PyData.keyHash P (Str.mk #[113, 117, 111, 116, 101, 100, 97, 116, 97])) (Value.str (Str.mk #[113, 117, 111, 116, 101, 100, 97, 116, 97]) 350) (Value.ref 48), DictEntry.mk (PyData.keyHash P (Str.mk #[97, 100, 100])) (Value.str (Str.mk #[97, 100, 100]) 360) (Value.ref 55), DictEntry.mk (PyData.keyHash P (Str.mk #[102, 108, 111, 111, 114, 100, 105, 118])) (Value.str (Str.mk #[102, 108, 111, 111, 114, 100, 105, 118]) 368) (Value.ref 62), DictEntry.mk (PyData.keyHash P (Str.mk #[109, 111, 100])) (Value.str (Str.mk #[109, 111, 100]) 376) (Value.ref 69), DictEntry.mk (PyData.keyHash P (Str.mk #[109, 117, 108])) (Value.str (Str.mk #[109, 117, 108]) 384) (Value.ref 76), DictEntry.mk (PyData.keyHash P (Str.mk #[115, 117, 98])) (Value.str (Str.mk #[115, 117, 98]) 392) (Value.ref 83), DictEntry.mk (PyData.keyHash P (Str.mk #[99, 111, 117, 110, 116, 79, 102])) (Value.str (Str.mk #[99, 111, 117, 110, 116, 79, 102]) 402) (Value.ref 90)]) 20) (List.toArray [])
@[reducible] noncomputable def o_29_12 (P : Params) : Obj := Obj.mk Value.none none (Data.fields (List.toArray [(Value.int (6) 0), (Value.int (0) 0), (Value.ref 47), (Value.int (9) 0), (Value.int (0) 0), (Value.ref 54), (Value.int (11) 0), (Value.int (0) 0), (Value.ref 61), (Value.int (13) 0), (Value.int (0) 0), (Value.ref 68), (Value.int (15) 0), (Value.int (0) 0), (Value.ref 75), (Value.int (17) 0), (Value.int (0) 0), (Value.ref 82), (Value.int (19) 0), (Value.int (0) 0), (Value.ref 89)])) (List.toArray [])
@[reducible] noncomputable def o_32_12 (P : Params) : Obj := Obj.mk (Value.type "list") none (Data.seq (List.toArray [(Value.int (14) 287), (Value.int (4) 288), (Value.int (0) 289), (Value.int (1) 290), (Value.int (1) 291), (Value.int (6) 292), (Value.int (1) 293), (Value.int (16) 294), (Value.int (46) 295), (Value.int (1) 296)]) 0) (List.toArray [])
@[reducible] noncomputable def o_33_12 (P : Params) : Obj := Obj.mk (Value.type "dict") none (Data.dict (List.toArray []) 0) (List.toArray [])
@[reducible] noncomputable def o_34_12 (P : Params) : Obj := Obj.mk (Value.type "tuple") none (Data.seq (List.toArray [Value.none]) 0) (List.toArray [])
@[reducible] noncomputable def o_35_12 (P : Params) : Obj := Obj.mk (Value.type "tuple") none (Data.seq (List.toArray [(Value.int (14) 0), (Value.int (4) 0), (Value.int (0) 0), (Value.int (1) 0), (Value.int (1) 0), (Value.int (6) 0), (Value.int (1) 0), (Value.int (16) 0), (Value.int (46) 0), (Value.int (1) 0)]) 0) (List.toArray [])
@[reducible] noncomputable def o_36_12 (P : Params) : Obj := Obj.mk (Value.type "re.Pattern") none (Data.fields (List.toArray [(Value.str (Str.mk #[40, 63, 109, 41, 94, 92, 46]) 285), (Value.int (40) 298), (Value.int (0) 0), Value.none, Value.none, (Value.ref 35), (Value.int (0) 0)])) (List.toArray [])
@[reducible] noncomputable def o_37_12 (P : Params) : Obj := Obj.mk (Value.type "list") none (Data.seq (List.toArray [(Value.int (14) 303), (Value.int (9) 304), (Value.int (4) 305), (Value.int (1) 306), (Value.int (2) 307), (Value.int (16) 308), (Value.int (10) 309), (Value.int (16) 310), (Value.int (13) 311), (Value.int (0) 312), (Value.int (7) 313), (Value.int (7) 314), (Value.int (16) 315), (Value.int (13) 316), (Value.int (16) 317), (Value.int (10) 318), (Value.int (15) 319), (Value.int (18) 320), (Value.int (5) 321), (Value.int (16) 322), (Value.int (10) 323), (Value.int (15) 324), (Value.int (13) 325), (Value.int (11) 326), (Value.int (16) 327), (Value.int (13) 328), (Value.int (5) 329), (Value.int (5) 330), (Value.int (0) 331), (Value.int (16) 332), (Value.int (10) 333), (Value.int (1) 334), (Value.int (15) 335), (Value.int (2) 336), (Value.int (0) 337), (Value.int (1) 338)]) 0) (List.toArray [])
@[reducible] noncomputable def o_38_12 (P : Params) : Obj := Obj.mk (Value.type "dict") none (Data.dict (List.toArray []) 0) (List.toArray [])
@[reducible] noncomputable def o_39_12 (P : Params) : Obj := Obj.mk (Value.type "tuple") none (Data.seq (List.toArray [Value.none]) 0) (List.toArray [])
@[reducible] noncomputable def o_40_12 (P : Params) : Obj := Obj.mk (Value.type "tuple") none (Data.seq (List.toArray [(Value.int (14) 0), (Value.int (9) 0), (Value.int (4) 0), (Value.int (1) 0), (Value.int (2) 0), (Value.int (16) 0), (Value.int (10) 0), (Value.int (16) 0), (Value.int (13) 0), (Value.int (0) 0), (Value.int (7) 0), (Value.int (7) 0), (Value.int (16) 0), (Value.int (13) 0), (Value.int (16) 0), (Value.int (10) 0), (Value.int (15) 0), (Value.int (18) 0), (Value.int (5) 0), (Value.int (16) 0), (Value.int (10) 0), (Value.int (15) 0), (Value.int (13) 0), (Value.int (11) 0), (Value.int (16) 0), (Value.int (13) 0), (Value.int (5) 0), (Value.int (5) 0), (Value.int (0) 0), (Value.int (16) 0), (Value.int (10) 0), (Value.int (1) 0), (Value.int (15) 0), (Value.int (2) 0), (Value.int (0) 0), (Value.int (1) 0)]) 0) (List.toArray [])
@[reducible] noncomputable def o_41_12 (P : Params) : Obj := Obj.mk (Value.type "re.Pattern") none (Data.fields (List.toArray [(Value.str (Str.mk #[40, 63, 58, 92, 114, 92, 110, 124, 92, 110, 124, 92, 114, 40, 63, 33, 92, 110, 41, 41]) 301), (Value.int (32) 340), (Value.int (0) 0), Value.none, Value.none, (Value.ref 40), (Value.int (0) 0)])) (List.toArray [])
@[reducible] noncomputable def o_42_12 (P : Params) : Obj := Obj.mk (Value.type "tuple") none (Data.seq (List.toArray []) 0) (List.toArray [])
@[reducible] noncomputable def o_43_12 (P : Params) : Obj := Obj.mk Value.none none (Data.fields (List.toArray [])) (List.toArray [])
@[reducible] noncomputable def o_44_12 (P : Params) : Obj := Obj.mk (Value.type "tuple") none (Data.seq (List.toArray [(Value.str (Str.mk #[100, 97, 116, 97]) 347)]) 0) (List.toArray [])
@[reducible] noncomputable def o_45_12 (P : Params) : Obj := Obj.mk (Value.type "tuple") none (Data.seq (List.toArray []) 0) (List.toArray [])
@[reducible] noncomputable def o_46_12 (P : Params) : Obj := Obj.mk Value.none none (Data.func (FuncData.mk (Str.mk #[113, 117, 111, 116, 101, 100, 97, 116, 97]) (Str.mk #[113, 117, 111, 116, 101, 100, 97, 116, 97]) (fArgs 4) (FuncBody.stmts (fBody 4)) (fScope 4) 0 [] Value.none Value.none Value.none Value.none none Value.none Value.none 0)) (List.toArray [])
@[reducible] noncomputable def o_47_12 (P : Params) : Obj := Obj.mk (Value.type "code") none (Data.fields (List.toArray [(Value.str (Str.mk #[113, 117, 111, 116, 101, 100, 97, 116, 97]) 344), (Value.str (Str.mk #[113, 117, 111, 116, 101, 100, 97, 116, 97]) 345), (Value.str (Str.mk #[47, 99, 108, 97, 105, 109, 47, 99, 117, 116, 46, 112, 121]) 346), (Value.int (6) 0), (Value.int (1) 0), (Value.int (0) 0), (Value.int (0) 0), (Value.int (3) 0), (Value.ref 42), (Value.bool true), (Value.int (276) 0), (Value.ref 43), Value.none, (Value.ref 44), (Value.ref 45), (Value.ref 46), (Value.int (348) 0), (Value.int (6) 0), (Value.str (Str.mk #[47, 99, 108, 97, 105, 109, 47, 99, 117, 116, 46, 112, 121]) 349)])) (List.toArray [])
@[reducible] noncomputable def o_48_12 (P : Params) : Obj := Obj.mk (Value.type "function") none (Data.func (FuncData.mk (Str.mk #[113, 117, 111, 116, 101, 100, 97, 116, 97]) (Str.mk #[113, 117, 111, 116, 101, 100, 97, 116, 97]) (fArgs 4) (FuncBody.stmts (fBody 4)) (fScope 4) 3 [] Value.none Value.none Value.none (Value.str (Str.mk #[99, 112, 121, 51, 49, 51, 46, 115, 109, 116, 112, 108, 105, 98]) 282) none (Value.ref 47) Value.none 0)) (List.toArray [])
@[reducible] noncomputable def o_49_12 (P : Params) : Obj := Obj.mk (Value.type "tuple") none (Data.seq (List.toArray []) 0) (List.toArray [])
@[reducible] noncomputable def o_50_12 (P : Params) : Obj := Obj.mk Value.none none (Data.fields (List.toArray [])) (List.toArray [])
@[reducible] noncomputable def o_51_12 (P : Params) : Obj := Obj.mk (Value.type "tuple") none (Data.seq (List.toArray [(Value.str (Str.mk #[97]) 356), (Value.str (Str.mk #[98]) 357)]) 0) (List.toArray [])
@[reducible] noncomputable def o_52_12 (P : Params) : Obj := Obj.mk (Value.type "tuple") none (Data.seq (List.toArray []) 0) (List.toArray [])
@[reducible] noncomputable def o_53_12 (P : Params) : Obj := Obj.mk Value.none none (Data.func (FuncData.mk (Str.mk #[97, 100, 100]) (Str.mk #[97, 100, 100]) (fArgs 6) (FuncBody.stmts (fBody 6)) (fScope 6) 0 [] Value.none Value.none Value.none Value.none none Value.none Value.none 0)) (List.toArray [])
@[reducible] noncomputable def o_54_12 (P : Params) : Obj := Obj.mk (Value.type "code") none (Data.fields (List.toArray [(Value.str (Str.mk #[97, 100, 100]) 353), (Value.str (Str.mk #[97, 100, 100]) 354), (Value.str (Str.mk #[47, 99, 108, 97, 105, 109, 47, 99, 117, 116, 46, 112, 121]) 355), (Value.int (9) 0), (Value.int (2) 0), (Value.int (0) 0), (Value.int (0) 0), (Value.int (3) 0), (Value.ref 49), (Value.bool true), (Value.int (276) 0), (Value.ref 50), Value.none, (Value.ref 51), (Value.ref 52), (Value.ref 53), (Value.int (358) 0), (Value.int (9) 0), (Value.str (Str.mk #[47, 99, 108, 97, 105, 109, 47, 99, 117, 116, 46, 112, 121]) 359)])) (List.toArray [])
@[reducible] noncomputable def o_55_12 (P : Params) : Obj := Obj.mk (Value.type "function") none (Data.func (FuncData.mk (Str.mk #[97, 100, 100]) (Str.mk #[97, 100, 100]) (fArgs 6) (FuncBody.stmts (fBody 6)) (fScope 6) 3 [] Value.none Value.none Value.none (Value.str (Str.mk #[99, 112, 121, 51, 49, 51, 46, 111, 112, 101, 114, 97, 116, 111, 114]) 351) none (Value.ref 54) Value.none 0)) (List.toArray [])
@[reducible] noncomputable def o_56_12 (P : Params) : Obj := Obj.mk (Value.type "tuple") none (Data.seq (List.toArray []) 0) (List.toArray [])
@[reducible] noncomputable def o_57_12 (P : Params) : Obj := Obj.mk Value.none none (Data.fields (List.toArray [])) (List.toArray [])
@[reducible] noncomputable def o_58_12 (P : Params) : Obj := Obj.mk (Value.type "tuple") none (Data.seq (List.toArray [(Value.str (Str.mk #[97]) 364), (Value.str (Str.mk #[98]) 365)]) 0) (List.toArray [])
@[reducible] noncomputable def o_59_12 (P : Params) : Obj := Obj.mk (Value.type "tuple") none (Data.seq (List.toArray []) 0) (List.toArray [])
@[reducible] noncomputable def o_60_12 (P : Params) : Obj := Obj.mk Value.none none (Data.func (FuncData.mk (Str.mk #[102, 108, 111, 111, 114, 100, 105, 118]) (Str.mk #[102, 108, 111, 111, 114, 100, 105, 118]) (fArgs 7) (FuncBody.stmts (fBody 7)) (fScope 7) 0 [] Value.none Value.none Value.none Value.none none Value.none Value.none 0)) (List.toArray [])
@[reducible] noncomputable def o_61_12 (P : Params) : Obj := Obj.mk (Value.type "code") none (Data.fields (List.toArray [(Value.str (Str.mk #[102, 108, 111, 111, 114, 100, 105, 118]) 361), (Value.str (Str.mk #[102, 108, 111, 111, 114, 100, 105, 118]) 362), (Value.str (Str.mk #[47, 99, 108, 97, 105, 109, 47, 99, 117, 116, 46, 112, 121]) 363), (Value.int (11) 0), (Value.int (2) 0), (Value.int (0) 0), (Value.int (0) 0), (Value.int (3) 0), (Value.ref 56), (Value.bool true), (Value.int (276) 0), (Value.ref 57), Value.none, (Value.ref 58), (Value.ref 59), (Value.ref 60), (Value.int (366) 0), (Value.int (11) 0), (Value.str (Str.mk #[47, 99, 108, 97, 105, 109, 47, 99, 117, 116, 46, 112, 121]) 367)])) (List.toArray [])
@[reducible] noncomputable def o_62_12 (P : Params) : Obj := Obj.mk (Value.type "function") none (Data.func (FuncData.mk (Str.mk #[102, 108, 111, 111, 114, 100, 105, 118]) (Str.mk #[102, 108, 111, 111, 114, 100, 105, 118]) (fArgs 7) (FuncBody.stmts (fBody 7)) (fScope 7) 3 [] Value.none Value.none Value.none (Value.str (Str.mk #[99, 112, 121, 51, 49, 51, 46, 111, 112, 101, 114, 97, 116, 111, 114]) 351) none (Value.ref 61) Value.none 0)) (List.toArray [])
@[reducible] noncomputable def o_63_12 (P : Params) : Obj := Obj.mk (Value.type "tuple") none (Data.seq (List.toArray []) 0) (List.toArray [])
@[reducible] noncomputable def o_64_12 (P : Params) : Obj := Obj.mk Value.none none (Data.fields (List.toArray [])) (List.toArray [])
@[reducible] noncomputable def o_65_12 (P : Params) : Obj := Obj.mk (Value.type "tuple") none (Data.seq (List.toArray [(Value.str (Str.mk #[97]) 372), (Value.str (Str.mk #[98]) 373)]) 0) (List.toArray [])
@[reducible] noncomputable def o_66_12 (P : Params) : Obj := Obj.mk (Value.type "tuple") none (Data.seq (List.toArray []) 0) (List.toArray [])
@[reducible] noncomputable def o_67_12 (P : Params) : Obj := Obj.mk Value.none none (Data.func (FuncData.mk (Str.mk #[109, 111, 100]) (Str.mk #[109, 111, 100]) (fArgs 8) (FuncBody.stmts (fBody 8)) (fScope 8) 0 [] Value.none Value.none Value.none Value.none none Value.none Value.none 0)) (List.toArray [])
@[reducible] noncomputable def o_68_12 (P : Params) : Obj := Obj.mk (Value.type "code") none (Data.fields (List.toArray [(Value.str (Str.mk #[109, 111, 100]) 369), (Value.str (Str.mk #[109, 111, 100]) 370), (Value.str (Str.mk #[47, 99, 108, 97, 105, 109, 47, 99, 117, 116, 46, 112, 121]) 371), (Value.int (13) 0), (Value.int (2) 0), (Value.int (0) 0), (Value.int (0) 0), (Value.int (3) 0), (Value.ref 63), (Value.bool true), (Value.int (276) 0), (Value.ref 64), Value.none, (Value.ref 65), (Value.ref 66), (Value.ref 67), (Value.int (374) 0), (Value.int (13) 0), (Value.str (Str.mk #[47, 99, 108, 97, 105, 109, 47, 99, 117, 116, 46, 112, 121]) 375)])) (List.toArray [])
@[reducible] noncomputable def o_69_12 (P : Params) : Obj := Obj.mk (Value.type "function") none (Data.func (FuncData.mk (Str.mk #[109, 111, 100]) (Str.mk #[109, 111, 100]) (fArgs 8) (FuncBody.stmts (fBody 8)) (fScope 8) 3 [] Value.none Value.none Value.none (Value.str (Str.mk #[99, 112, 121, 51, 49, 51, 46, 111, 112, 101, 114, 97, 116, 111, 114]) 351) none (Value.ref 68) Value.none 0)) (List.toArray [])
@[reducible] noncomputable def o_70_12 (P : Params) : Obj := Obj.mk (Value.type "tuple") none (Data.seq (List.toArray []) 0) (List.toArray [])
@[reducible] noncomputable def o_71_12 (P : Params) : Obj := Obj.mk Value.none none (Data.fields (List.toArray [])) (List.toArray [])
@[reducible] noncomputable def o_72_12 (P : Params) : Obj := Obj.mk (Value.type "tuple") none (Data.seq (List.toArray [(Value.str (Str.mk #[97]) 380), (Value.str (Str.mk #[98]) 381)]) 0) (List.toArray [])
@[reducible] noncomputable def o_73_12 (P : Params) : Obj := Obj.mk (Value.type "tuple") none (Data.seq (List.toArray []) 0) (List.toArray [])
@[reducible] noncomputable def o_74_12 (P : Params) : Obj := Obj.mk Value.none none (Data.func (FuncData.mk (Str.mk #[109, 117, 108]) (Str.mk #[109, 117, 108]) (fArgs 9) (FuncBody.stmts (fBody 9)) (fScope 9) 0 [] Value.none Value.none Value.none Value.none none Value.none Value.none 0)) (List.toArray [])
@[reducible] noncomputable def o_75_12 (P : Params) : Obj := Obj.mk (Value.type "code") none (Data.fields (List.toArray [(Value.str (Str.mk #[109, 117, 108]) 377), (Value.str (Str.mk #[109, 117, 108]) 378), (Value.str (Str.mk #[47, 99, 108, 97, 105, 109, 47, 99, 117, 116, 46, 112, 121]) 379), (Value.int (15) 0), (Value.int (2) 0), (Value.int (0) 0), (Value.int (0) 0), (Value.int (3) 0), (Value.ref 70), (Value.bool true), (Value.int (276) 0), (Value.ref 71), Value.none, (Value.ref 72), (Value.ref 73), (Value.ref 74), (Value.int (382) 0), (Value.int (15) 0), (Value.str (Str.mk #[47, 99, 108, 97, 105, 109, 47, 99, 117, 116, 46, 112, 121]) 383)])) (List.toArray [])
@[reducible] noncomputable def o_76_12 (P : Params) : Obj := Obj.mk (Value.type "function") none (Data.func (FuncData.mk (Str.mk #[109, 117, 108]) (Str.mk #[109, 117, 108]) (fArgs 9) (FuncBody.stmts (fBody 9)) (fScope 9) 3 [] Value.none Value.none Value.none (Value.str (Str.mk #[99, 112, 121, 51, 49, 51, 46, 111, 112, 101, 114, 97, 116, 111, 114]) 351) none (Value.ref 75) Value.none 0)) (List.toArray [])
@[reducible] noncomputable def o_77_12 (P : Params) : Obj := Obj.mk (Value.type "tuple") none (Data.seq (List.toArray []) 0) (List.toArray [])
@[reducible] noncomputable def o_78_12 (P : Params) : Obj := Obj.mk Value.none none (Data.fields (List.toArray [])) (List.toArray [])
@[reducible] noncomputable def o_79_12 (P : Params) : Obj := Obj.mk (Value.type "tuple") none (Data.seq (List.toArray [(Value.str (Str.mk #[97]) 388), (Value.str (Str.mk #[98]) 389)]) 0) (List.toArray [])
@[reducible] noncomputable def o_80_12 (P : Params) : Obj := Obj.mk (Value.type "tuple") none (Data.seq (List.toArray []) 0) (List.toArray [])
@[reducible] noncomputable def o_81_12 (P : Params) : Obj := Obj.mk Value.none none (Data.func (FuncData.mk (Str.mk #[115, 117, 98]) (Str.mk #[115, 117, 98]) (fArgs 10) (FuncBody.stmts (fBody 10)) (fScope 10) 0 [] Value.none Value.none Value.none Value.none none Value.none Value.none 0)) (List.toArray [])
@[reducible] noncomputable def o_82_12 (P : Params) : Obj := Obj.mk (Value.type "code") none (Data.fields (List.toArray [(Value.str (Str.mk #[115, 117, 98]) 385), (Value.str (Str.mk #[115, 117, 98]) 386), (Value.str (Str.mk #[47, 99, 108, 97, 105, 109, 47, 99, 117, 116, 46, 112, 121]) 387), (Value.int (17) 0), (Value.int (2) 0), (Value.int (0) 0), (Value.int (0) 0), (Value.int (3) 0), (Value.ref 77), (Value.bool true), (Value.int (276) 0), (Value.ref 78), Value.none, (Value.ref 79), (Value.ref 80), (Value.ref 81), (Value.int (390) 0), (Value.int (17) 0), (Value.str (Str.mk #[47, 99, 108, 97, 105, 109, 47, 99, 117, 116, 46, 112, 121]) 391)])) (List.toArray [])
@[reducible] noncomputable def o_83_12 (P : Params) : Obj := Obj.mk (Value.type "function") none (Data.func (FuncData.mk (Str.mk #[115, 117, 98]) (Str.mk #[115, 117, 98]) (fArgs 10) (FuncBody.stmts (fBody 10)) (fScope 10) 3 [] Value.none Value.none Value.none (Value.str (Str.mk #[99, 112, 121, 51, 49, 51, 46, 111, 112, 101, 114, 97, 116, 111, 114]) 351) none (Value.ref 82) Value.none 0)) (List.toArray [])
@[reducible] noncomputable def o_84_12 (P : Params) : Obj := Obj.mk (Value.type "tuple") none (Data.seq (List.toArray []) 0) (List.toArray [])
@[reducible] noncomputable def o_85_12 (P : Params) : Obj := Obj.mk Value.none none (Data.fields (List.toArray [])) (List.toArray [])
@[reducible] noncomputable def o_86_12 (P : Params) : Obj := Obj.mk (Value.type "tuple") none (Data.seq (List.toArray [(Value.str (Str.mk #[97]) 396), (Value.str (Str.mk #[98]) 397), (Value.str (Str.mk #[99, 111, 117, 110, 116]) 398), (Value.str (Str.mk #[105]) 399)]) 0) (List.toArray [])
@[reducible] noncomputable def o_87_12 (P : Params) : Obj := Obj.mk (Value.type "tuple") none (Data.seq (List.toArray []) 0) (List.toArray [])
@[reducible] noncomputable def o_88_12 (P : Params) : Obj := Obj.mk Value.none none (Data.func (FuncData.mk (Str.mk #[99, 111, 117, 110, 116, 79, 102]) (Str.mk #[99, 111, 117, 110, 116, 79, 102]) (fArgs 11) (FuncBody.stmts (fBody 11)) (fScope 11) 0 [] Value.none Value.none Value.none Value.none none Value.none Value.none 0)) (List.toArray [])
@[reducible] noncomputable def o_89_12 (P : Params) : Obj := Obj.mk (Value.type "code") none (Data.fields (List.toArray [(Value.str (Str.mk #[99, 111, 117, 110, 116, 79, 102]) 393), (Value.str (Str.mk #[99, 111, 117, 110, 116, 79, 102]) 394), (Value.str (Str.mk #[47, 99, 108, 97, 105, 109, 47, 99, 117, 116, 46, 112, 121]) 395), (Value.int (19) 0), (Value.int (2) 0), (Value.int (0) 0), (Value.int (0) 0), (Value.int (3) 0), (Value.ref 84), (Value.bool true), (Value.int (276) 0), (Value.ref 85), Value.none, (Value.ref 86), (Value.ref 87), (Value.ref 88), (Value.int (400) 0), (Value.int (19) 0), (Value.str (Str.mk #[47, 99, 108, 97, 105, 109, 47, 99, 117, 116, 46, 112, 121]) 401)])) (List.toArray [])
@[reducible] noncomputable def o_90_12 (P : Params) : Obj := Obj.mk (Value.type "function") none (Data.func (FuncData.mk (Str.mk #[99, 111, 117, 110, 116, 79, 102]) (Str.mk #[99, 111, 117, 110, 116, 79, 102]) (fArgs 11) (FuncBody.stmts (fBody 11)) (fScope 11) 3 [] Value.none Value.none Value.none (Value.str (Str.mk #[99, 112, 121, 51, 49, 51, 46, 111, 112, 101, 114, 97, 116, 111, 114]) 351) none (Value.ref 89) Value.none 0)) (List.toArray [])
noncomputable def tree_12 (P : Params) : BT := (N (boot_o_0 P) (N (o_1_0 P) (N (o_3_12 P) (N (boot_o_7 P) (N (o_15_0 P) (N (o_31_a P) (N (o_63_12 P) L L) L) (N (o_47_12 P) (N (o_79_12 P) L L) L)) (N (o_23_0 P) (N (o_39_12 P) (N (o_71_12 P) L L) L) (N (o_55_12 P) (N (o_87_12 P) L L) L))) (N (o_11_0 P) (N (o_19_0 P) (N (o_35_12 P) (N (o_67_12 P) L L) L) (N (o_51_12 P) (N (o_83_12 P) L L) L)) (N (o_27_0 P) (N (o_43_12 P) (N (o_75_12 P) L L) L) (N (o_59_12 P) L L)))) (N (boot_o_5 P) (N (boot_o_9 P) (N (o_17_0 P) (N (o_33_12 P) (N (o_65_12 P) L L) L) (N (o_49_12 P) (N (o_81_12 P) L L) L)) (N (o_25_0 P) (N (o_41_12 P) (N (o_73_12 P) L L) L) (N (o_57_12 P) (N (o_89_12 P) L L) L))) (N (o_13_0 P) (N (o_21_0 P) (N (o_37_12 P) (N (o_69_12 P) L L) L) (N (o_53_12 P) (N (o_85_12 P) L L) L)) (N (o_29_12 P) (N (o_45_12 P) (N (o_77_12 P) L L) L) (N (o_61_12 P) L L))))) (N (o_2_0 P) (N (boot_o_4 P) (N (boot_o_8 P) (N (o_16_0 P) (N (o_32_12 P) (N (o_64_12 P) L L) L) (N (o_48_12 P) (N (o_80_12 P) L L) L)) (N (o_24_0 P) (N (o_40_12 P) (N (o_72_12 P) L L) L) (N (o_56_12 P) (N (o_88_12 P) L L) L))) (N (o_12_0 P) (N (o_20_0 P) (N (o_36_12 P) (N (o_68_12 P) L L) L) (N (o_52_12 P) (N (o_84_12 P) L L) L)) (N (o_28_a P) (N (o_44_12 P) (N (o_76_12 P) L L) L) (N (o_60_12 P) L L)))) (N (boot_o_6 P) (N (boot_o_10 P) (N (o_18_0 P) (N (o_34_12 P) (N (o_66_12 P) L L) L) (N (o_50_12 P) (N (o_82_12 P) L L) L)) (N (o_26_0 P) (N (o_42_12 P) (N (o_74_12 P) L L) L) (N (o_58_12 P) (N (o_90_12 P) L L) L))) (N (o_14_0 P) (N (o_22_0 P) (N (o_38_12 P) (N (o_70_12 P) L L) L) (N (o_54_12 P) (N (o_86_12 P) L L) L)) (N (o_30_a P) (N (o_46_12 P) (N (o_78_12 P) L L) L) (N (o_62_12 P) L L))))))
-- objs 91 toks 405
@[reducible] noncomputable def o_3_13 (P : Params) : Obj := Obj.mk (Value.type "dict") none (Data.dict (List.toArray [DictEntry.mk (PyData.keyHash P (Str.mk #[95, 95, 110, 97, 109, 101, 95, 95])) (Value.str (Str.mk #[95, 95, 110, 97, 109, 101, 95, 95]) 165) (Value.str (Str.mk #[99, 112, 121, 51, 49, 51, 46, 115, 116, 114, 105, 110, 103, 112, 114, 101, 112]) 403), DictEntry.mk (PyData.keyHash P (Str.mk #[95, 95, 100, 111, 99, 95, 95])) (Value.str (Str.mk #[95, 95, 100, 111, 99, 95, 95]) 166) Value.none, DictEntry.mk (PyData.keyHash P (Str.mk #[95, 95, 112, 97, 99, 107, 97, 103, 101, 95, 95])) (Value.str (Str.mk #[95, 95, 112, 97, 99, 107, 97, 103, 101, 95, 95]) 167) Value.none, DictEntry.mk (PyData.keyHash P (Str.mk #[95, 95, 108, 111, 97, 100, 101, 114, 95, 95])) (Value.str (Str.mk #[95, 95, 108, 111, 97, 100, 101, 114, 95, 95]) 168) (Value.builtin "__main__.__loader__#opaque"), DictEntry.mk (PyData.keyHash P (Str.mk #[95, 95, 115, 112, 101, 99, 95, 95])) (Value.str (Str.mk #[95, 95, 115, 112, 101, 99, 95, 95]) 169) Value.none, DictEntry.mk (PyData.keyHash P (Str.mk #[95, 95, 97, 110, 110, 111, 116, 97, 116, 105, 111, 110, 115, 95, 95])) (Value.str (Str.mk #[95, 95, 97, 110, 110, 111, 116, 97, 116, 105, 111, 110, 115, 95, 95]) 170) (Value.ref 6), DictEntry.mk (PyData.keyHash P (Str.mk #[95, 95, 98, 117, 105, 108, 116, 105, 110, 115, 95, 95])) (Value.str (Str.mk #[95, 95, 98, 117, 105, 108, 116, 105, 110, 115, 95, 95]) 171) (Value.ref 4), DictEntry.mk (PyData.keyHash P (Str.mk #[95, 95, 102, 105, 108, 101, 95, 95])) (Value.str (Str.mk #[95, 95, 102, 105, 108, 101, 95, 95]) 173) (Value.str (Str.mk #[47, 99, 108, 97, 105, 109, 47, 99, 117, 116, 46, 112, 121]) 172), DictEntry.mk (PyData.keyHash P (Str.mk #[95, 95, 99, 97, 99, 104, 101, 100, 95, 95])) (Value.str (Str.mk #[95, 95, 99, 97, 99, 104, 101, 100, 95, 95]) 174) Value.none, DictEntry.mk (PyData.keyHash P (Str.mk #[95, 115, 114, 101])) (Value.str (Str.mk #[95, 115, 114, 101]) 275) (Value.ref 12), DictEntry.mk (PyData.keyHash P (Str.mk #[95, 116, 119, 105, 110, 95, 114, 101, 95, 49])) (Value.str (Str.mk #[95, 116, 119, 105, 110, 95, 114, 101, 95, 49]) 299) (Value.ref 36), DictEntry.mk (PyData.keyHash P (Str.mk #[95, 116, 119, 105, 110, 95, 114, 101, 95, 50])) (Value.str (Str.mk #[95, 116, 119, 105, 110, 95, 114, 101, 95, 50]) 341) (Value.ref 41), DictEntry.mk (PyData.keyHash P (Str.mk #[67, 82, 76, 70])) (Value.str (Str.mk #[67, 82, 76, 70]) 343) (Value.str (Str.mk #[13, 10]) 342), DictEntry.mk (PyData.keyHash P (Str.mk #[113, 117, 111, 116, 101, 100, 97, 116, 97])) (Value.str (Str.mk #[113, 117, 111, 116, 101, 100, 97, 116, 97]) 350) (Value.ref 48), DictEntry.mk (PyData.keyHash P (Str.mk #[97, 100, 100])) (Value.str (Str.mk #[97, 100, 100]) 360) (Value.ref 55), DictEntry.mk (PyData.keyHash P (Str.mk #[102, 108, 111, 111, 114, 100, 105, 118])) (Value.str (Str.mk #[102, 108, 111, 111, 114, 100, 105, 118]) 368) (Value.ref 62), DictEntry.mk (PyData.keyHash P (Str.mk #[109, 111, 100])) (Value.str (Str.mk #[109, 111, 100]) 376) (Value.ref 69), DictEntry.mk (PyData.keyHash P (Str.mk #[109, 117, 108])) (Value.str (Str.mk #[109, 117, 108]) 384) (Value.ref 76), DictEntry.mk (PyData.keyHash P (Str.mk #[115, 117, 98])) (Value.str (Str.mk #[115, 117, 98]) 392) (Value.ref 83), DictEntry.mk (PyData.keyHash P (Str.mk #[99, 111, 117, 110, 116, 79, 102])) (Value.str (Str.mk #[99, 111, 117, 110, 116, 79, 102]) 402) (Value.ref 90), DictEntry.mk (PyData.keyHash P (Str.mk #[98, 49, 95, 115, 101, 116])) (Value.str (Str.mk #[98, 49, 95, 115, 101, 116]) 464) (Value.ref 98)]) 21) (List.toArray [])
@[reducible] noncomputable def o_91_13 (P : Params) : Obj := Obj.mk (Value.type "list") none (Data.seq (List.toArray [(Value.int (173) 405), (Value.int (847) 406), (Value.int (6150) 407), (Value.int (6155) 408), (Value.int (6156) 409), (Value.int (6157) 410), (Value.int (8203) 411), (Value.int (8204) 412), (Value.int (8205) 413), (Value.int (8288) 414), (Value.int (65279) 415)]) 0) (List.toArray [])
@[reducible] noncomputable def o_92_13 (P : Params) : Obj := Obj.mk (Value.type "range") none (Data.fields (List.toArray [(Value.int (65024) 416), (Value.int (65040) 417), (Value.int (1) 418)])) (List.toArray [])
@[reducible] noncomputable def o_93_13 (P : Params) : Obj := Obj.mk (Value.type "list") none (Data.seq (List.toArray [(Value.int (65024) 421), (Value.int (65025) 422), (Value.int (65026) 423), (Value.int (65027) 424), (Value.int (65028) 425), (Value.int (65029) 426), (Value.int (65030) 427), (Value.int (65031) 428), (Value.int (65032) 429), (Value.int (65033) 430), (Value.int (65034) 431), (Value.int (65035) 432), (Value.int (65036) 433), (Value.int (65037) 434), (Value.int (65038) 435), (Value.int (65039) 436)]) 18) (List.toArray [])
@[reducible] noncomputable def o_94_13 (P : Params) : Obj := Obj.mk (Value.type "range_iterator") none (Data.fields (List.toArray [(Value.int (65040) 0), (Value.int (0) 0), (Value.int (1) 0)])) (List.toArray [])
@[reducible] noncomputable def o_95_13 (P : Params) : Obj := Obj.mk (Value.type "tuple") none (Data.seq (List.toArray []) 0) (List.toArray [])
@[reducible] noncomputable def o_96_13 (P : Params) : Obj := Obj.mk (Value.type "StopIteration") none (Data.fields (List.toArray [(Value.ref 95), Value.none, Value.none, Value.none, (Value.bool false), Value.none])) (List.toArray [])
@[reducible] noncomputable def o_97_13 (P : Params) : Obj := Obj.mk (Value.type "list") none (Data.seq (List.toArray [(Value.int (173) 405), (Value.int (847) 406), (Value.int (6150) 407), (Value.int (6155) 408), (Value.int (6156) 409), (Value.int (6157) 410), (Value.int (8203) 411), (Value.int (8204) 412), (Value.int (8205) 413), (Value.int (8288) 414), (Value.int (65279) 415), (Value.int (65024) 421), (Value.int (65025) 422), (Value.int (65026) 423), (Value.int (65027) 424), (Value.int (65028) 425), (Value.int (65029) 426), (Value.int (65030) 427), (Value.int (65031) 428), (Value.int (65032) 429), (Value.int (65033) 430), (Value.int (65034) 431), (Value.int (65035) 432), (Value.int (65036) 433), (Value.int (65037) 434), (Value.int (65038) 435), (Value.int (65039) 436)]) 0) (List.toArray [])
@[reducible] noncomputable def o_98_13 (P : Params) : Obj := Obj.mk (Value.type "set") none (Data.set (List.toArray [(65024, (Value.int (65024) 421)), (65025, (Value.int (65025) 422)), (65026, (Value.int (65026) 423)), (65027, (Value.int (65027) 424)), (65028, (Value.int (65028) 425)), (65029, (Value.int (65029) 426)), (6150, (Value.int (6150) 407)), (65030, (Value.int (65030) 427)), (65031, (Value.int (65031) 428)), (65032, (Value.int (65032) 429)), (65033, (Value.int (65033) 430)), (6155, (Value.int (6155) 408)), (6156, (Value.int (6156) 409)), (6157, (Value.int (6157) 410)), (8203, (Value.int (8203) 411)), (8204, (Value.int (8204) 412)), (8205, (Value.int (8205) 413)), (65034, (Value.int (65034) 431)), (65035, (Value.int (65035) 432)), (65036, (Value.int (65036) 433)), (65037, (Value.int (65037) 434)), (65038, (Value.int (65038) 435)), (65039, (Value.int (65039) 436)), (173, (Value.int (173) 405)), (847, (Value.int (847) 406)), (8288, (Value.int (8288) 414)), (65279, (Value.int (65279) 415))]) 29 (SetTable.mk 127 #[0, 1, 2, 3, 4, 5, 6, 7, 8, 9, 10, 11, 12, 13, 14, 15, 16, 17, 18, 19, 20, 21, 22, 45, 79, 96, 127] #[] 0 (!P.followText "set-order") 2 true)) (List.toArray [])
@[reducible] noncomputable def o_99_13 (P : Params) : Obj := Obj.mk (Value.type "list_iterator") none (Data.fields (List.toArray [Value.none, (Value.int (27) 0)])) (List.toArray [])
@[reducible] noncomputable def o_100_13 (P : Params) : Obj := Obj.mk (Value.type "tuple") none (Data.seq (List.toArray []) 0) (List.toArray [])
@[reducible] noncomputable def o_101_13 (P : Params) : Obj := Obj.mk (Value.type "StopIteration") none (Data.fields (List.toArray [(Value.ref 100), Value.none, Value.none, Value.none, (Value.bool false), Value.none])) (List.toArray [])
noncomputable def tree_13 (P : Params) : BT := (N (boot_o_0 P) (N (o_1_0 P) (N (o_3_13 P) (N (boot_o_7 P) (N (o_15_0 P) (N (o_31_a P) (N (o_63_12 P) L L) (N (o_95_13 P) L L)) (N (o_47_12 P) (N (o_79_12 P) L L) L)) (N (o_23_0 P) (N (o_39_12 P) (N (o_71_12 P) L L) L) (N (o_55_12 P) (N (o_87_12 P) L L) L))) (N (o_11_0 P) (N (o_19_0 P) (N (o_35_12 P) (N (o_67_12 P) L L) (N (o_99_13 P) L L)) (N (o_51_12 P) (N (o_83_12 P) L L) L)) (N (o_27_0 P) (N (o_43_12 P) (N (o_75_12 P) L L) L) (N (o_59_12 P) (N (o_91_13 P) L L) L)))) (N (boot_o_5 P) (N (boot_o_9 P) (N (o_17_0 P) (N (o_33_12 P) (N (o_65_12 P) L L) (N (o_97_13 P) L L)) (N (o_49_12 P) (N (o_81_12 P) L L) L)) (N (o_25_0 P) (N (o_41_12 P) (N (o_73_12 P) L L) L) (N (o_57_12 P) (N (o_89_12 P) L L) L))) (N (o_13_0 P) (N (o_21_0 P) (N (o_37_12 P) (N (o_69_12 P) L L) (N (o_101_13 P) L L)) (N (o_53_12 P) (N (o_85_12 P) L L) L)) (N (o_29_12 P) (N (o_45_12 P) (N (o_77_12 P) L L) L) (N (o_61_12 P) (N (o_93_13 P) L L) L))))) (N (o_2_0 P) (N (boot_o_4 P) (N (boot_o_8 P) (N (o_16_0 P) (N (o_32_12 P) (N (o_64_12 P) L L) (N (o_96_13 P) L L)) (N (o_48_12 P) (N (o_80_12 P) L L) L)) (N (o_24_0 P) (N (o_40_12 P) (N (o_72_12 P) L L) L) (N (o_56_12 P) (N (o_88_12 P) L L) L))) (N (o_12_0 P) (N (o_20_0 P) (N (o_36_12 P) (N (o_68_12 P) L L) (N (o_100_13 P) L L)) (N (o_52_12 P) (N (o_84_12 P) L L) L)) (N (o_28_a P) (N (o_44_12 P) (N (o_76_12 P) L L) L) (N (o_60_12 P) (N (o_92_13 P) L L) L)))) (N (boot_o_6 P) (N (boot_o_10 P) (N (o_18_0 P) (N (o_34_12 P) (N (o_66_12 P) L L) (N (o_98_13 P) L L)) (N (o_50_12 P) (N (o_82_12 P) L L) L)) (N (o_26_0 P) (N (o_42_12 P) (N (o_74_12 P) L L) L) (N (o_58_12 P) (N (o_90_12 P) L L) L))) (N (o_14_0 P) (N (o_22_0 P) (N (o_38_12 P) (N (o_70_12 P) L L) L) (N (o_54_12 P) (N (o_86_12 P) L L) L)) (N (o_30_a P) (N (o_46_12 P) (N (o_78_12 P) L L) L) (N (o_62_12 P) (N (o_94_13 P) L L) L))))))
-- objs 102 toks 465
@[reducible] noncomputable def o_3_14 (P : Params) : Obj := Obj.mk (Value.type "dict") none (Data.dict (List.toArray [DictEntry.mk (PyData.keyHash P (Str.mk #[95, 95, 110, 97, 109, 101, 95, 95])) (Value.str (Str.mk #[95, 95, 110, 97, 109, 101, 95, 95]) 165) (Value.str (Str.mk #[99, 112, 121, 51, 49, 51, 46, 115, 116, 114, 105, 110, 103, 112, 114, 101, 112]) 403), DictEntry.mk (PyData.keyHash P (Str.mk #[95, 95, 100, 111, 99, 95, 95])) (Value.str (Str.mk #[95, 95, 100, 111, 99, 95, 95]) 166) Value.none, DictEntry.mk (PyData.keyHash P (Str.mk #[95, 95, 112, 97, 99, 107, 97, 103, 101, 95, 95])) (Value.str (Str.mk #[95, 95, 112, 97, 99, 107, 97, 103, 101, 95, 95]) 167) Value.none, DictEntry.mk (PyData.keyHash P (Str.mk #[95, 95, 108, 111, 97, 100, 101, 114, 95, 95])) (Value.str (Str.mk #[95, 95, 108, 111, 97, 100, 101, 114, 95, 95]) 168) (Value.builtin "__main__.__loader__#opaque"), DictEntry.mk (PyData.keyHash P (Str.mk #[95, 95, 115, 112, 101, 99, 95, 95])) (Value.str (Str.mk #[95, 95, 115, 112, 101, 99, 95, 95]) 169) Value.none, DictEntry.mk (PyData.keyHash P (Str.mk #[95, 95, 97, 110, 110, 111, 116, 97, 116, 105, 111, 110, 115, 95, 95])) (Value.str (Str.mk #[95, 95, 97, 110, 110, 111, 116, 97, 116, 105, 111, 110, 115, 95, 95]) 170) (Value.ref 6), DictEntry.mk (PyData.keyHash P (Str.mk #[95, 95, 98, 117, 105, 108, 116, 105, 110, 115, 95, 95])) (Value.str (Str.mk #[95, 95, 98, 117, 105, 108, 116, 105, 110, 115, 95, 95]) 171) (Value.ref 4), DictEntry.mk (PyData.keyHash P (Str.mk #[95, 95, 102, 105, 108, 101, 95, 95])) (Value.str (Str.mk #[95, 95, 102, 105, 108, 101, 95, 95]) 173) (Value.str (Str.mk #[47, 99, 108, 97, 105, 109, 47, 99, 117, 116, 46, 112, 121]) 172), DictEntry.mk (PyData.keyHash P (Str.mk #[95, 95, 99, 97, 99, 104, 101, 100, 95, 95])) (Value.str (Str.mk #[95, 95, 99, 97, 99, 104, 101, 100, 95, 95]) 174) Value.none, DictEntry.mk (PyData.keyHash P (Str.mk #[95, 115, 114, 101])) (Value.str (Str.mk #[95, 115, 114, 101]) 275) (Value.ref 12), DictEntry.mk (PyData.keyHash P (Str.mk #[95, 116, 119, 105, 110, 95, 114, 101, 95, 49])) (Value.str (Str.mk #[95, 116, 119, 105, 110, 95, 114, 101, 95, 49]) 299) (Value.ref 36), DictEntry.mk (PyData.keyHash P (Str.mk #[95, 116, 119, 105, 110, 95, 114, 101, 95, 50])) (Value.str (Str.mk #[95, 116, 119, 105, 110, 95, 114, 101, 95, 50]) 341) (Value.ref 41), DictEntry.mk (PyData.keyHash P (Str.mk #[67, 82, 76, 70])) (Value.str (Str.mk #[67, 82, 76, 70]) 343) (Value.str (Str.mk #[13, 10]) 342), DictEntry.mk (PyData.keyHash P (Str.mk #[113, 117, 111, 116, 101, 100, 97, 116, 97])) (Value.str (Str.mk #[113, 117, 111, 116, 101, 100, 97, 116, 97]) 350) (Value.ref 48), DictEntry.mk (PyData.keyHash P (Str.mk #[97, 100, 100])) (Value.str (Str.mk #[97, 100, 100]) 360) (Value.ref 55), DictEntry.mk (PyData.keyHash P (Str.mk #[102, 108, 111, 111, 114, 100, 105, 118])) (Value.str (Str.mk #[102, 108, 111, 111, 114, 100, 105, 118]) 368) (Value.ref 62), DictEntry.mk (PyData.keyHash P (Str.mk #[109, 111, 100])) (Value.str (Str.mk #[109, 111, 100]) 376) (Value.ref 69), DictEntry.mk (PyData.keyHash P (Str.mk #[109, 117, 108])) (Value.str (Str.mk #[109, 117, 108]) 384) (Value.ref 76), DictEntry.mk (PyData.keyHash P (Str.mk #[115, 117, 98])) (Value.str (Str.mk #[115, 117, 98]) 392) (Value.ref 83), DictEntry.mk (PyData.keyHash P (Str.mk #[99, 111, 117, 110, 116, 79, 102])) (Value.str (Str.mk #[99, 111, 117, 110, 116, 79, 102]) 402) (Value.ref 90), DictEntry.mk (PyData.keyHash P (Str.mk #[98, 49, 95, 115, 101, 116])) (Value.str (Str.mk #[98, 49, 95, 115, 101, 116]) 464) (Value.ref 98), DictEntry.mk (PyData.keyHash P (Str.mk #[105, 110, 95, 116, 97, 98, 108, 101, 95, 98, 49])) (Value.str (Str.mk #[105, 110, 95, 116, 97, 98, 108, 101, 95, 98, 49]) 471) (Value.ref 108)]) 22) (List.toArray [])
@[reducible] noncomputable def o_29_14 (P : Params) : Obj := Obj.mk Value.none none (Data.fields (List.toArray [(Value.int (6) 0), (Value.int (0) 0), (Value.ref 47), (Value.int (9) 0), (Value.int (0) 0), (Value.ref 54), (Value.int (11) 0), (Value.int (0) 0), (Value.ref 61), (Value.int (13) 0), (Value.int (0) 0), (Value.ref 68), (Value.int (15) 0), (Value.int (0) 0), (Value.ref 75), (Value.int (17) 0), (Value.int (0) 0), (Value.ref 82), (Value.int (19) 0), (Value.int (0) 0), (Value.ref 89), (Value.int (27) 0), (Value.int (0) 0), (Value.ref 107)])) (List.toArray [])
@[reducible] noncomputable def o_102_14 (P : Params) : Obj := Obj.mk (Value.type "tuple") none (Data.seq (List.toArray []) 0) (List.toArray [])
@[reducible] noncomputable def o_103_14 (P : Params) : Obj := Obj.mk Value.none none (Data.fields (List.toArray [])) (List.toArray [])
@[reducible] noncomputable def o_104_14 (P : Params) : Obj := Obj.mk (Value.type "tuple") none (Data.seq (List.toArray [(Value.str (Str.mk #[99, 111, 100, 101]) 468)]) 0) (List.toArray [])
@[reducible] noncomputable def o_105_14 (P : Params) : Obj := Obj.mk (Value.type "tuple") none (Data.seq (List.toArray []) 0) (List.toArray [])
@[reducible] noncomputable def o_106_14 (P : Params) : Obj := Obj.mk Value.none none (Data.func (FuncData.mk (Str.mk #[105, 110, 95, 116, 97, 98, 108, 101, 95, 98, 49]) (Str.mk #[105, 110, 95, 116, 97, 98, 108, 101, 95, 98, 49]) (fArgs 14) (FuncBody.stmts (fBody 14)) (fScope 14) 0 [] Value.none Value.none Value.none Value.none none Value.none Value.none 0)) (List.toArray [])
@[reducible] noncomputable def o_107_14 (P : Params) : Obj := Obj.mk (Value.type "code") none (Data.fields (List.toArray [(Value.str (Str.mk #[105, 110, 95, 116, 97, 98, 108, 101, 95, 98, 49]) 465), (Value.str (Str.mk #[105, 110, 95, 116, 97, 98, 108, 101, 95, 98, 49]) 466), (Value.str (Str.mk #[47, 99, 108, 97, 105, 109, 47, 99, 117, 116, 46, 112, 121]) 467), (Value.int (27) 0), (Value.int (1) 0), (Value.int (0) 0), (Value.int (0) 0), (Value.int (3) 0), (Value.ref 102), (Value.bool true), (Value.int (276) 0), (Value.ref 103), Value.none, (Value.ref 104), (Value.ref 105), (Value.ref 106), (Value.int (469) 0), (Value.int (27) 0), (Value.str (Str.mk #[47, 99, 108, 97, 105, 109, 47, 99, 117, 116, 46, 112, 121]) 470)])) (List.toArray [])
@[reducible] noncomputable def o_108_14 (P : Params) : Obj := Obj.mk (Value.type "function") none (Data.func (FuncData.mk (Str.mk #[105, 110, 95, 116, 97, 98, 108, 101, 95, 98, 49]) (Str.mk #[105, 110, 95, 116, 97, 98, 108, 101, 95, 98, 49]) (fArgs 14) (FuncBody.stmts (fBody 14)) (fScope 14) 3 [] Value.none Value.none Value.none (Value.str (Str.mk #[99, 112, 121, 51, 49, 51, 46, 115, 116, 114, 105, 110, 103, 112, 114, 101, 112]) 403) none (Value.ref 107) Value.none 0)) (List.toArray [])
noncomputable def tree_14 (P : Params) : BT := (N (boot_o_0 P) (N (o_1_0 P) (N (o_3_14 P) (N (boot_o_7 P) (N (o_15_0 P) (N (o_31_a P) (N (o_63_12 P) L L) (N (o_95_13 P) L L)) (N (o_47_12 P) (N (o_79_12 P) L L) L)) (N (o_23_0 P) (N (o_39_12 P) (N (o_71_12 P) L L) (N (o_103_14 P) L L)) (N (o_55_12 P) (N (o_87_12 P) L L) L))) (N (o_11_0 P) (N (o_19_0 P) (N (o_35_12 P) (N (o_67_12 P) L L) (N (o_99_13 P) L L)) (N (o_51_12 P) (N (o_83_12 P) L L) L)) (N (o_27_0 P) (N (o_43_12 P) (N (o_75_12 P) L L) (N (o_107_14 P) L L)) (N (o_59_12 P) (N (o_91_13 P) L L) L)))) (N (boot_o_5 P) (N (boot_o_9 P) (N (o_17_0 P) (N (o_33_12 P) (N (o_65_12 P) L L) (N (o_97_13 P) L L)) (N (o_49_12 P) (N (o_81_12 P) L L) L)) (N (o_25_0 P) (N (o_41_12 P) (N (o_73_12 P) L L) (N (o_105_14 P) L L)) (N (o_57_12 P) (N (o_89_12 P) L L) L))) (N (o_13_0 P) (N (o_21_0 P) (N (o_37_12 P) (N (o_69_12 P) L L) (N (o_101_13 P) L L)) (N (o_53_12 P) (N (o_85_12 P) L L) L)) (N (o_29_14 P) (N (o_45_12 P) (N (o_77_12 P) L L) L) (N (o_61_12 P) (N (o_93_13 P) L L) L))))) (N (o_2_0 P) (N (boot_o_4 P) (N (boot_o_8 P) (N (o_16_0 P) (N (o_32_12 P) (N (o_64_12 P) L L) (N (o_96_13 P) L L)) (N (o_48_12 P) (N (o_80_12 P) L L) L)) (N (o_24_0 P) (N (o_40_12 P) (N (o_72_12 P) L L) (N (o_104_14 P) L L)) (N (o_56_12 P) (N (o_88_12 P) L L) L))) (N (o_12_0 P) (N (o_20_0 P) (N (o_36_12 P) (N (o_68_12 P) L L) (N (o_100_13 P) L L)) (N (o_52_12 P) (N (o_84_12 P) L L) L)) (N (o_28_a P) (N (o_44_12 P) (N (o_76_12 P) L L) (N (o_108_14 P) L L)) (N (o_60_12 P) (N (o_92_13 P) L L) L)))) (N (boot_o_6 P) (N (boot_o_10 P) (N (o_18_0 P) (N (o_34_12 P) (N (o_66_12 P) L L) (N (o_98_13 P) L L)) (N (o_50_12 P) (N (o_82_12 P) L L) L)) (N (o_26_0 P) (N (o_42_12 P) (N (o_74_12 P) L L) (N (o_106_14 P) L L)) (N (o_58_12 P) (N (o_90_12 P) L L) L))) (N (o_14_0 P) (N (o_22_0 P) (N (o_38_12 P) (N (o_70_12 P) L L) (N (o_102_14 P) L L)) (N (o_54_12 P) (N (o_86_12 P) L L) L)) (N (o_30_a P) (N (o_46_12 P) (N (o_78_12 P) L L) L) (N (o_62_12 P) (N (o_94_13 P) L L) L))))))
-- objs 109 toks 472
@[reducible] noncomputable def o_3_15 (P : Params) : Obj := Obj.mk (Value.type "dict") none (Data.dict (List.toArray [DictEntry.mk (PyData.keyHash P (Str.mk #[95, 95, 110, 97, 109, 101, 95, 95])) (Value.str (Str.mk #[95, 95, 110, 97, 109, 101, 95, 95]) 165) (Value.str (Str.mk #[99, 112, 121, 51, 49, 51, 46, 115, 116, 114, 105, 110, 103, 112, 114, 101, 112]) 403), DictEntry.mk (PyData.keyHash P (Str.mk #[95, 95, 100, 111, 99, 95, 95])) (Value.str (Str.mk #[95, 95, 100, 111, 99, 95, 95]) 166) Value.none, DictEntry.mk (PyData.keyHash P (Str.mk #[95, 95, 112, 97, 99, 107, 97, 103, 101, 95, 95])) (Value.str (Str.mk #[95, 95, 112, 97, 99, 107, 97, 103, 101, 95, 95]) 167) Value.none, DictEntry.mk (PyData.keyHash P (Str.mk #[95, 95, 108, 111, 97, 100, 101, 114, 95, 95])) (Value.str (Str.mk #[95, 95, 108, 111, 97, 100, 101, 114, 95, 95]) 168) (Value.builtin "__main__.__loader__#opaque"), DictEntry.mk (PyData.keyHash P (Str.mk #[95, 95, 115, 112, 101, 99, 95, 95])) (Value.str (Str.mk #[95, 95, 115, 112, 101, 99, 95, 95]) 169) Value.none, DictEntry.mk (PyData.keyHash P (Str.mk #[95, 95, 97, 110, 110, 111, 116, 97, 116, 105, 111, 110, 115, 95, 95])) (Value.str (Str.mk #[95, 95, 97, 110, 110, 111, 116, 97, 116, 105, 111, 110, 115, 95, 95]) 170) (Value.ref 6), DictEntry.mk (PyData.keyHash P (Str.mk #[95, 95, 98, 117, 105, 108, 116, 105, 110, 115, 95, 95])) (Value.str (Str.mk #[95, 95, 98, 117, 105, 108, 116, 105, 110, 115, 95, 95]) 171) (Value.ref 4), DictEntry.mk (PyData.keyHash P (Str.mk #[95, 95, 102, 105, 108, 101, 95, 95])) (Value.str (Str.mk #[95, 95, 102, 105, 108, 101, 95, 95]) 173) (Value.str (Str.mk #[47, 99, 108, 97, 105, 109, 47, 99, 117, 116, 46, 112, 121]) 172), DictEntry.mk (PyData.keyHash P (Str.mk #[95, 95, 99, 97, 99, 104, 101, 100, 95, 95])) (Value.str (Str.mk #[95, 95, 99, 97, 99, 104, 101, 100, 95, 95]) 174) Value.none, DictEntry.mk (PyData.keyHash P (Str.mk #[95, 115, 114, 101])) (Value.str (Str.mk #[95, 115, 114, 101]) 275) (Value.ref 12), DictEntry.mk (PyData.keyHash P (Str.mk #[95, 116, 119, 105, 110, 95, 114, 101, 95, 49])) (Value.str (Str.mk #[95, 116, 119, 105, 110, 95, 114, 101, 95, 49]) 299) (Value.ref 36), DictEntry.mk (PyData.keyHash P (Str.mk #[95, 116, 119, 105, 110, 95, 114, 101, 95, 50])) (Value.str (Str.mk #[95, 116, 119, 105, 110, 95, 114, 101, 95, 50]) 341) (Value.ref 41), DictEntry.mk (PyData.keyHash P (Str.mk #[67, 82, 76, 70])) (Value.str (Str.mk #[67, 82, 76, 70]) 343) (Value.str (Str.mk #[13, 10]) 342), DictEntry.mk (PyData.keyHash P (Str.mk #[113, 117, 111, 116, 101, 100, 97, 116, 97])) (Value.str (Str.mk #[113, 117, 111, 116, 101, 100, 97, 116, 97]) 350) (Value.ref 48), DictEntry.mk (PyData.keyHash P (Str.mk #[97, 100, 100])) (Value.str (Str.mk #[97, 100, 100]) 360) (Value.ref 55), DictEntry.mk (PyData.keyHash P (Str.mk #[102, 108, 111, 111, 114, 100, 105, 118])) (Value.str (Str.mk #[102, 108, 111, 111, 114, 100, 105, 118]) 368) (Value.ref 62), DictEntry.mk (PyData.keyHash P (Str.mk #[109, 111, 100])) (Value.str (Str.mk #[109, 111, 100]) 376) (Value.ref 69), DictEntry.mk (PyData.keyHash P (Str.mk #[109, 117, 108])) (Value.str (Str.mk #[109, 117, 108]) 384) (Value.ref 76), DictEntry.mk (PyData.keyHash P (Str.mk #[115, 117, 98])) (Value.str (Str.mk #[115, 117, 98]) 392) (Value.ref 83), DictEntry.mk (PyData.keyHash P (Str.mk #[99, 111, 117, 110, 116, 79, 102])) (Value.str (Str.mk #[99, 111, 117, 110, 116, 79, 102]) 402) (Value.ref 90), DictEntry.mk (PyData.keyHash P (Str.mk #[98, 49, 95, 115, 101, 116])) (Value.str (Str.mk #[98, 49, 95, 115, 101, 116]) 464) (Value.ref 98), DictEntry.mk (PyData.keyHash P (Str.mk #[105, 110, 95, 116, 97, 98, 108, 101, 95, 98, 49])) (Value.str (Str.mk #[105, 110, 95, 116, 97, 98, 108, 101, 95, 98, 49]) 471) (Value.ref 108), DictEntry.mk (PyData.keyHash P (Str.mk #[98, 51, 95, 101, 120, 99, 101, 112, 116, 105, 111, 110, 115])) (Value.str (Str.mk #[98, 51, 95, 101, 120, 99, 101, 112, 116, 105, 111, 110, 115]) 2422) (Value.ref 109)]) 23) (List.toArray [])
noncomputable def b3all : List DictEntry := ents b3c0 472 ++ (ents b3cs.flatten 523 ++ entsS b3l 2410)
noncomputable def b3subs : List Obj := subsOf b3cs 523 ++ [dO (entsS b3l 2410)]
@[reducible] noncomputable def o_109_15 (P : Params) : Obj := dO b3all
@[reducible] noncomputable def o_110_15 (P : Params) : Obj := b3subs.getD 0 default
@[reducible] noncomputable def o_111_15 (P : Params) : Obj := b3subs.getD 1 default
@[reducible] noncomputable def o_112_15 (P : Params) : Obj := b3subs.getD 2 default
@[reducible] noncomputable def o_113_15 (P : Params) : Obj := b3subs.getD 3 default
@[reducible] noncomputable def o_114_15 (P : Params) : Obj := b3subs.getD 4 default
@[reducible] noncomputable def o_115_15 (P : Params) : Obj := b3subs.getD 5 default
@[reducible] noncomputable def o_116_15 (P : Params) : Obj := b3subs.getD 6 default
@[reducible] noncomputable def o_117_15 (P : Params) : Obj := b3subs.getD 7 default
@[reducible] noncomputable def o_118_15 (P : Params) : Obj := b3subs.getD 8 default
@[reducible] noncomputable def o_119_15 (P : Params) : Obj := b3subs.getD 9 default
@[reducible] noncomputable def o_120_15 (P : Params) : Obj := b3subs.getD 10 default
@[reducible] noncomputable def o_121_15 (P : Params) : Obj := b3subs.getD 11 default
@[reducible] noncomputable def o_122_15 (P : Params) : Obj := b3subs.getD 12 default
@[reducible] noncomputable def o_123_15 (P : Params) : Obj := b3subs.getD 13 default
@[reducible] noncomputable def o_124_15 (P : Params) : Obj := b3subs.getD 14 default
@[reducible] noncomputable def o_125_15 (P : Params) : Obj := b3subs.getD 15 default
@[reducible] noncomputable def o_126_15 (P : Params) : Obj := b3subs.getD 16 default
@[reducible] noncomputable def o_127_15 (P : Params) : Obj := b3subs.getD 17 default
@[reducible] noncomputable def o_128_15 (P : Params) : Obj := b3subs.getD 18 default
@[reducible] noncomputable def o_129_15 (P : Params) : Obj := b3subs.getD 19 default
@[reducible] noncomputable def o_130_15 (P : Params) : Obj := b3subs.getD 20 default
@[reducible] noncomputable def o_131_15 (P : Params) : Obj := b3subs.getD 21 default
@[reducible] noncomputable def o_132_15 (P : Params) : Obj := b3subs.getD 22 default
@[reducible] noncomputable def o_133_15 (P : Params) : Obj := b3subs.getD 23 default
@[reducible] noncomputable def o_134_15 (P : Params) : Obj := b3subs.getD 24 default
@[reducible] noncomputable def o_135_15 (P : Params) : Obj := b3subs.getD 25 default
@[reducible] noncomputable def o_136_15 (P : Params) : Obj := b3subs.getD 26 default
@[reducible] noncomputable def o_137_15 (P : Params) : Obj := b3subs.getD 27 default
@[reducible] noncomputable def o_138_15 (P : Params) : Obj := b3subs.getD 28 default
@[reducible] noncomputable def o_139_15 (P : Params) : Obj := b3subs.getD 29 default
@[reducible] noncomputable def o_140_15 (P : Params) : Obj := b3subs.getD 30 default
@[reducible] noncomputable def o_141_15 (P : Params) : Obj := b3subs.getD 31 default
@[reducible] noncomputable def o_142_15 (P : Params) : Obj := b3subs.getD 32 default
@[reducible] noncomputable def o_143_15 (P : Params) : Obj := b3subs.getD 33 default
@[reducible] noncomputable def o_144_15 (P : Params) : Obj := b3subs.getD 34 default
@[reducible] noncomputable def o_145_15 (P : Params) : Obj := b3subs.getD 35 default
@[reducible] noncomputable def o_146_15 (P : Params) : Obj := b3subs.getD 36 default
@[reducible] noncomputable def o_147_15 (P : Params) : Obj := b3subs.getD 37 default
noncomputable def tree_15 (P : Params) : BT := (N (boot_o_0 P) (N (o_1_0 P) (N (o_3_15 P) (N (boot_o_7 P) (N (o_15_0 P) (N (o_31_a P) (N (o_63_12 P) (N (o_127_15 P) L L) L) (N (o_95_13 P) L L)) (N (o_47_12 P) (N (o_79_12 P) (N (o_143_15 P) L L) L) (N (o_111_15 P) L L))) (N (o_23_0 P) (N (o_39_12 P) (N (o_71_12 P) (N (o_135_15 P) L L) L) (N (o_103_14 P) L L)) (N (o_55_12 P) (N (o_87_12 P) L L) (N (o_119_15 P) L L)))) (N (o_11_0 P) (N (o_19_0 P) (N (o_35_12 P) (N (o_67_12 P) (N (o_131_15 P) L L) L) (N (o_99_13 P) L L)) (N (o_51_12 P) (N (o_83_12 P) (N (o_147_15 P) L L) L) (N (o_115_15 P) L L))) (N (o_27_0 P) (N (o_43_12 P) (N (o_75_12 P) (N (o_139_15 P) L L) L) (N (o_107_14 P) L L)) (N (o_59_12 P) (N (o_91_13 P) L L) (N (o_123_15 P) L L))))) (N (boot_o_5 P) (N (boot_o_9 P) (N (o_17_0 P) (N (o_33_12 P) (N (o_65_12 P) (N (o_129_15 P) L L) L) (N (o_97_13 P) L L)) (N (o_49_12 P) (N (o_81_12 P) (N (o_145_15 P) L L) L) (N (o_113_15 P) L L))) (N (o_25_0 P) (N (o_41_12 P) (N (o_73_12 P) (N (o_137_15 P) L L) L) (N (o_105_14 P) L L)) (N (o_57_12 P) (N (o_89_12 P) L L) (N (o_121_15 P) L L)))) (N (o_13_0 P) (N (o_21_0 P) (N (o_37_12 P) (N (o_69_12 P) (N (o_133_15 P) L L) L) (N (o_101_13 P) L L)) (N (o_53_12 P) (N (o_85_12 P) L L) (N (o_117_15 P) L L))) (N (o_29_14 P) (N (o_45_12 P) (N (o_77_12 P) (N (o_141_15 P) L L) L) (N (o_109_15 P) L L)) (N (o_61_12 P) (N (o_93_13 P) L L) (N (o_125_15 P) L L)))))) (N (o_2_0 P) (N (boot_o_4 P) (N (boot_o_8 P) (N (o_16_0 P) (N (o_32_12 P) (N (o_64_12 P) (N (o_128_15 P) L L) L) (N (o_96_13 P) L L)) (N (o_48_12 P) (N (o_80_12 P) (N (o_144_15 P) L L) L) (N (o_112_15 P) L L))) (N (o_24_0 P) (N (o_40_12 P) (N (o_72_12 P) (N (o_136_15 P) L L) L) (N (o_104_14 P) L L)) (N (o_56_12 P) (N (o_88_12 P) L L) (N (o_120_15 P) L L)))) (N (o_12_0 P) (N (o_20_0 P) (N (o_36_12 P) (N (o_68_12 P) (N (o_132_15 P) L L) L) (N (o_100_13 P) L L)) (N (o_52_12 P) (N (o_84_12 P) L L) (N (o_116_15 P) L L))) (N (o_28_a P) (N (o_44_12 P) (N (o_76_12 P) (N (o_140_15 P) L L) L) (N (o_108_14 P) L L)) (N (o_60_12 P) (N (o_92_13 P) L L) (N (o_124_15 P) L L))))) (N (boot_o_6 P) (N (boot_o_10 P) (N (o_18_0 P) (N (o_34_12 P) (N (o_66_12 P) (N (o_130_15 P) L L) L) (N (o_98_13 P) L L)) (N (o_50_12 P) (N (o_82_12 P) (N (o_146_15 P) L L) L) (N (o_114_15 P) L L))) (N (o_26_0 P) (N (o_42_12 P) (N (o_74_12 P) (N (o_138_15 P) L L) L) (N (o_106_14 P) L L)) (N (o_58_12 P) (N (o_90_12 P) L L) (N (o_122_15 P) L L)))) (N (o_14_0 P) (N (o_22_0 P) (N (o_38_12 P) (N (o_70_12 P) (N (o_134_15 P) L L) L) (N (o_102_14 P) L L)) (N (o_54_12 P) (N (o_86_12 P) L L) (N (o_118_15 P) L L))) (N (o_30_a P) (N (o_46_12 P) (N (o_78_12 P) (N (o_142_15 P) L L) L) (N (o_110_15 P) L L)) (N (o_62_12 P) (N (o_94_13 P) L L) (N (o_126_15 P) L L)))))))
-- objs 148 toks 2423
@[reducible] noncomputable def o_3_F (P : Params) : Obj := Obj.mk (Value.type "dict") none (Data.dict (List.toArray [DictEntry.mk (PyData.keyHash P (Str.mk #[95, 95, 110, 97, 109, 101, 95, 95])) (Value.str (Str.mk #[95, 95, 110, 97, 109, 101, 95, 95]) 165) (Value.str (Str.mk #[108, 97, 119, 95, 116, 105, 48, 48, 50, 55, 95, 48, 49]) 2431), DictEntry.mk (PyData.keyHash P (Str.mk #[95, 95, 100, 111, 99, 95, 95])) (Value.str (Str.mk #[95, 95, 100, 111, 99, 95, 95]) 166) Value.none, DictEntry.mk (PyData.keyHash P (Str.mk #[95, 95, 112, 97, 99, 107, 97, 103, 101, 95, 95])) (Value.str (Str.mk #[95, 95, 112, 97, 99, 107, 97, 103, 101, 95, 95]) 167) Value.none, DictEntry.mk (PyData.keyHash P (Str.mk #[95, 95, 108, 111, 97, 100, 101, 114, 95, 95])) (Value.str (Str.mk #[95, 95, 108, 111, 97, 100, 101, 114, 95, 95]) 168) (Value.builtin "__main__.__loader__#opaque"), DictEntry.mk (PyData.keyHash P (Str.mk #[95, 95, 115, 112, 101, 99, 95, 95])) (Value.str (Str.mk #[95, 95, 115, 112, 101, 99, 95, 95]) 169) Value.none, DictEntry.mk (PyData.keyHash P (Str.mk #[95, 95, 97, 110, 110, 111, 116, 97, 116, 105, 111, 110, 115, 95, 95])) (Value.str (Str.mk #[95, 95, 97, 110, 110, 111, 116, 97, 116, 105, 111, 110, 115, 95, 95]) 170) (Value.ref 6), DictEntry.mk (PyData.keyHash P (Str.mk #[95, 95, 98, 117, 105, 108, 116, 105, 110, 115, 95, 95])) (Value.str (Str.mk #[95, 95, 98, 117, 105, 108, 116, 105, 110, 115, 95, 95]) 171) (Value.ref 4), DictEntry.mk (PyData.keyHash P (Str.mk #[95, 95, 102, 105, 108, 101, 95, 95])) (Value.str (Str.mk #[95, 95, 102, 105, 108, 101, 95, 95]) 173) (Value.str (Str.mk #[47, 99, 108, 97, 105, 109, 47, 99, 117, 116, 46, 112, 121]) 172), DictEntry.mk (PyData.keyHash P (Str.mk #[95, 95, 99, 97, 99, 104, 101, 100, 95, 95])) (Value.str (Str.mk #[95, 95, 99, 97, 99, 104, 101, 100, 95, 95]) 174) Value.none, DictEntry.mk (PyData.keyHash P (Str.mk #[95, 115, 114, 101])) (Value.str (Str.mk #[95, 115, 114, 101]) 275) (Value.ref 12), DictEntry.mk (PyData.keyHash P (Str.mk #[95, 116, 119, 105, 110, 95, 114, 101, 95, 49])) (Value.str (Str.mk #[95, 116, 119, 105, 110, 95, 114, 101, 95, 49]) 299) (Value.ref 36), DictEntry.mk (PyData.keyHash P (Str.mk #[95, 116, 119, 105, 110, 95, 114, 101, 95, 50])) (Value.str (Str.mk #[95, 116, 119, 105, 110, 95, 114, 101, 95, 50]) 341) (Value.ref 41), DictEntry.mk (PyData.keyHash P (Str.mk #[67, 82, 76, 70])) (Value.str (Str.mk #[67, 82, 76, 70]) 343) (Value.str (Str.mk #[13, 10]) 342), DictEntry.mk (PyData.keyHash P (Str.mk #[113, 117, 111, 116, 101, 100, 97, 116, 97])) (Value.str (Str.mk #[113, 117, 111, 116, 101, 100, 97, 116, 97]) 350) (Value.ref 48), DictEntry.mk (PyData.keyHash P (Str.mk #[97, 100, 100])) (Value.str (Str.mk #[97, 100, 100]) 360) (Value.ref 55), DictEntry.mk (PyData.keyHash P (Str.mk #[102, 108, 111, 111, 114, 100, 105, 118])) (Value.str (Str.mk #[102, 108, 111, 111, 114, 100, 105, 118]) 368) (Value.ref 62), DictEntry.mk (PyData.keyHash P (Str.mk #[109, 111, 100])) (Value.str (Str.mk #[109, 111, 100]) 376) (Value.ref 69), DictEntry.mk (PyData.keyHash P (Str.mk #[109, 117, 108])) (Value.str (Str.mk #[109, 117, 108]) 384) (Value.ref 76), DictEntry.mk (PyData.keyHash P (Str.mk #[115, 117, 98])) (Value.str (Str.mk #[115, 117, 98]) 392) (Value.ref 83), DictEntry.mk (PyData.keyHash P (Str.mk #[99, 111, 117, 110, 116, 79, 102])) (Value.str (Str.mk #[99, 111, 117, 110, 116, 79, 102]) 402) (Value.ref 90), DictEntry.mk (PyData.keyHash P (Str.mk #[98, 49, 95, 115, 101, 116])) (Value.str (Str.mk #[98, 49, 95, 115, 101, 116]) 464) (Value.ref 98), DictEntry.mk (PyData.keyHash P (Str.mk #[105, 110, 95, 116, 97, 98, 108, 101, 95, 98, 49])) (Value.str (Str.mk #[105, 110, 95, 116, 97, 98, 108, 101, 95, 98, 49]) 471) (Value.ref 108), DictEntry.mk (PyData.keyHash P (Str.mk #[98, 51, 95, 101, 120, 99, 101, 112, 116, 105, 111, 110, 115])) (Value.str (Str.mk #[98, 51, 95, 101, 120, 99, 101, 112, 116, 105, 111, 110, 115]) 2422) (Value.ref 109), DictEntry.mk (PyData.keyHash P (Str.mk #[109, 97, 112, 95, 116, 97, 98, 108, 101, 95, 98, 51])) (Value.str (Str.mk #[109, 97, 112, 95, 116, 97, 98, 108, 101, 95, 98, 51]) 2430) (Value.ref 154), DictEntry.mk (PyData.keyHash P (Str.mk #[95, 108, 97, 119, 95, 114, 111, 119])) (Value.str (Str.mk #[95, 108, 97, 119, 95, 114, 111, 119]) 2449) (Value.ref 161), DictEntry.mk (PyData.keyHash P (Str.mk #[95, 108, 97, 119, 95, 100, 101, 101, 100, 115])) (Value.str (Str.mk #[95, 108, 97, 119, 95, 100, 101, 101, 100, 115]) 2455) (Value.ref 166), DictEntry.mk (PyData.keyHash P (Str.mk #[95, 108, 97, 119, 95, 112, 114, 101, 112, 97, 114, 101, 100])) (Value.str (Str.mk #[95, 108, 97, 119, 95, 112, 114, 101, 112, 97, 114, 101, 100]) 2465) (Value.ref 173), DictEntry.mk (PyData.keyHash P (Str.mk #[95, 108, 97, 119, 95, 109, 97, 105, 108])) (Value.str (Str.mk #[95, 108, 97, 119, 95, 109, 97, 105, 108]) 2478) (Value.ref 180), DictEntry.mk (PyData.keyHash P (Str.mk #[95, 108, 97, 119, 95, 116, 111, 108, 100])) (Value.str (Str.mk #[95, 108, 97, 119, 95, 116, 111, 108, 100]) 2484) (Value.ref 185), DictEntry.mk (PyData.keyHash P (Str.mk #[95, 108, 97, 119, 95, 119, 97, 108, 107])) (Value.str (Str.mk #[95, 108, 97, 119, 95, 119, 97, 108, 107]) 2496) (Value.ref 192), DictEntry.mk (PyData.keyHash P (Str.mk #[95, 108, 97, 119, 95, 114, 111, 111, 107, 115])) (Value.str (Str.mk #[95, 108, 97, 119, 95, 114, 111, 111, 107, 115]) 2502) (Value.ref 197), DictEntry.mk (PyData.keyHash P (Str.mk #[95, 108, 97, 119, 95, 102, 105, 114, 115, 116, 115])) (Value.str (Str.mk #[95, 108, 97, 119, 95, 102, 105, 114, 115, 116, 115]) 2508) (Value.ref 202), DictEntry.mk (PyData.keyHash P (Str.mk #[108, 97, 119])) (Value.str (Str.mk #[108, 97, 119]) 2514) (Value.ref 207)]) 33) (List.toArray [])
@[reducible] noncomputable def o_29_F (P : Params) : Obj := Obj.mk Value.none none (Data.fields (List.toArray [(Value.int (6) 0), (Value.int (0) 0), (Value.ref 47), (Value.int (9) 0), (Value.int (0) 0), (Value.ref 54), (Value.int (11) 0), (Value.int (0) 0), (Value.ref 61), (Value.int (13) 0), (Value.int (0) 0), (Value.ref 68), (Value.int (15) 0), (Value.int (0) 0), (Value.ref 75), (Value.int (17) 0), (Value.int (0) 0), (Value.ref 82), (Value.int (19) 0), (Value.int (0) 0), (Value.ref 89), (Value.int (27) 0), (Value.int (0) 0), (Value.ref 107), (Value.int (30) 0), (Value.int (0) 0), (Value.ref 153), (Value.int (36) 0), (Value.int (0) 0), (Value.ref 160), (Value.int (54) 0), (Value.int (0) 0), (Value.ref 165), (Value.int (58) 0), (Value.int (0) 0), (Value.ref 172), (Value.int (67) 0), (Value.int (0) 0), (Value.ref 179), (Value.int (77) 0), (Value.int (0) 0), (Value.ref 184), (Value.int (91) 0), (Value.int (0) 0), (Value.ref 191), (Value.int (107) 0), (Value.int (0) 0), (Value.ref 196), (Value.int (121) 0), (Value.int (0) 0), (Value.ref 201), (Value.int (127) 0), (Value.int (0) 0), (Value.ref 206)])) (List.toArray [])
@[reducible] noncomputable def o_148_F (P : Params) : Obj := Obj.mk (Value.type "tuple") none (Data.seq (List.toArray []) 0) (List.toArray [])
@[reducible] noncomputable def o_149_F (P : Params) : Obj := Obj.mk Value.none none (Data.fields (List.toArray [])) (List.toArray [])
@[reducible] noncomputable def o_150_F (P : Params) : Obj := Obj.mk (Value.type "tuple") none (Data.seq (List.toArray [(Value.str (Str.mk #[99, 111, 100, 101]) 2426), (Value.str (Str.mk #[114]) 2427)]) 0) (List.toArray [])
@[reducible] noncomputable def o_151_F (P : Params) : Obj := Obj.mk (Value.type "tuple") none (Data.seq (List.toArray []) 0) (List.toArray [])
@[reducible] noncomputable def o_152_F (P : Params) : Obj := Obj.mk Value.none none (Data.func (FuncData.mk (Str.mk #[109, 97, 112, 95, 116, 97, 98, 108, 101, 95, 98, 51]) (Str.mk #[109, 97, 112, 95, 116, 97, 98, 108, 101, 95, 98, 51]) (fArgs 16) (FuncBody.stmts (fBody 16)) (fScope 16) 0 [] Value.none Value.none Value.none Value.none none Value.none Value.none 0)) (List.toArray [])
@[reducible] noncomputable def o_153_F (P : Params) : Obj := Obj.mk (Value.type "code") none (Data.fields (List.toArray [(Value.str (Str.mk #[109, 97, 112, 95, 116, 97, 98, 108, 101, 95, 98, 51]) 2423), (Value.str (Str.mk #[109, 97, 112, 95, 116, 97, 98, 108, 101, 95, 98, 51]) 2424), (Value.str (Str.mk #[47, 99, 108, 97, 105, 109, 47, 99, 117, 116, 46, 112, 121]) 2425), (Value.int (30) 0), (Value.int (1) 0), (Value.int (0) 0), (Value.int (0) 0), (Value.int (3) 0), (Value.ref 148), (Value.bool true), (Value.int (276) 0), (Value.ref 149), Value.none, (Value.ref 150), (Value.ref 151), (Value.ref 152), (Value.int (2428) 0), (Value.int (30) 0), (Value.str (Str.mk #[47, 99, 108, 97, 105, 109, 47, 99, 117, 116, 46, 112, 121]) 2429)])) (List.toArray [])
@[reducible] noncomputable def o_154_F (P : Params) : Obj := Obj.mk (Value.type "function") none (Data.func (FuncData.mk (Str.mk #[109, 97, 112, 95, 116, 97, 98, 108, 101, 95, 98, 51]) (Str.mk #[109, 97, 112, 95, 116, 97, 98, 108, 101, 95, 98, 51]) (fArgs 16) (FuncBody.stmts (fBody 16)) (fScope 16) 3 [] Value.none Value.none Value.none (Value.str (Str.mk #[99, 112, 121, 51, 49, 51, 46, 115, 116, 114, 105, 110, 103, 112, 114, 101, 112]) 403) none (Value.ref 153) Value.none 0)) (List.toArray [])
@[reducible] noncomputable def o_155_F (P : Params) : Obj := Obj.mk (Value.type "tuple") none (Data.seq (List.toArray []) 0) (List.toArray [])
@[reducible] noncomputable def o_156_F (P : Params) : Obj := Obj.mk Value.none none (Data.fields (List.toArray [])) (List.toArray [])
@[reducible] noncomputable def o_157_F (P : Params) : Obj := Obj.mk (Value.type "tuple") none (Data.seq (List.toArray [(Value.str (Str.mk #[112, 108, 97, 99, 101]) 2436), (Value.str (Str.mk #[114, 101, 115, 116]) 2437), (Value.str (Str.mk #[117, 110, 115, 101, 101, 110]) 2438), (Value.str (Str.mk #[98, 101, 115, 105, 100, 101]) 2439), (Value.str (Str.mk #[118, 101, 105, 108]) 2440), (Value.str (Str.mk #[115, 116, 97, 121]) 2441), (Value.str (Str.mk #[101, 110, 100]) 2442), (Value.str (Str.mk #[97, 108, 112, 104, 97, 98, 101, 116]) 2443), (Value.str (Str.mk #[108, 101, 116, 116, 101, 114]) 2444), (Value.str (Str.mk #[102, 111, 108, 100, 101, 100]) 2445), (Value.str (Str.mk #[116, 121, 112, 101, 100]) 2446)]) 0) (List.toArray [])
@[reducible] noncomputable def o_158_F (P : Params) : Obj := Obj.mk (Value.type "tuple") none (Data.seq (List.toArray []) 0) (List.toArray [])
@[reducible] noncomputable def o_159_F (P : Params) : Obj := Obj.mk Value.none none (Data.func (FuncData.mk (Str.mk #[95, 108, 97, 119, 95, 114, 111, 119]) (Str.mk #[95, 108, 97, 119, 95, 114, 111, 119]) (fArgs 18) (FuncBody.stmts (fBody 18)) (fScope 18) 0 [] Value.none Value.none Value.none Value.none none Value.none Value.none 0)) (List.toArray [])
@[reducible] noncomputable def o_160_F (P : Params) : Obj := Obj.mk (Value.type "code") none (Data.fields (List.toArray [(Value.str (Str.mk #[95, 108, 97, 119, 95, 114, 111, 119]) 2433), (Value.str (Str.mk #[95, 108, 97, 119, 95, 114, 111, 119]) 2434), (Value.str (Str.mk #[47, 99, 108, 97, 105, 109, 47, 99, 117, 116, 46, 112, 121]) 2435), (Value.int (36) 0), (Value.int (2) 0), (Value.int (0) 0), (Value.int (0) 0), (Value.int (3) 0), (Value.ref 155), (Value.bool true), (Value.int (276) 0), (Value.ref 156), Value.none, (Value.ref 157), (Value.ref 158), (Value.ref 159), (Value.int (2447) 0), (Value.int (36) 0), (Value.str (Str.mk #[47, 99, 108, 97, 105, 109, 47, 99, 117, 116, 46, 112, 121]) 2448)])) (List.toArray [])
@[reducible] noncomputable def o_161_F (P : Params) : Obj := Obj.mk (Value.type "function") none (Data.func (FuncData.mk (Str.mk #[95, 108, 97, 119, 95, 114, 111, 119]) (Str.mk #[95, 108, 97, 119, 95, 114, 111, 119]) (fArgs 18) (FuncBody.stmts (fBody 18)) (fScope 18) 3 [] Value.none Value.none Value.none (Value.str (Str.mk #[108, 97, 119, 95, 116, 105, 48, 48, 50, 55, 95, 48, 49]) 2431) none (Value.ref 160) Value.none 0)) (List.toArray [])
@[reducible] noncomputable def o_162_F (P : Params) : Obj := Obj.mk (Value.type "tuple") none (Data.seq (List.toArray []) 0) (List.toArray [])
@[reducible] noncomputable def o_163_F (P : Params) : Obj := Obj.mk Value.none none (Data.fields (List.toArray [])) (List.toArray [])
@[reducible] noncomputable def o_164_F (P : Params) : Obj := Obj.mk Value.none none (Data.func (FuncData.mk (Str.mk #[95, 108, 97, 119, 95, 100, 101, 101, 100, 115]) (Str.mk #[95, 108, 97, 119, 95, 100, 101, 101, 100, 115]) (fArgs 19) (FuncBody.stmts (fBody 19)) (fScope 19) 0 [] Value.none Value.none Value.none Value.none none Value.none Value.none 0)) (List.toArray [])
@[reducible] noncomputable def o_165_F (P : Params) : Obj := Obj.mk (Value.type "code") none (Data.fields (List.toArray [(Value.str (Str.mk #[95, 108, 97, 119, 95, 100, 101, 101, 100, 115]) 2450), (Value.str (Str.mk #[95, 108, 97, 119, 95, 100, 101, 101, 100, 115]) 2451), (Value.str (Str.mk #[47, 99, 108, 97, 105, 109, 47, 99, 117, 116, 46, 112, 121]) 2452), (Value.int (54) 0), (Value.int (1) 0), (Value.int (0) 0), (Value.int (0) 0), (Value.int (3) 0), (Value.ref 162), (Value.bool true), (Value.int (276) 0), (Value.ref 163), Value.none, Value.none, Value.none, (Value.ref 164), (Value.int (2453) 0), (Value.int (54) 0), (Value.str (Str.mk #[47, 99, 108, 97, 105, 109, 47, 99, 117, 116, 46, 112, 121]) 2454)])) (List.toArray [])
@[reducible] noncomputable def o_166_F (P : Params) : Obj := Obj.mk (Value.type "function") none (Data.func (FuncData.mk (Str.mk #[95, 108, 97, 119, 95, 100, 101, 101, 100, 115]) (Str.mk #[95, 108, 97, 119, 95, 100, 101, 101, 100, 115]) (fArgs 19) (FuncBody.stmts (fBody 19)) (fScope 19) 3 [] Value.none Value.none Value.none (Value.str (Str.mk #[108, 97, 119, 95, 116, 105, 48, 48, 50, 55, 95, 48, 49]) 2431) none (Value.ref 165) Value.none 0)) (List.toArray [])
@[reducible] noncomputable def o_167_F (P : Params) : Obj := Obj.mk (Value.type "tuple") none (Data.seq (List.toArray []) 0) (List.toArray [])
@[reducible] noncomputable def o_168_F (P : Params) : Obj := Obj.mk Value.none none (Data.fields (List.toArray [])) (List.toArray [])
@[reducible] noncomputable def o_169_F (P : Params) : Obj := Obj.mk (Value.type "tuple") none (Data.seq (List.toArray [(Value.str (Str.mk #[116, 101, 120, 116]) 2459), (Value.str (Str.mk #[107, 101, 112, 116]) 2460), (Value.str (Str.mk #[115, 105, 103, 110]) 2461), (Value.str (Str.mk #[104, 101, 108, 100]) 2462)]) 0) (List.toArray [])
@[reducible] noncomputable def o_170_F (P : Params) : Obj := Obj.mk (Value.type "tuple") none (Data.seq (List.toArray []) 0) (List.toArray [])
@[reducible] noncomputable def o_171_F (P : Params) : Obj := Obj.mk Value.none none (Data.func (FuncData.mk (Str.mk #[95, 108, 97, 119, 95, 112, 114, 101, 112, 97, 114, 101, 100]) (Str.mk #[95, 108, 97, 119, 95, 112, 114, 101, 112, 97, 114, 101, 100]) (fArgs 20) (FuncBody.stmts (fBody 20)) (fScope 20) 0 [] Value.none Value.none Value.none Value.none none Value.none Value.none 0)) (List.toArray [])
@[reducible] noncomputable def o_172_F (P : Params) : Obj := Obj.mk (Value.type "code") none (Data.fields (List.toArray [(Value.str (Str.mk #[95, 108, 97, 119, 95, 112, 114, 101, 112, 97, 114, 101, 100]) 2456), (Value.str (Str.mk #[95, 108, 97, 119, 95, 112, 114, 101, 112, 97, 114, 101, 100]) 2457), (Value.str (Str.mk #[47, 99, 108, 97, 105, 109, 47, 99, 117, 116, 46, 112, 121]) 2458), (Value.int (58) 0), (Value.int (1) 0), (Value.int (0) 0), (Value.int (0) 0), (Value.int (3) 0), (Value.ref 167), (Value.bool true), (Value.int (276) 0), (Value.ref 168), Value.none, (Value.ref 169), (Value.ref 170), (Value.ref 171), (Value.int (2463) 0), (Value.int (58) 0), (Value.str (Str.mk #[47, 99, 108, 97, 105, 109, 47, 99, 117, 116, 46, 112, 121]) 2464)])) (List.toArray [])
@[reducible] noncomputable def o_173_F (P : Params) : Obj := Obj.mk (Value.type "function") none (Data.func (FuncData.mk (Str.mk #[95, 108, 97, 119, 95, 112, 114, 101, 112, 97, 114, 101, 100]) (Str.mk #[95, 108, 97, 119, 95, 112, 114, 101, 112, 97, 114, 101, 100]) (fArgs 20) (FuncBody.stmts (fBody 20)) (fScope 20) 3 [] Value.none Value.none Value.none (Value.str (Str.mk #[108, 97, 119, 95, 116, 105, 48, 48, 50, 55, 95, 48, 49]) 2431) none (Value.ref 172) Value.none 0)) (List.toArray [])
@[reducible] noncomputable def o_174_F (P : Params) : Obj := Obj.mk (Value.type "tuple") none (Data.seq (List.toArray []) 0) (List.toArray [])
@[reducible] noncomputable def o_175_F (P : Params) : Obj := Obj.mk Value.none none (Data.fields (List.toArray [])) (List.toArray [])
@[reducible] noncomputable def o_176_F (P : Params) : Obj := Obj.mk (Value.type "tuple") none (Data.seq (List.toArray [(Value.str (Str.mk #[100, 101, 101, 100, 115]) 2469), (Value.str (Str.mk #[109, 97, 105, 108]) 2470), (Value.str (Str.mk #[107, 105, 110, 100]) 2471), (Value.str (Str.mk #[118, 101, 105, 108]) 2472), (Value.str (Str.mk #[116, 121, 112, 101, 100]) 2473), (Value.str (Str.mk #[102, 111, 108, 100, 101, 100]) 2474), (Value.str (Str.mk #[101, 110, 100]) 2475)]) 0) (List.toArray [])
@[reducible] noncomputable def o_177_F (P : Params) : Obj := Obj.mk (Value.type "tuple") none (Data.seq (List.toArray []) 0) (List.toArray [])
@[reducible] noncomputable def o_178_F (P : Params) : Obj := Obj.mk Value.none none (Data.func (FuncData.mk (Str.mk #[95, 108, 97, 119, 95, 109, 97, 105, 108]) (Str.mk #[95, 108, 97, 119, 95, 109, 97, 105, 108]) (fArgs 21) (FuncBody.stmts (fBody 21)) (fScope 21) 0 [] Value.none Value.none Value.none Value.none none Value.none Value.none 0)) (List.toArray [])
@[reducible] noncomputable def o_179_F (P : Params) : Obj := Obj.mk (Value.type "code") none (Data.fields (List.toArray [(Value.str (Str.mk #[95, 108, 97, 119, 95, 109, 97, 105, 108]) 2466), (Value.str (Str.mk #[95, 108, 97, 119, 95, 109, 97, 105, 108]) 2467), (Value.str (Str.mk #[47, 99, 108, 97, 105, 109, 47, 99, 117, 116, 46, 112, 121]) 2468), (Value.int (67) 0), (Value.int (1) 0), (Value.int (0) 0), (Value.int (0) 0), (Value.int (3) 0), (Value.ref 174), (Value.bool true), (Value.int (276) 0), (Value.ref 175), Value.none, (Value.ref 176), (Value.ref 177), (Value.ref 178), (Value.int (2476) 0), (Value.int (67) 0), (Value.str (Str.mk #[47, 99, 108, 97, 105, 109, 47, 99, 117, 116, 46, 112, 121]) 2477)])) (List.toArray [])
@[reducible] noncomputable def o_180_F (P : Params) : Obj := Obj.mk (Value.type "function") none (Data.func (FuncData.mk (Str.mk #[95, 108, 97, 119, 95, 109, 97, 105, 108]) (Str.mk #[95, 108, 97, 119, 95, 109, 97, 105, 108]) (fArgs 21) (FuncBody.stmts (fBody 21)) (fScope 21) 3 [] Value.none Value.none Value.none (Value.str (Str.mk #[108, 97, 119, 95, 116, 105, 48, 48, 50, 55, 95, 48, 49]) 2431) none (Value.ref 179) Value.none 0)) (List.toArray [])
@[reducible] noncomputable def o_181_F (P : Params) : Obj := Obj.mk (Value.type "tuple") none (Data.seq (List.toArray []) 0) (List.toArray [])
@[reducible] noncomputable def o_182_F (P : Params) : Obj := Obj.mk Value.none none (Data.fields (List.toArray [])) (List.toArray [])
@[reducible] noncomputable def o_183_F (P : Params) : Obj := Obj.mk Value.none none (Data.func (FuncData.mk (Str.mk #[95, 108, 97, 119, 95, 116, 111, 108, 100]) (Str.mk #[95, 108, 97, 119, 95, 116, 111, 108, 100]) (fArgs 22) (FuncBody.stmts (fBody 22)) (fScope 22) 0 [] Value.none Value.none Value.none Value.none none Value.none Value.none 0)) (List.toArray [])
@[reducible] noncomputable def o_184_F (P : Params) : Obj := Obj.mk (Value.type "code") none (Data.fields (List.toArray [(Value.str (Str.mk #[95, 108, 97, 119, 95, 116, 111, 108, 100]) 2479), (Value.str (Str.mk #[95, 108, 97, 119, 95, 116, 111, 108, 100]) 2480), (Value.str (Str.mk #[47, 99, 108, 97, 105, 109, 47, 99, 117, 116, 46, 112, 121]) 2481), (Value.int (77) 0), (Value.int (1) 0), (Value.int (0) 0), (Value.int (0) 0), (Value.int (3) 0), (Value.ref 181), (Value.bool true), (Value.int (276) 0), (Value.ref 182), Value.none, Value.none, Value.none, (Value.ref 183), (Value.int (2482) 0), (Value.int (77) 0), (Value.str (Str.mk #[47, 99, 108, 97, 105, 109, 47, 99, 117, 116, 46, 112, 121]) 2483)])) (List.toArray [])
@[reducible] noncomputable def o_185_F (P : Params) : Obj := Obj.mk (Value.type "function") none (Data.func (FuncData.mk (Str.mk #[95, 108, 97, 119, 95, 116, 111, 108, 100]) (Str.mk #[95, 108, 97, 119, 95, 116, 111, 108, 100]) (fArgs 22) (FuncBody.stmts (fBody 22)) (fScope 22) 3 [] Value.none Value.none Value.none (Value.str (Str.mk #[108, 97, 119, 95, 116, 105, 48, 48, 50, 55, 95, 48, 49]) 2431) none (Value.ref 184) Value.none 0)) (List.toArray [])
@[reducible] noncomputable def o_186_F (P : Params) : Obj := Obj.mk (Value.type "tuple") none (Data.seq (List.toArray []) 0) (List.toArray [])
@[reducible] noncomputable def o_187_F (P : Params) : Obj := Obj.mk Value.none none (Data.fields (List.toArray [])) (List.toArray [])
@[reducible] noncomputable def o_188_F (P : Params) : Obj := Obj.mk (Value.type "tuple") none (Data.seq (List.toArray [(Value.str (Str.mk #[107, 105, 110, 100, 115]) 2488), (Value.str (Str.mk #[109]) 2489), (Value.str (Str.mk #[112, 114, 111, 100, 117, 99, 116]) 2490), (Value.str (Str.mk #[110, 117, 109, 98, 101, 114]) 2491), (Value.str (Str.mk #[118, 101, 105, 108, 101, 100]) 2492), (Value.str (Str.mk #[107, 105, 110, 100]) 2493)]) 0) (List.toArray [])
@[reducible] noncomputable def o_189_F (P : Params) : Obj := Obj.mk (Value.type "tuple") none (Data.seq (List.toArray []) 0) (List.toArray [])
@[reducible] noncomputable def o_190_F (P : Params) : Obj := Obj.mk Value.none none (Data.func (FuncData.mk (Str.mk #[95, 108, 97, 119, 95, 119, 97, 108, 107]) (Str.mk #[95, 108, 97, 119, 95, 119, 97, 108, 107]) (fArgs 23) (FuncBody.stmts (fBody 23)) (fScope 23) 0 [] Value.none Value.none Value.none Value.none none Value.none Value.none 0)) (List.toArray [])
@[reducible] noncomputable def o_191_F (P : Params) : Obj := Obj.mk (Value.type "code") none (Data.fields (List.toArray [(Value.str (Str.mk #[95, 108, 97, 119, 95, 119, 97, 108, 107]) 2485), (Value.str (Str.mk #[95, 108, 97, 119, 95, 119, 97, 108, 107]) 2486), (Value.str (Str.mk #[47, 99, 108, 97, 105, 109, 47, 99, 117, 116, 46, 112, 121]) 2487), (Value.int (91) 0), (Value.int (2) 0), (Value.int (0) 0), (Value.int (0) 0), (Value.int (3) 0), (Value.ref 186), (Value.bool true), (Value.int (276) 0), (Value.ref 187), Value.none, (Value.ref 188), (Value.ref 189), (Value.ref 190), (Value.int (2494) 0), (Value.int (91) 0), (Value.str (Str.mk #[47, 99, 108, 97, 105, 109, 47, 99, 117, 116, 46, 112, 121]) 2495)])) (List.toArray [])
@[reducible] noncomputable def o_192_F (P : Params) : Obj := Obj.mk (Value.type "function") none (Data.func (FuncData.mk (Str.mk #[95, 108, 97, 119, 95, 119, 97, 108, 107]) (Str.mk #[95, 108, 97, 119, 95, 119, 97, 108, 107]) (fArgs 23) (FuncBody.stmts (fBody 23)) (fScope 23) 3 [] Value.none Value.none Value.none (Value.str (Str.mk #[108, 97, 119, 95, 116, 105, 48, 48, 50, 55, 95, 48, 49]) 2431) none (Value.ref 191) Value.none 0)) (List.toArray [])
@[reducible] noncomputable def o_193_F (P : Params) : Obj := Obj.mk (Value.type "tuple") none (Data.seq (List.toArray []) 0) (List.toArray [])
@[reducible] noncomputable def o_194_F (P : Params) : Obj := Obj.mk Value.none none (Data.fields (List.toArray [])) (List.toArray [])
@[reducible] noncomputable def o_195_F (P : Params) : Obj := Obj.mk Value.none none (Data.func (FuncData.mk (Str.mk #[95, 108, 97, 119, 95, 114, 111, 111, 107, 115]) (Str.mk #[95, 108, 97, 119, 95, 114, 111, 111, 107, 115]) (fArgs 24) (FuncBody.stmts (fBody 24)) (fScope 24) 0 [] Value.none Value.none Value.none Value.none none Value.none Value.none 0)) (List.toArray [])
@[reducible] noncomputable def o_196_F (P : Params) : Obj := Obj.mk (Value.type "code") none (Data.fields (List.toArray [(Value.str (Str.mk #[95, 108, 97, 119, 95, 114, 111, 111, 107, 115]) 2497), (Value.str (Str.mk #[95, 108, 97, 119, 95, 114, 111, 111, 107, 115]) 2498), (Value.str (Str.mk #[47, 99, 108, 97, 105, 109, 47, 99, 117, 116, 46, 112, 121]) 2499), (Value.int (107) 0), (Value.int (1) 0), (Value.int (0) 0), (Value.int (0) 0), (Value.int (3) 0), (Value.ref 193), (Value.bool true), (Value.int (276) 0), (Value.ref 194), Value.none, Value.none, Value.none, (Value.ref 195), (Value.int (2500) 0), (Value.int (107) 0), (Value.str (Str.mk #[47, 99, 108, 97, 105, 109, 47, 99, 117, 116, 46, 112, 121]) 2501)])) (List.toArray [])
@[reducible] noncomputable def o_197_F (P : Params) : Obj := Obj.mk (Value.type "function") none (Data.func (FuncData.mk (Str.mk #[95, 108, 97, 119, 95, 114, 111, 111, 107, 115]) (Str.mk #[95, 108, 97, 119, 95, 114, 111, 111, 107, 115]) (fArgs 24) (FuncBody.stmts (fBody 24)) (fScope 24) 3 [] Value.none Value.none Value.none (Value.str (Str.mk #[108, 97, 119, 95, 116, 105, 48, 48, 50, 55, 95, 48, 49]) 2431) none (Value.ref 196) Value.none 0)) (List.toArray [])
@[reducible] noncomputable def o_198_F (P : Params) : Obj := Obj.mk (Value.type "tuple") none (Data.seq (List.toArray []) 0) (List.toArray [])
@[reducible] noncomputable def o_199_F (P : Params) : Obj := Obj.mk Value.none none (Data.fields (List.toArray [])) (List.toArray [])
@[reducible] noncomputable def o_200_F (P : Params) : Obj := Obj.mk Value.none none (Data.func (FuncData.mk (Str.mk #[95, 108, 97, 119, 95, 102, 105, 114, 115, 116, 115]) (Str.mk #[95, 108, 97, 119, 95, 102, 105, 114, 115, 116, 115]) (fArgs 25) (FuncBody.stmts (fBody 25)) (fScope 25) 0 [] Value.none Value.none Value.none Value.none none Value.none Value.none 0)) (List.toArray [])
@[reducible] noncomputable def o_201_F (P : Params) : Obj := Obj.mk (Value.type "code") none (Data.fields (List.toArray [(Value.str (Str.mk #[95, 108, 97, 119, 95, 102, 105, 114, 115, 116, 115]) 2503), (Value.str (Str.mk #[95, 108, 97, 119, 95, 102, 105, 114, 115, 116, 115]) 2504), (Value.str (Str.mk #[47, 99, 108, 97, 105, 109, 47, 99, 117, 116, 46, 112, 121]) 2505), (Value.int (121) 0), (Value.int (1) 0), (Value.int (0) 0), (Value.int (0) 0), (Value.int (3) 0), (Value.ref 198), (Value.bool true), (Value.int (276) 0), (Value.ref 199), Value.none, Value.none, Value.none, (Value.ref 200), (Value.int (2506) 0), (Value.int (121) 0), (Value.str (Str.mk #[47, 99, 108, 97, 105, 109, 47, 99, 117, 116, 46, 112, 121]) 2507)])) (List.toArray [])
@[reducible] noncomputable def o_202_F (P : Params) : Obj := Obj.mk (Value.type "function") none (Data.func (FuncData.mk (Str.mk #[95, 108, 97, 119, 95, 102, 105, 114, 115, 116, 115]) (Str.mk #[95, 108, 97, 119, 95, 102, 105, 114, 115, 116, 115]) (fArgs 25) (FuncBody.stmts (fBody 25)) (fScope 25) 3 [] Value.none Value.none Value.none (Value.str (Str.mk #[108, 97, 119, 95, 116, 105, 48, 48, 50, 55, 95, 48, 49]) 2431) none (Value.ref 201) Value.none 0)) (List.toArray [])
@[reducible] noncomputable def o_203_F (P : Params) : Obj := Obj.mk (Value.type "tuple") none (Data.seq (List.toArray []) 0) (List.toArray [])
@[reducible] noncomputable def o_204_F (P : Params) : Obj := Obj.mk Value.none none (Data.fields (List.toArray [])) (List.toArray [])
@[reducible] noncomputable def o_205_F (P : Params) : Obj := Obj.mk Value.none none (Data.func (FuncData.mk (Str.mk #[108, 97, 119]) (Str.mk #[108, 97, 119]) (fArgs 26) (FuncBody.stmts (fBody 26)) (fScope 26) 0 [] Value.none Value.none Value.none Value.none none Value.none Value.none 0)) (List.toArray [])
@[reducible] noncomputable def o_206_F (P : Params) : Obj := Obj.mk (Value.type "code") none (Data.fields (List.toArray [(Value.str (Str.mk #[108, 97, 119]) 2509), (Value.str (Str.mk #[108, 97, 119]) 2510), (Value.str (Str.mk #[47, 99, 108, 97, 105, 109, 47, 99, 117, 116, 46, 112, 121]) 2511), (Value.int (127) 0), (Value.int (1) 0), (Value.int (0) 0), (Value.int (0) 0), (Value.int (3) 0), (Value.ref 203), (Value.bool true), (Value.int (276) 0), (Value.ref 204), Value.none, Value.none, Value.none, (Value.ref 205), (Value.int (2512) 0), (Value.int (127) 0), (Value.str (Str.mk #[47, 99, 108, 97, 105, 109, 47, 99, 117, 116, 46, 112, 121]) 2513)])) (List.toArray [])
@[reducible] noncomputable def o_207_F (P : Params) : Obj := Obj.mk (Value.type "function") none (Data.func (FuncData.mk (Str.mk #[108, 97, 119]) (Str.mk #[108, 97, 119]) (fArgs 26) (FuncBody.stmts (fBody 26)) (fScope 26) 3 [] Value.none Value.none Value.none (Value.str (Str.mk #[108, 97, 119, 95, 116, 105, 48, 48, 50, 55, 95, 48, 49]) 2431) none (Value.ref 206) Value.none 0)) (List.toArray [])
noncomputable def tree_F (P : Params) : BT := (N (boot_o_0 P) (N (o_1_0 P) (N (o_3_F P) (N (boot_o_7 P) (N (o_15_0 P) (N (o_31_a P) (N (o_63_12 P) (N (o_127_15 P) L L) (N (o_191_F P) L L)) (N (o_95_13 P) (N (o_159_F P) L L) L)) (N (o_47_12 P) (N (o_79_12 P) (N (o_143_15 P) L L) (N (o_207_F P) L L)) (N (o_111_15 P) (N (o_175_F P) L L) L))) (N (o_23_0 P) (N (o_39_12 P) (N (o_71_12 P) (N (o_135_15 P) L L) (N (o_199_F P) L L)) (N (o_103_14 P) (N (o_167_F P) L L) L)) (N (o_55_12 P) (N (o_87_12 P) (N (o_151_F P) L L) L) (N (o_119_15 P) (N (o_183_F P) L L) L)))) (N (o_11_0 P) (N (o_19_0 P) (N (o_35_12 P) (N (o_67_12 P) (N (o_131_15 P) L L) (N (o_195_F P) L L)) (N (o_99_13 P) (N (o_163_F P) L L) L)) (N (o_51_12 P) (N (o_83_12 P) (N (o_147_15 P) L L) L) (N (o_115_15 P) (N (o_179_F P) L L) L))) (N (o_27_0 P) (N (o_43_12 P) (N (o_75_12 P) (N (o_139_15 P) L L) (N (o_203_F P) L L)) (N (o_107_14 P) (N (o_171_F P) L L) L)) (N (o_59_12 P) (N (o_91_13 P) (N (o_155_F P) L L) L) (N (o_123_15 P) (N (o_187_F P) L L) L))))) (N (boot_o_5 P) (N (boot_o_9 P) (N (o_17_0 P) (N (o_33_12 P) (N (o_65_12 P) (N (o_129_15 P) L L) (N (o_193_F P) L L)) (N (o_97_13 P) (N (o_161_F P) L L) L)) (N (o_49_12 P) (N (o_81_12 P) (N (o_145_15 P) L L) L) (N (o_113_15 P) (N (o_177_F P) L L) L))) (N (o_25_0 P) (N (o_41_12 P) (N (o_73_12 P) (N (o_137_15 P) L L) (N (o_201_F P) L L)) (N (o_105_14 P) (N (o_169_F P) L L) L)) (N (o_57_12 P) (N (o_89_12 P) (N (o_153_F P) L L) L) (N (o_121_15 P) (N (o_185_F P) L L) L)))) (N (o_13_0 P) (N (o_21_0 P) (N (o_37_12 P) (N (o_69_12 P) (N (o_133_15 P) L L) (N (o_197_F P) L L)) (N (o_101_13 P) (N (o_165_F P) L L) L)) (N (o_53_12 P) (N (o_85_12 P) (N (o_149_F P) L L) L) (N (o_117_15 P) (N (o_181_F P) L L) L))) (N (o_29_F P) (N (o_45_12 P) (N (o_77_12 P) (N (o_141_15 P) L L) (N (o_205_F P) L L)) (N (o_109_15 P) (N (o_173_F P) L L) L)) (N (o_61_12 P) (N (o_93_13 P) (N (o_157_F P) L L) L) (N (o_125_15 P) (N (o_189_F P) L L) L)))))) (N (o_2_0 P) (N (boot_o_4 P) (N (boot_o_8 P) (N (o_16_0 P) (N (o_32_12 P) (N (o_64_12 P) (N (o_128_15 P) L L) (N (o_192_F P) L L)) (N (o_96_13 P) (N (o_160_F P) L L) L)) (N (o_48_12 P) (N (o_80_12 P) (N (o_144_15 P) L L) L) (N (o_112_15 P) (N (o_176_F P) L L) L))) (N (o_24_0 P) (N (o_40_12 P) (N (o_72_12 P) (N (o_136_15 P) L L) (N (o_200_F P) L L)) (N (o_104_14 P) (N (o_168_F P) L L) L)) (N (o_56_12 P) (N (o_88_12 P) (N (o_152_F P) L L) L) (N (o_120_15 P) (N (o_184_F P) L L) L)))) (N (o_12_0 P) (N (o_20_0 P) (N (o_36_12 P) (N (o_68_12 P) (N (o_132_15 P) L L) (N (o_196_F P) L L)) (N (o_100_13 P) (N (o_164_F P) L L) L)) (N (o_52_12 P) (N (o_84_12 P) (N (o_148_F P) L L) L) (N (o_116_15 P) (N (o_180_F P) L L) L))) (N (o_28_a P) (N (o_44_12 P) (N (o_76_12 P) (N (o_140_15 P) L L) (N (o_204_F P) L L)) (N (o_108_14 P) (N (o_172_F P) L L) L)) (N (o_60_12 P) (N (o_92_13 P) (N (o_156_F P) L L) L) (N (o_124_15 P) (N (o_188_F P) L L) L))))) (N (boot_o_6 P) (N (boot_o_10 P) (N (o_18_0 P) (N (o_34_12 P) (N (o_66_12 P) (N (o_130_15 P) L L) (N (o_194_F P) L L)) (N (o_98_13 P) (N (o_162_F P) L L) L)) (N (o_50_12 P) (N (o_82_12 P) (N (o_146_15 P) L L) L) (N (o_114_15 P) (N (o_178_F P) L L) L))) (N (o_26_0 P) (N (o_42_12 P) (N (o_74_12 P) (N (o_138_15 P) L L) (N (o_202_F P) L L)) (N (o_106_14 P) (N (o_170_F P) L L) L)) (N (o_58_12 P) (N (o_90_12 P) (N (o_154_F P) L L) L) (N (o_122_15 P) (N (o_186_F P) L L) L)))) (N (o_14_0 P) (N (o_22_0 P) (N (o_38_12 P) (N (o_70_12 P) (N (o_134_15 P) L L) (N (o_198_F P) L L)) (N (o_102_14 P) (N (o_166_F P) L L) L)) (N (o_54_12 P) (N (o_86_12 P) (N (o_150_F P) L L) L) (N (o_118_15 P) (N (o_182_F P) L L) L))) (N (o_30_a P) (N (o_46_12 P) (N (o_78_12 P) (N (o_142_15 P) L L) (N (o_206_F P) L L)) (N (o_110_15 P) (N (o_174_F P) L L) L)) (N (o_62_12 P) (N (o_94_13 P) (N (o_158_F P) L L) L) (N (o_126_15 P) (N (o_190_F P) L L) L)))))))
-- objs 208 toks 2515
end Mine
end
end
-- part HPc
section
open PySem PySem.W PyProof.Rows
set_option maxRecDepth 100000
set_option maxHeartbeats 0
set_option linter.unusedVariables false
noncomputable section
namespace Mine
noncomputable def env0 : Env := { scope := pw.main.scope, locals := mainNs, globals := mainNs, cells := [], code := .ref 30, frame := some 31 }
noncomputable def cE : Code := .body bE env0
noncomputable def fr0 : Frame := topFrame ⟨0, 0, 0, 0⟩
noncomputable def S_a (w : World) (os : OsState) : SharedT := ⟨tree_a w.params, 32, {}, #[], {}, 282, os⟩
noncomputable def S_12 (w : World) (os : OsState) : SharedT := ⟨tree_12 w.params, 91, {}, #[], {}, 405, os⟩
noncomputable def S_13 (w : World) (os : OsState) : SharedT := ⟨tree_13 w.params, 102, {}, #[], {}, 465, os⟩
noncomputable def S_14 (w : World) (os : OsState) : SharedT := ⟨tree_14 w.params, 109, {}, #[], {}, 472, os⟩
noncomputable def S_15 (w : World) (os : OsState) : SharedT := ⟨tree_15 w.params, 148, {}, #[], {}, 2423, os⟩
noncomputable def S_F (w : World) (os : OsState) : SharedT := ⟨tree_F w.params, 208, {}, #[], {}, 2515, os⟩
noncomputable abbrev segT (w : World) (n : Nat) (s : SharedT) (t : Thread) := segRunT treeTable pw w 28 (some (.ref 6)) 1 n s t
noncomputable def th (l : List Stmt) (pos : Pos) : Thread := ⟨(execs l env0).wrap doneF deadEnd id id, cE, pos, [fr0]⟩
theorem pcA (w : World) (os : OsState) : segRunT treeTable pw w 28 (some (.ref 6)) 1 392 (S_a w os) ⟨(execs (bE.take 13) env0).wrap doneF deadEnd id id, cE, ⟨0, 0, 0, 0⟩, [fr0]⟩ = some (.next, S_12 w os, cE, ⟨25, 0, 25, 8⟩) := by
  rw [Fast.te10110043849684766642, Fast.te14364793385576792824, Fast.te12563942051412417395]
  kernel_rfl
end Mine
end
end
-- part HPc2
section
open PySem PySem.W PyProof.Rows
set_option maxRecDepth 100000
set_option maxHeartbeats 0
set_option linter.unusedVariables false
noncomputable section
namespace Mine
noncomputable abbrev pcB_at (w : World) : Prop := ∀ os, segRunT treeTable pw w 28 (some (.ref 6)) 1 999 (S_12 w os) ⟨(execs ((bE.drop 13).take 1) env0).wrap doneF deadEnd id id, cE, ⟨25, 0, 25, 8⟩, [fr0]⟩ = some (.next, S_13 w os, cE, ⟨26, 0, 26, 6⟩)
theorem pcB00 (w : World) : pcB_at ((w.withFollow "special-get-raises" false).withFollow "set-order" false) := by
  unfold pcB_at
  intro os
  rw [Fast.te10110043849684766642, Fast.te14364793385576792824, Fast.te12563942051412417395]
  kernel_rfl
theorem pcB01 (w : World) : pcB_at ((w.withFollow "special-get-raises" false).withFollow "set-order" true) := by
  unfold pcB_at
  intro os
  rw [Fast.te10110043849684766642, Fast.te14364793385576792824, Fast.te12563942051412417395]
  kernel_rfl
theorem pcB10 (w : World) : pcB_at ((w.withFollow "special-get-raises" true).withFollow "set-order" false) := by
  unfold pcB_at
  intro os
  rw [Fast.te10110043849684766642, Fast.te14364793385576792824, Fast.te12563942051412417395]
  kernel_rfl
theorem pcB11 (w : World) : pcB_at ((w.withFollow "special-get-raises" true).withFollow "set-order" true) := by
  unfold pcB_at
  intro os
  rw [Fast.te10110043849684766642, Fast.te14364793385576792824, Fast.te12563942051412417395]
  kernel_rfl
theorem pcB (w : World) : pcB_at w :=
  byRow2 "set-order" (P := pcB_at) (fun w => byRow2 "special-get-raises" (P := fun w' => pcB_at (w'.withFollow "set-order" false)) pcB00 pcB10 w)
    (fun w => byRow2 "special-get-raises" (P := fun w' => pcB_at (w'.withFollow "set-order" true)) pcB01 pcB11 w) w
theorem pcC (w : World) (os : OsState) : segRunT treeTable pw w 28 (some (.ref 6)) 1 30 (S_13 w os) ⟨(execs ((bE.drop 14).take 1) env0).wrap doneF deadEnd id id, cE, ⟨26, 0, 26, 6⟩, [fr0]⟩ = some (.next, S_14 w os, cE, ⟨27, 0, 28, 30⟩) := by
  rw [Fast.te10110043849684766642, Fast.te14364793385576792824, Fast.te12563942051412417395]
  kernel_rfl
theorem pcR (w : World) (os : OsState) (pos : Pos) : segRunT treeTable pw w 28 (some (.ref 6)) 1 400 (S_15 w os) ⟨(execs (bE.drop 16) env0).wrap doneF deadEnd id id, cE, pos, [fr0]⟩ = some (.next, S_F w os, cE, ⟨127, 0, 159, 24⟩) := by
  rw [Fast.te10110043849684766642, Fast.te14364793385576792824, Fast.te12563942051412417395]
  kernel_rfl
noncomputable def tree_15p (P : Params) : BT := (tree_15 P).set 3 fun _ => o_3_14 P
noncomputable def S_15p (w : World) (os : OsState) : SharedT := ⟨tree_15p w.params, 148, {}, #[], {}, 2422, os⟩
noncomputable def stTs : List Expr := match stAt 15 with | .Assign ts _ _ => ts | _ => []
noncomputable def stV : Expr := match stAt 15 with | .Assign _ v _ => v | s => default
noncomputable def tailD : Sem Flow := do assignStores env0 (.ref 109) (← swappedStores stTs stV env0) ((assignEach stTs env0).map (·.2))
theorem pcD (w : World) (os : OsState) (pos : Pos) (gd : Bool → Bool) (lv : List Value → List Value) : segRunT treeTable pw w 28 (some (.ref 6)) 1 20 (S_15p w os) ⟨tailD.wrap doneF deadEnd gd lv, cE, pos, [fr0]⟩ = some (.next, S_15 w os, cE, ⟨29, 0, 29, 13⟩) := by
  rw [Fast.te10110043849684766642, Fast.te14364793385576792824]
  kernel_rfl
theorem hpD (P : Params) : (tree_15p P).list 148 = (tree_14 P).list 109 ++ dO b3all :: b3subs := by kernel_rfl
end Mine
end
end
-- part HD
section
open PySem PySem.W PyProof.Rows
set_option maxRecDepth 100000
set_option maxHeartbeats 0
set_option linter.unusedVariables false
noncomputable section
namespace Mine
noncomputable def stP : Pos := match stAt 15 with | .Assign _ _ po => po | _ => default
theorem stD : stAt 15 = .Assign stTs (.Dict b3ks b3vs b3pos) stP := by kernel_rfl
theorem stVD : stV = .Dict b3ks b3vs b3pos := by kernel_rfl
theorem soleD : swapsWithSole stTs stV stP.line env0 = pure false := by kernel_rfl
theorem itemsD : (evalEachOpt b3ks env0).zip ((evalEach b3vs env0).map fun v => do let x ← v; standAt b3pos; pure x) =
    (((b3c0 :: b3cs).map fun c => c.map (it b3pos)).flatten ++ b3l.map (it b3pos)).map opt := by kernel_rfl
noncomputable def asc : List Int → Bool
  | a :: b :: r => decide (a < b) && asc (b :: r)
  | _ => true
theorem asc_lt : ∀ (l : List Int), asc l = true → l.Pairwise (· < ·)
  | [], _ => .nil
  | [a], _ => by simp
  | a :: b :: r, h => by
    simp only [asc, Bool.and_eq_true, decide_eq_true_eq] at h
    have ih := asc_lt (b :: r) h.2
    refine List.pairwise_cons.mpr ⟨fun x hx => ?_, ih⟩
    rcases List.mem_cons.mp hx with rfl | hx
    · exact h.1
    · exact Int.lt_trans h.1 ((List.pairwise_cons.mp ih).1 x hx)
theorem asc_ne {l : List Int} (h : asc l = true) : l.Pairwise (· ≠ ·) := (asc_lt l h).imp fun q => Int.ne_of_lt q
theorem ascD : asc ((b3c0 ++ (b3cs.flatten ++ b3l)).map fun q => hashInt q.1) = true := by kernel_rfl
theorem len0D : b3c0.length = 17 := by kernel_rfl
theorem lenLD : b3l.length = 4 := by kernel_rfl
theorem lenFD : b3cs.flatten.length = 629 := by kernel_rfl
theorem lenCD : b3cs.length = 37 := by kernel_rfl
theorem lensD : ∀ c ∈ b3cs, c.length = 17 := by
  have h : (b3cs.all fun c => c.length == 17) = true := by kernel_rfl
  intro c hc
  exact beq_iff_eq.mp (List.all_eq_true.mp h c hc)
theorem len14 (P : Params) : ((tree_14 P).list 109).length = 109 := by kernel_rfl
end Mine
end
end
-- part HE
section
open PySem PySem.W PyProof.Rows
set_option maxRecDepth 100000
set_option maxHeartbeats 0
set_option linter.unusedVariables false
noncomputable section
namespace Mine
noncomputable abbrev gwT {α : Type} (w : World) (B : Nat) (x : Sem α) (Q : α → Shared → Prop) (s : Shared) : Prop := gw pw w 28 (some (.ref 6)) cE fr0 [] B x Q s
theorem gw_seg {w : World} {n : Nat} {x : Sem Flow} {S S' : SharedT} {fl : Flow} {p' : Pos}
    (h : ∀ (pos : Pos) (gd : Bool → Bool) (lv : List Value → List Value), segRunT treeTable pw w 28 (some (.ref 6)) 1 n S ⟨x.wrap doneF deadEnd gd lv, cE, pos, [fr0]⟩ = some (fl, S', cE, p')) :
    gwT w n x (fun f s' => f = fl ∧ s' = S'.abs) S.abs := by
  refine ⟨fl, S'.abs, fun K H gd lv pos => ⟨p', fun N r e => ?_⟩, rfl, rfl⟩
  obtain ⟨a, ha, hN⟩ := seg_top (res := id) (K' := K) (H' := H) (gd := gd) (lv := lv) (B := [fr0]) rfl n S.abs ⟨x.wrap doneF deadEnd gd lv, cE, pos, [fr0]⟩
    ⟨x.wrap K H gd lv, cE, pos, [fr0]⟩ _ _ _ _ ⟨rfl, rfl, .inl ⟨rfl, rfl, _, rfl, rfl⟩⟩ (segRun_of (h pos gd lv))
  obtain rfl : a = fl := ha
  rw [Nat.add_comm]
  exact hN N r e
theorem abs14 (w : World) (os : OsState) : (S_14 w os).abs = ⟨hp ((tree_14 w.params).list 109), #[], {}, 472, os⟩ := rfl
theorem abs15p (w : World) (os : OsState) : (S_15p w os).abs = ⟨hp ((tree_14 w.params).list 109 ++ dO b3all :: b3subs), #[], {}, 2422, os⟩ := by
  unfold SharedT.abs S_15p absHeap hp
  dsimp only
  rw [show (tree_15p w.params).list 148 = _ from hpD w.params]
theorem gwV (w : World) (os : OsState) {Q : Value → Shared → Prop} (h : Q (.ref 109) (S_15p w os).abs) : gwT w 20000 (eval stV env0) Q (S_14 w os).abs := by
  rw [stVD, arm_eval_Dict, itemsD]
  refine gw_more (B := (0 + ((37 * 500 + 500) + (0 + 342))) + 1) (gw_bind (gw_standAt ?_)) (by decide)
  rw [dictDisplay_chunks (b3l.map (it b3pos)) (by rw [List.length_map, lenLD]; decide) _ (by
    intro c hc
    obtain ⟨c', hc', rfl⟩ := List.mem_map.mp hc
    rw [List.length_map]
    rcases List.mem_cons.mp hc' with rfl | hc'
    · exact len0D
    · exact lensD c' hc')]
  refine gw_bind ?_
  rw [List.map_cons, showD]
  refine gw_bind ?_
  unfold flushM
  have hne : (b3c0.map (it b3pos)).isEmpty = false := by
    cases e : b3c0.map (it b3pos) with
    | nil =>
      have := congrArg List.length e
      rw [List.length_map, len0D] at this
      cases this
    | cons _ _ => rfl
  rw [hne, if_neg Bool.false_ne_true]
  have hk := asc_ne ascD
  have hl14 := len14 w.params
  refine gw_bind (gw_more (gw_subDict_long (objs := (tree_14 w.params).list 109) (by rw [abs14]) (by rw [hl14]; decide) (by rw [len0D]; decide) (by rw [len0D, sizeLine_eq]; decide) ?_ ?_) (by rw [len0D]; decide))
  · rw [List.map_append] at hk
    exact (List.pairwise_append.mp hk).1
  · refine gw_pure ?_
    have := gw_showD (p := pw) (w := w) (n₀ := 28) (ann := some (.ref 6)) (c₀ := cE) (f₀ := fr0) (stk := []) (pos := b3pos) (l := b3l) (by intro e; have := lenLD; rw [e] at this; cases this) (by rw [lenLD]; decide)
      (objs := (tree_14 w.params).list 109) (by rw [hl14]; decide) (by rw [hl14]; decide) b3cs (ents b3c0 472) [] { (S_14 w os).abs with heap := hp ((tree_14 w.params).list 109 ++ [dO (ents b3c0 472)]), toks := 472 + 3 * b3c0.length }
      (fun o s' => gwT w 0 (match o with | some d => pure (.ref d) | none => newDict) Q s') lensD rfl (by intro e; have := congrArg List.length e; rw [ents_length, len0D] at this; cases this)
      (by rw [ents_length, len0D, lenFD, lenLD, sizeLine_eq]; decide) (by rw [ents_hashes, ← List.map_append]; exact hk) (by
        rw [len0D, lenFD, lenLD]
        refine gw_pure ?_
        rw [hl14]
        rw [abs15p] at h
        exact h)
    rw [lenCD] at this
    exact this
theorem gwD (w : World) (os : OsState) : gwT w 20100 (exec (stAt 15) env0) (fun f s' => f = .next ∧ s' = (S_15 w os).abs) (S_14 w os).abs := by
  rw [stD, arm_exec_Assign, ← stVD, soleD]
  refine gw_more (B := (20 + 20000) + 0 + 1) (gw_bind (gw_standAt (gw_bind (gw_pure ?_)))) (by decide)
  rw [if_neg Bool.false_ne_true]
  refine gw_bind (gwV w os ?_)
  exact gw_seg (fun pos gd lv => pcD w os pos gd lv)
end Mine
end
end
-- part HOp
section
open PySem PySem.W PyProof.Rows
set_option maxRecDepth 100000
set_option maxHeartbeats 0
set_option linter.unusedVariables false
noncomputable section
namespace Mine
noncomputable def H0 (P : Params) : Heap := absHeap (tree_0 P) 28 {}
theorem opens (w : World) : (fencedOpening treeTable pw w 40000).map (fun s => (s.heap, s.gens, s.drawn, s.toks)) = some (H0 w.params, #[], {}, 276) := by
  unfold fencedOpening
  rw [Fast.te10274390034422433532, Fast.te14364793385576792824, Fast.te1435165496053646825, Fast.te14289696077712309145]
  kernel_rfl
end Mine
end
end
-- part HF
section
open PySem PySem.W PyProof.Rows
set_option maxRecDepth 100000
set_option maxHeartbeats 0
set_option linter.unusedVariables false
noncomputable section
namespace Mine
noncomputable def H1 (P : Params) : Heap := absHeap (tree_F P) 208 {}
noncomputable abbrev tR (w : World) (n : Nat) (s : Shared) (t : Thread) := topRun treeTable pw w 28 (some (.ref 6)) n s t
theorem finR (w : World) (os : OsState) : topRun treeTable pw w 28 (some (.ref 6)) 2 (S_F w os).abs ⟨doneF .next, cE, ⟨127, 0, 159, 24⟩, [fr0]⟩ = some (S_F w os).abs := by
  rw [Fast.te14082659384304107361, Fast.te14364793385576792824]
  kernel_rfl
theorem preR (w : World) (os : OsState) : topGo treeTable pw w 28 (some (.ref 6)) 12 ⟨H0 w.params, #[], {}, 276, os⟩ (topStub pw) = some ((S_a w os).abs, ⟨denote treeTable cE, cE, ⟨0, 0, 0, 0⟩, [fr0]⟩) := by
  rw [Fast.te15667345088766844465, Fast.te14364793385576792824, Fast.te11892475500146522536]
  kernel_rfl
theorem blockR (w : World) (os : OsState) : segRun treeTable pw w 28 (some (.ref 6)) 1 1 (S_a w os).abs (blockOf bE env0 cE ⟨0, 0, 0, 0⟩ [fr0]) = some (.next, (S_a w os).abs, cE, ⟨0, 0, 0, 0⟩) := by
  kernel_rfl
theorem cutBE : bE = bE.take 13 ++ ((bE.drop 13).take 1 ++ ((bE.drop 14).take 1 ++ (stAt 15 :: (bE.drop 16 ++ [])))) := by kernel_rfl
theorem sizeR (P : Params) : ((H0 P).isNs mainGlobals && (#[] : Array GenState).size == 0, (H0 P).objs.size, (H0 P).nsMap mainGlobals "__annotations__") = (true, 28, some (.ref 6)) := by kernel_rfl
theorem dictR (w : World) (os : OsState) (N : Nat) (r : Shared) (rest : List Stmt) (pos : Pos)
    (h : ∀ pos', topRun treeTable pw w 28 (some (.ref 6)) N (S_15 w os).abs (restOf rest env0 cE pos' [fr0]) = some r) :
    topRun treeTable pw w 28 (some (.ref 6)) (N + 20100) (S_14 w os).abs (restOf (stAt 15 :: rest) env0 cE pos [fr0]) = some r := by
  obtain ⟨a, s', g, rfl, rfl⟩ := gwD w os
  unfold restOf
  rw [execs_cons_wrap]
  obtain ⟨pos', e⟩ := g (fun f => match f with | .next => (execs rest env0).wrap doneF (leaveH env0) id id | f => doneF f) (leaveH env0) id id pos
  exact e N r (h pos')
theorem runR (w : World) (os : OsState) : topRun treeTable pw w 28 (some (.ref 6)) (12 + (1 + (392 + (999 + (30 + ((400 + 2) + 20100)))))) ⟨H0 w.params, #[], {}, 276, os⟩ (topStub pw) = some (S_F w os).abs := by
  refine go_top (preR w os) ?_
  refine piece_block (q := ⟨0, 0, 0, 0⟩) (b := bE) (env := env0) (blockR w os) ?_
  rw [cutBE]
  refine piece_app (q := ⟨0, 0, 0, 0⟩) (segRun_of (pcA w os)) ?_
  refine piece_app (q := ⟨0, 0, 0, 0⟩) (segRun_of (pcB w os)) ?_
  refine piece_app (q := ⟨0, 0, 0, 0⟩) (segRun_of (pcC w os)) ?_
  refine dictR w os _ _ _ _ fun pos' => ?_
  refine piece_app (q := ⟨0, 0, 0, 0⟩) (segRun_of (pcR w os pos')) ?_
  exact piece_nil (q := ⟨0, 0, 0, 0⟩) (finR w os)
end Mine
end
end
-- part HL
section
open PySem PySem.W PyProof.Rows
set_option maxRecDepth 100000
set_option maxHeartbeats 0
set_option linter.unusedVariables false
noncomputable section
namespace Mine
noncomputable def keepIx : List Nat := [0, 1, 4, 5, 6, 7, 8, 9, 10, 11, 12, 13, 15, 17, 18, 19, 20, 21, 22, 23, 24, 25, 26, 27]
noncomputable def qv : Program := { pw with main := { pw.main with body := keepIx.filterMap fun i => pw.main.body[i]? } }
noncomputable def looseV : List Str := [Str.ofString "_twin_re_1", Str.ofString "_twin_re_2", Str.ofString "b1_set", Str.ofString "b3_exceptions"]
noncomputable def mods : List Str := importedModules pw.main.body
noncomputable def S1 (w : World) (os : OsState) : Shared := ⟨H1 w.params, #[], {}, 2515, os⟩
theorem lk1 (w : World) (os : OsState) : (staticsOk mods (H0 w.params) (H1 w.params) && namesBound pw (H1 w.params) && gensDone (S1 w os) && laidKept (H0 w.params) (H1 w.params)) = true := by kernel_rfl
theorem lkA (w : World) (os : OsState) : seen ((recsOf qv).map (·.name)) (ownsOf qv) [] { S1 w os with gens := #[] } = expectedOf qv := by kernel_rfl
theorem lkB (w : World) (os : OsState) : (S1 w os).heap.bltView = bltViewBooted := by kernel_rfl
theorem lkC (w : World) (os : OsState) : ((S1 w os).heap.keysOk (looseW qv looseV) ((recsOf qv).map (·.name)) ((litsOf qv).map (·.1)) ((clssOf qv (looseW qv looseV)).map (·.name)) && (S1 w os).heap.accountedOkI mods && (S1 w os).heap.isNs mainGlobals && (S1 w os).heap.isNs builtinsNs && tablesOk qv (S1 w os).heap) = true := by kernel_rfl
theorem lkD (w : World) (os : OsState) : tabsOk qv (S1 w os) = true := by kernel_rfl
theorem lkE (w : World) (os : OsState) : pinSeenD qv (drecsOf qv) (S1 w os) = pinGoodD (drecsOf qv) := by kernel_rfl
theorem lkF (w : World) (os : OsState) : plainSeenE qv (looseW qv looseV) (S1 w os) = plainGoodE qv (looseW qv looseV) := by kernel_rfl
theorem lkG (w : World) (os : OsState) : plainSeenD qv looseV (S1 w os) = plainGoodD qv looseV := by kernel_rfl
theorem lkH (w : World) (os : OsState) : wideSeen qv (S1 w os) = wideGood qv := by kernel_rfl
theorem lkI (w : World) (os : OsState) : clsSeenW qv looseV (S1 w os) = clsGoodW qv looseV := by kernel_rfl
end Mine
end
end
-- part HK
section
open PySem PySem.W PyProof.Rows
set_option maxRecDepth 100000
set_option maxHeartbeats 0
set_option linter.unusedVariables false
noncomputable section
namespace Mine
noncomputable def Kf (P : Params) : Frag := (nat_lit 2, o_2_0 P) :: (nat_lit 3, o_3_F P) :: (nat_lit 6, boot_o_6 P) :: (nat_lit 11, o_11_0 P) :: (nat_lit 12, o_12_0 P) :: (nat_lit 35, o_35_12 P) :: (nat_lit 36, o_36_12 P) :: (nat_lit 40, o_40_12 P) :: (nat_lit 41, o_41_12 P) :: (nat_lit 42, o_42_12 P) :: (nat_lit 44, o_44_12 P) :: (nat_lit 45, o_45_12 P) :: (nat_lit 47, o_47_12 P) :: (nat_lit 48, o_48_12 P) :: (nat_lit 49, o_49_12 P) :: (nat_lit 51, o_51_12 P) :: (nat_lit 52, o_52_12 P) :: (nat_lit 54, o_54_12 P) :: (nat_lit 55, o_55_12 P) :: (nat_lit 56, o_56_12 P) :: (nat_lit 58, o_58_12 P) :: (nat_lit 59, o_59_12 P) :: (nat_lit 61, o_61_12 P) :: (nat_lit 62, o_62_12 P) :: (nat_lit 63, o_63_12 P) :: (nat_lit 65, o_65_12 P) :: (nat_lit 66, o_66_12 P) :: (nat_lit 68, o_68_12 P) :: (nat_lit 69, o_69_12 P) :: (nat_lit 70, o_70_12 P) :: (nat_lit 72, o_72_12 P) :: (nat_lit 73, o_73_12 P) :: (nat_lit 75, o_75_12 P) :: (nat_lit 76, o_76_12 P) :: (nat_lit 77, o_77_12 P) :: (nat_lit 79, o_79_12 P) :: (nat_lit 80, o_80_12 P) :: (nat_lit 82, o_82_12 P) :: (nat_lit 83, o_83_12 P) :: (nat_lit 84, o_84_12 P) :: (nat_lit 86, o_86_12 P) :: (nat_lit 87, o_87_12 P) :: (nat_lit 89, o_89_12 P) :: (nat_lit 90, o_90_12 P) :: (nat_lit 98, o_98_13 P) :: (nat_lit 102, o_102_14 P) :: (nat_lit 104, o_104_14 P) :: (nat_lit 105, o_105_14 P) :: (nat_lit 107, o_107_14 P) :: (nat_lit 108, o_108_14 P) :: (nat_lit 109, o_109_15 P) :: (nat_lit 148, o_148_F P) :: (nat_lit 150, o_150_F P) :: (nat_lit 151, o_151_F P) :: (nat_lit 153, o_153_F P) :: (nat_lit 154, o_154_F P) :: (nat_lit 155, o_155_F P) :: (nat_lit 157, o_157_F P) :: (nat_lit 158, o_158_F P) :: (nat_lit 160, o_160_F P) :: (nat_lit 161, o_161_F P) :: (nat_lit 162, o_162_F P) :: (nat_lit 165, o_165_F P) :: (nat_lit 166, o_166_F P) :: (nat_lit 167, o_167_F P) :: (nat_lit 169, o_169_F P) :: (nat_lit 170, o_170_F P) :: (nat_lit 172, o_172_F P) :: (nat_lit 173, o_173_F P) :: (nat_lit 174, o_174_F P) :: (nat_lit 176, o_176_F P) :: (nat_lit 177, o_177_F P) :: (nat_lit 179, o_179_F P) :: (nat_lit 180, o_180_F P) :: (nat_lit 181, o_181_F P) :: (nat_lit 184, o_184_F P) :: (nat_lit 185, o_185_F P) :: (nat_lit 186, o_186_F P) :: (nat_lit 188, o_188_F P) :: (nat_lit 189, o_189_F P) :: (nat_lit 191, o_191_F P) :: (nat_lit 192, o_192_F P) :: (nat_lit 193, o_193_F P) :: (nat_lit 196, o_196_F P) :: (nat_lit 197, o_197_F P) :: (nat_lit 198, o_198_F P) :: (nat_lit 201, o_201_F P) :: (nat_lit 202, o_202_F P) :: (nat_lit 203, o_203_F P) :: (nat_lit 206, o_206_F P) :: (nat_lit 207, o_207_F P) :: []
noncomputable def Kas : List Addr := [2, 3, 6, 11, 12, 35, 36, 40, 41, 42, 44, 45, 47, 48, 49, 51, 52, 54, 55, 56, 58, 59, 61, 62, 63, 65, 66, 68, 69, 70, 72, 73, 75, 76, 77, 79, 80, 82, 83, 84, 86, 87, 89, 90, 98, 102, 104, 105, 107, 108, 109, 148, 150, 151, 153, 154, 155, 157, 158, 160, 161, 162, 165, 166, 167, 169, 170, 172, 173, 174, 176, 177, 179, 180, 181, 184, 185, 186, 188, 189, 191, 192, 193, 196, 197, 198, 201, 202, 203, 206, 207]

abbrev lw : OpenLaw := PySem.Challenge.rw_ti0027_01
theorem kasR (P : Params) : Kas = (Kf P).map (·.1) := by kernel_rfl
noncomputable abbrev Hk : Hook := kHook Kf Kas kasR
theorem lkK (w : World) (os : OsState) : Kas.map (S1 w os).heap.get? = (Kf w.params).map fun p => some p.2 := by kernel_rfl
noncomputable abbrev XtV : Shared → Bool := fun s => xlAt qv [] s && recOk (RowW.records lw.row.toRowW) s
theorem lkX (w : World) (os : OsState) : XtV (S1 w os) = true := by kernel_rfl
theorem leftM : LeftO pw qv looseV XtV (Hook.obs Hk) (Hook.val Hk) 40000 true := by
  refine LeftO.of_pieces (H₀ := H0) (H₁ := H1) (gs₀ := #[]) (gs₁ := #[]) (d₀ := {}) (d₁ := {}) (k₀ := 276) (k₁ := 2515) (m₀ := 28) (ann := some (.ref 6)) opens (fun w => sizeR w.params) (fun w os => runR w os) (by decide) ?_
  intro w
  funext os
  refine Prod.ext (lk1 w os) (Prod.ext ?_ (lkK w os))
  unfold openSeen openGood
  refine Prod.ext (lkA w os) (Prod.ext (lkB w os) (Prod.ext ?_ (Prod.ext (lkD w os) (Prod.ext (lkE w os) (Prod.ext (lkF w os) (Prod.ext (lkG w os) (Prod.ext (lkH w os) (lkI w os))))))))
  show (_ && _ && _ && _ && _ && _ && _) = true
  have c := lkC w os
  have x := lkX w os
  have g : ((S1 w os).gens.size == 0) = true := rfl
  simp only [Bool.and_eq_true] at c ⊢
  exact ⟨⟨⟨⟨⟨⟨c.1.1.1.1, c.1.1.1.2⟩, c.1.1.2⟩, c.1.2⟩, c.2⟩, Bool.and_eq_true_iff.mp x⟩, g⟩
end Mine
end
end
-- part WB
section
open PySem PySem.W PyProof.Rows PySem.Calls PySem.Spec
set_option maxRecDepth 100000
set_option maxHeartbeats 0
set_option linter.unusedVariables false
namespace Mine
theorem room1 {d k c r : Nat} (h : d + k < r) (hc : c ≤ k := by decide) : d + c < r := Nat.lt_of_le_of_lt (Nat.add_le_add_left hc d) h
theorem room2 {d k b c r : Nat} (h : d + k < r) (hc : b + c ≤ k := by decide) : d + b + c < r := by
  rw [Nat.add_assoc]
  exact room1 h hc
noncomputable abbrev Ar (dp un : Nat) (fr : Option (List Env)) (gd : Option (List Code)) : Around := { handled := none, depth := dp, frames := fr, guards := gd, units := un }
noncomputable abbrev Keeps (h h' : Heap) : Prop := ∀ b o, h.get? b = some o → h'.get? b = some o
theorem enterF {w : World} {A : Around} {s : Shared} {Q : Value → Shared → Prop} {p : Program} {loose : List Str} {mean : ExcName → Option Value} {mg mb : Str → Option Value}
    {name qual : Str} {params : Arguments} {body : List Stmt} {scope : Scope} {dV kV doc pm cdv ct oc : Value} {an od : Option Addr} {osl : Array (Option Value)} {f : Addr} {args : List Value} (binds : List (Str × Value))
    (X : (Kf w.params).In s.heap) (T : Top p loose mean mg mb s.heap)
    (ho : (Kf w.params).lookup f = some ⟨oc, od, .func (fnOf name qual params body scope dV kV doc pm an cdv ct), osl⟩) (hcd : codeIn (Kf w.params) cdv qual = true) (hroom : A.depth < recursionLimit)
    (hbind : BindsTo s (fnOf name qual params body scope dV kV doc pm an cdv ct) ⟨args, []⟩ binds) (hloc : ∀ y ∈ binds, scope.names.lookup y.1 = some .local)
    (h : ∀ L h₁ tk, Fr s.heap L h₁ (fun y => binds.reverse.lookup y) → News s.heap L h₁ [] →
      wpAny (model lw.prog w) (A.deeper (envOf qual scope L f cdv)) (execs body (envOf qual scope L f cdv)) (fun fl s' => Q (match fl with | .ret v => v | _ => .none) s') (fun _ _ => False) { s with heap := h₁, toks := tk })
    (hco : scope.isCoroutine = false := by rfl) (hgen : scope.isGenerator = false := by rfl) (hk : scope.kind = .function := by rfl)
    (hcell : ∀ x ∈ scope.names, x.2 ≠ .cell := by decide) : wpAny (model lw.prog w) A (call (.ref f) args) Q (fun _ _ => False) s := by
  refine wpAny_call (codeAny_call_def (fd := fnOf name qual params body scope dV kV doc pm an cdv ct) (body := body) (binds := binds) hroom (X _ _ ho) rfl T.nolimit (codeRec_of X hcd) rfl hbind hcell hloc (fun h₁ hns hk₁ => ?_) hco hgen hk)
  refine wpAny_mono (h s.heap.objs.size h₁ _ ⟨hns, hk₁, Nat.le_refl _⟩ News.nil) (fun _ _ x => x) (fun _ _ x => x.elim)

theorem enterC {w : World} {A : Around} {s : Shared} {Q : Value → Shared → Prop} {p : Program} {loose : List Str} {mean : ExcName → Option Value} {mg mb : Str → Option Value}
    {name qual : Str} {params : Arguments} {body : List Stmt} {scope : Scope} {dV kV doc pm cdv ct oc : Value} {an od : Option Addr} {osl : Array (Option Value)} {f : Addr} {args : List Value} (binds : List (Str × Value))
    (X : (Kf w.params).In s.heap) (T : Top p loose mean mg mb s.heap)
    (ho : (Kf w.params).lookup f = some ⟨oc, od, .func (fnOf name qual params body scope dV kV doc pm an cdv ct), osl⟩) (hcd : codeIn (Kf w.params) cdv qual = true) (hroom : A.depth < recursionLimit)
    (hbind : BindsTo s (fnOf name qual params body scope dV kV doc pm an cdv ct) ⟨args, []⟩ binds)
    (hkind : ∀ n, ∀ x ∈ binds, scope.names.lookup x.1 = some .local ∨ (scope.names.lookup x.1 = some .cell ∧ ((cellsFrom n scope.names []).lookup x.1).isSome = true))
    (hnd : ((cellsFrom 0 scope.names []).map (·.1)).Nodup)
    (h : ∀ L h₁ tk cells, Fr s.heap L h₁ (bindL (envOfC qual scope L f cdv).kindOf binds fun _ => none) → News s.heap L h₁ cells →
      CellsAre (bindC (envOfC qual scope L f cdv).kindOf binds fun _ => none) (cellsFrom (L + 1) scope.names []) cells →
      wpAny (model lw.prog w) (A.deeper (envOfC qual scope L f cdv)) (execs body (envOfC qual scope L f cdv)) (fun fl s' => Q (match fl with | .ret v => v | _ => .none) s') (fun _ _ => False) { s with heap := h₁, toks := tk })
    (hco : scope.isCoroutine = false := by rfl) (hgen : scope.isGenerator = false := by rfl) (hk : scope.kind = .function := by rfl) : wpAny (model lw.prog w) A (call (.ref f) args) Q (fun _ _ => False) s := by
  refine wpAny_call (codeAny_call_function hroom (X _ _ ho) rfl hco hgen rfl (codeRec_of X hcd) (hbind _ _ _ _ ?_))
  refine wpAny_newFunctionEnv_cells hk (hkind _) fun env' he s' x => ?_
  subst he
  refine ⟨T.nolimit.keeps x.toInCall.keep, codeAny_func ?_⟩
  obtain ⟨h₁, tk, rfl, _⟩ := x.done
  obtain ⟨cells, NC, Y⟩ := Cl.news (h₀ := s.heap) (Nat.le_refl _) fun n c hm => ⟨x.cell n c (lookup_of_mem_nodup (cellsFrom_names scope.names 0 (s.heap.objs.size + 1) [] [] rfl ▸ hnd) hm), x.above n c hm⟩
  refine wpAny_mono (h s.heap.objs.size h₁ tk cells ⟨x.toInCall.ns, x.toInCall.keep, Nat.le_refl _⟩ NC Y) (fun _ _ y => y) fun _ _ y => y.elim

structure Does (w : World) (f : Addr) (D U : Nat) (args : List Value) (Pre : Heap → Prop) (Post : Heap → Value → Heap → Prop) : Prop where
  run : ∀ {p : Program} {loose : List Str} {mean : ExcName → Option Value} {mg mb : Str → Option Value} (dp un : Nat) (fr : Option (List Env)) (gd : Option (List Code)) (s : Shared) (Q : Value → Shared → Prop),
    (Kf w.params).In s.heap → Top p loose mean mg mb s.heap → dp + D < recursionLimit → un + U < cLine → Pre s.heap →
    (∀ r h' tk', Keeps s.heap h' → Post s.heap r h' → Q r { s with heap := h', toks := tk' }) → wpAny (model lw.prog w) (Ar dp un fr gd) (call (.ref f) args) Q (fun _ _ => False) s
theorem Fr.keepsAll {h₀ h h' : Heap} {L : Addr} {m : Str → Option Value} (F : Fr h₀ L h m) (k : Keeps h h') : Fr h₀ L h' m :=
  ⟨F.ns.at' fun o e => k _ o e, fun b o e => k b o (F.keep b o e), F.above⟩
theorem News.keepsAll {h₀ h h' : Heap} {L : Addr} {news : List (Addr × Obj)} (N : News h₀ L h news) (k : Keeps h h') : News h₀ L h' news :=
  fun p hp => ⟨k _ _ (N p hp).1, (N p hp).2⟩
theorem News.more' {h₀ h h' : Heap} {L l : Addr} {o : Obj} {m : Str → Option Value} {news : List (Addr × Obj)} (F : Fr h₀ L h m) (N : News h₀ L h' news) (e : h'.get? l = some o) (hn : h.get? l = none) : News h₀ L h' ((l, o) :: news) := by
  intro p hp
  rcases List.mem_cons.mp hp with rfl | hp
  · refine ⟨e, fun q => ?_, ?_⟩
    · obtain ⟨oL, _, _, hL, _⟩ := F.ns
      dsimp only at q
      rw [q, hL] at hn; cases hn
    · cases q : h₀.get? l with
      | none => rfl
      | some o' => rw [F.keep _ _ q] at hn; cases hn
  · exact N p hp
theorem Does.use {w : World} {f : Addr} {D U : Nat} {args : List Value} {Pre : Heap → Prop} {Post : Heap → Value → Heap → Prop} (S : Does w f D U args Pre Post)
    {p : Program} {loose : List Str} {mean : ExcName → Option Value} {mg mb : Str → Option Value} {dp un : Nat} {fr : Option (List Env)} {gd : Option (List Code)} {s : Shared} {Q : Value → Shared → Prop} {E : Value → Shared → Prop}
    {h₀ : Heap} {L : Addr} {m : Str → Option Value} {news : List (Addr × Obj)} (F : Fr h₀ L s.heap m) (N : News h₀ L s.heap news) (X : (Kf w.params).In h₀) (T : Top p loose mean mg mb h₀) (hd : dp + D < recursionLimit) (hu : un + U < cLine) (hp : Pre s.heap)
    (h : ∀ r h' tk', Keeps s.heap h' → Fr h₀ L h' m → News h₀ L h' news → Post s.heap r h' → Q r { s with heap := h', toks := tk' }) : wpAny (model lw.prog w) (Ar dp un fr gd) (call (.ref f) args) Q E s :=
  wpAny_noRaise (S.run dp un fr gd s Q (X.keeps F.keep) (T.keeps F.keep) hd hu hp fun r h' tk' k q => h r h' tk' k (Fr.keepsAll F k) (News.keepsAll N k) q)
theorem carried_ints : ∀ {vs : List Value} {ns : List Int}, CarriedAll vs (ns.map PyData.int) → IntsAre vs ns
  | [], [], _ => .nil
  | v :: vs, n :: ns, h => by
    cases h with
    | cons hc hr =>
      cases hc
      exact .cons _ _ (carried_ints hr)
  | [], _ :: _, h => by cases h
  | _ :: _, [], h => by cases h
end Mine
end
-- part WOps
section
open PySem PySem.W PyProof.Rows PySem.Calls PySem.Spec
set_option maxRecDepth 100000
set_option maxHeartbeats 0
set_option linter.unusedVariables false
namespace Mine
theorem int_end {s : Shared} {Q : Value → Shared → Prop} {h' : Heap} {L : Addr} {m : Str → Option Value} {z : Int} {t : Tok} {tk' : Nat}
    (hret : ∀ r h' tk', Keeps s.heap h' → (∃ t, r = .int z t) → Q r { s with heap := h', toks := tk' }) (F : Fr s.heap L h' m) : Q (.int z t) { s with heap := h', toks := tk' } := hret _ _ _ F.keep ⟨_, rfl⟩
theorem bits64 {y : Int} (h : y.natAbs < 1073741824) : Builtin.Int.intBits y ≤ 64 := by
  unfold Builtin.Int.intBits
  split
  · decide
  · have h1 : y.natAbs.log2 < 30 := by
      by_cases h0 : y.natAbs = 0
      · rw [h0]; decide +kernel
      · exact (Nat.log2_lt h0).mpr h
    omega
local macro_rules | `(tactic| walk_at "binaryOp Mult int int") => `(tactic| (refine mul_int ?_ (IntMulOk.of_right (bits64 (by assumption)))))
local macro_rules | `(tactic| walk_at "binaryOp FloorDiv int int") => `(tactic| (refine floordiv_int ?_ ?_ (Or.inl (PyProof.noPylong_small (by assumption))); (omega)))
theorem add_does (w : World) (x y : Int) (t1 t2 : Tok) : Does w 55 1 20 [.int x t1, .int y t2] (fun _ => True) (fun _ r _ => ∃ t, r = .int (x + y) t) := by
  constructor
  k_fill
  intro p loose mean mg mb dp un fr gd s Q X T hd hu hp hret
  refine' enterF (binds := [(Str.ofString "a", .int x t1), (Str.ofString "b", .int y t2)]) ?k1 ?k2 ?k3 ?k4 ?k5 ?k6 ?k7 ?_ ?c1 ?c2 ?c3 ?c4
  case k1 => exact X
  case k2 => exact T
  case k3 => k_is
  case k4 => k_is
  case k5 => (show dp < recursionLimit; first | exact Nat.lt_of_le_of_lt (Nat.le_add_right _ _) hd | omega)
  case k6 => exact BindsTo.of_eq rfl
  case k7 => exact locs rfl
  case c1 => rfl
  case c2 => rfl
  case c3 => rfl
  case c4 => decide
  intro L h tk F N
  conv in fBody _ => whnf
  k_with_none
  k_steps
  all_goals first | (refine int_end (s := s) hret (by k_asm)) | w_report
theorem sub_does (w : World) (x y : Int) (t1 t2 : Tok) : Does w 83 1 20 [.int x t1, .int y t2] (fun _ => True) (fun _ r _ => ∃ t, r = .int (x - y) t) := by
  constructor
  k_fill
  intro p loose mean mg mb dp un fr gd s Q X T hd hu hp hret
  refine' enterF (binds := [(Str.ofString "a", .int x t1), (Str.ofString "b", .int y t2)]) ?k1 ?k2 ?k3 ?k4 ?k5 ?k6 ?k7 ?_ ?c1 ?c2 ?c3 ?c4
  case k1 => exact X
  case k2 => exact T
  case k3 => k_is
  case k4 => k_is
  case k5 => (show dp < recursionLimit; first | exact Nat.lt_of_le_of_lt (Nat.le_add_right _ _) hd | omega)
  case k6 => exact BindsTo.of_eq rfl
  case k7 => exact locs rfl
  case c1 => rfl
  case c2 => rfl
  case c3 => rfl
  case c4 => decide
  intro L h tk F N
  conv in fBody _ => whnf
  k_steps
  all_goals first | (refine int_end (s := s) hret (by k_asm)) | w_report
theorem mul_does (w : World) (x y : Int) (t1 t2 : Tok) (hy : y.natAbs < 1073741824) : Does w 76 1 20 [.int x t1, .int y t2] (fun _ => True) (fun _ r _ => ∃ t, r = .int (x * y) t) := by
  constructor
  k_fill
  intro p loose mean mg mb dp un fr gd s Q X T hd hu hp hret
  refine' enterF (binds := [(Str.ofString "a", .int x t1), (Str.ofString "b", .int y t2)]) ?k1 ?k2 ?k3 ?k4 ?k5 ?k6 ?k7 ?_ ?c1 ?c2 ?c3 ?c4
  case k1 => exact X
  case k2 => exact T
  case k3 => k_is
  case k4 => k_is
  case k5 => (show dp < recursionLimit; first | exact Nat.lt_of_le_of_lt (Nat.le_add_right _ _) hd | omega)
  case k6 => exact BindsTo.of_eq rfl
  case k7 => exact locs rfl
  case c1 => rfl
  case c2 => rfl
  case c3 => rfl
  case c4 => decide
  intro L h tk F N
  conv in fBody _ => whnf
  k_steps
  all_goals first | (refine int_end (s := s) hret (by k_asm)) | w_report
theorem mod_does (w : World) (x y : Int) (t1 t2 : Tok) (hy : 0 < y) : Does w 69 1 20 [.int x t1, .int y t2] (fun _ => True) (fun _ r _ => ∃ t, r = .int (x.fmod y) t) := by
  constructor
  k_fill
  intro p loose mean mg mb dp un fr gd s Q X T hd hu hp hret
  refine' enterF (binds := [(Str.ofString "a", .int x t1), (Str.ofString "b", .int y t2)]) ?k1 ?k2 ?k3 ?k4 ?k5 ?k6 ?k7 ?_ ?c1 ?c2 ?c3 ?c4
  case k1 => exact X
  case k2 => exact T
  case k3 => k_is
  case k4 => k_is
  case k5 => (show dp < recursionLimit; first | exact Nat.lt_of_le_of_lt (Nat.le_add_right _ _) hd | omega)
  case k6 => exact BindsTo.of_eq rfl
  case k7 => exact locs rfl
  case c1 => rfl
  case c2 => rfl
  case c3 => rfl
  case c4 => decide
  intro L h tk F N
  conv in fBody _ => whnf
  k_steps
  all_goals first | (refine int_end (s := s) hret (by k_asm)) | w_report
theorem floordiv_does (w : World) (x y : Int) (t1 t2 : Tok) (hy : 0 < y) (hz : y.natAbs < 1073741824) : Does w 62 1 20 [.int x t1, .int y t2] (fun _ => True) (fun _ r _ => ∃ t, r = .int (x.fdiv y) t) := by
  constructor
  k_fill
  intro p loose mean mg mb dp un fr gd s Q X T hd hu hp hret
  refine' enterF (binds := [(Str.ofString "a", .int x t1), (Str.ofString "b", .int y t2)]) ?k1 ?k2 ?k3 ?k4 ?k5 ?k6 ?k7 ?_ ?c1 ?c2 ?c3 ?c4
  case k1 => exact X
  case k2 => exact T
  case k3 => k_is
  case k4 => k_is
  case k5 => (show dp < recursionLimit; first | exact Nat.lt_of_le_of_lt (Nat.le_add_right _ _) hd | omega)
  case k6 => exact BindsTo.of_eq rfl
  case k7 => exact locs rfl
  case c1 => rfl
  case c2 => rfl
  case c3 => rfl
  case c4 => decide
  intro L h tk F N
  conv in fBody _ => whnf
  k_steps
  all_goals first | (refine int_end (s := s) hret (by k_asm)) | w_report
end Mine
end
-- part WLoop
section
open PySem PySem.W PyProof.Rows PySem.Calls PySem.Spec
set_option maxRecDepth 100000
set_option maxHeartbeats 0
set_option linter.unusedVariables false
namespace Mine
noncomputable def TurnEnd (h₀ : Heap) (L : Addr) (s : Shared) (J : (Str → Option Value) → List (Addr × Obj) → Prop) (s₃ : Shared) : Prop :=
  ∃ h' tk m' news' nx, s₃ = { s with heap := h', toks := tk } ∧ Fr h₀ L h' m' ∧ News h₀ L h' news' ∧ (∀ p ∈ nx, p ∈ news') ∧ J m' nx
noncomputable def WStep (h₀ : Heap) (L : Addr) (s : Shared) (J : Nat → (Str → Option Value) → List (Addr × Obj) → Prop) (Q : Flow → Shared → Prop) (n : Nat) (f : Flow) (s₃ : Shared) : Prop :=
  match f with
  | .next | .cont => ∃ n', n' < n ∧ TurnEnd h₀ L s (J n') s₃
  | .brk => Q .next s₃
  | .ret v => Q (.ret v) s₃
section
variable {prog : Program} {w : World} {A : Around} {E : Value → Shared → Prop} {Q : Flow → Shared → Prop} {s : Shared} {env : Env} {h₀ : Heap} {L : Addr}
theorem while_gen {test : Expr} {body : List Stmt} {pos : Pos} {m : Str → Option Value} {news : List (Addr × Obj)} (J : Nat → (Str → Option Value) → List (Addr × Obj) → Prop) {n₀ : Nat}
    (F : Fr h₀ L s.heap m) (N : News h₀ L s.heap news) (hJ : J n₀ m news)
    (turn : ∀ n m₁ news₁ h₁ tk₁, Fr h₀ L h₁ m₁ → News h₀ L h₁ news₁ → J n m₁ news₁ →
      wpAny (model prog w) A (isTrue test env (eval test env)) (fun b s₂ =>
        if b = true then wpAny (model prog w) A (execs body env) (WStep h₀ L s J Q n) E s₂ else Q .next s₂) E { s with heap := h₁, toks := tk₁ })
    (hE : PassesOwn (model prog w) A env E := by passes_own) :
    wpAny (model prog w) A (exec (.While test body [] pos) env) Q E s := by
  refine wpAny_While (codeAny_whileLoop (fun n s' => ∃ h₁ tk₁ m₁ news₁, s' = { s with heap := h₁, toks := tk₁ } ∧ Fr h₀ L h₁ m₁ ∧ News h₀ L h₁ news₁ ∧ J n m₁ news₁) ?_ n₀ ⟨s.heap, s.toks, m, news, rfl, F, N, hJ⟩)
  rintro n s' ⟨h₁, tk₁, m₁, news₁, rfl, F₁, N₁, J₁⟩
  refine wpAny_mono (turn n m₁ news₁ h₁ tk₁ F₁ N₁ J₁) (fun b s₂ h₂ => ?_) hE
  cases b with
  | false =>
    simp only [Bool.false_eq_true, if_false] at h₂ ⊢
    exact wpAny_execs_nil h₂
  | true =>
    simp only [if_true] at h₂ ⊢
    refine wpAny_mono h₂ (fun f s₃ h₃ => ?_) hE
    cases f with
    | next => obtain ⟨n', hn, h', tk, m', news', nx, rfl, F₂, N₂, hs, J₂⟩ := h₃; exact ⟨n', hn, h', tk, m', nx, rfl, F₂, fun p hp => N₂ p (hs p hp), J₂⟩
    | cont => obtain ⟨n', hn, h', tk, m', news', nx, rfl, F₂, N₂, hs, J₂⟩ := h₃; exact ⟨n', hn, h', tk, m', nx, rfl, F₂, fun p hp => N₂ p (hs p hp), J₂⟩
    | brk => exact h₃
    | ret v => exact h₃
end
end Mine
namespace Mine
noncomputable def Hold (P : Prop) : Prop := P
theorem Hold.mk {P : Prop} (h : Hold P) : P := h
theorem Hold.open {P : Prop} (h : P) : Hold P := h
theorem ints_cases {vs : List Value} {zs : List Int} (h : IntsAre vs zs) : (vs = [] ∧ zs = []) ∨ ∃ a t vs' zs', vs = .int a t :: vs' ∧ zs = a :: zs' ∧ IntsAre vs' zs' := by
  cases h with
  | nil => exact .inl ⟨rfl, rfl⟩
  | cons k t r => exact .inr ⟨k, t, _, _, rfl, rfl, r⟩
theorem newPlain_news {h₀ h' : Heap} {L D : Addr} {news : List (Addr × Obj)} {m : Str → Option Value} {its : Array Value} (F : Fr h₀ L h' m) (N : News h₀ L h' news) (hn : h₀.get? D = none) (hp : NewPlain h' news D its) :
    ∃ k, News h₀ L h' ((D, listOf its k) :: news) ∧ ∀ p ∈ news, @Ne Nat p.1 D := by
  obtain ⟨⟨k, e⟩, hd⟩ := id hp
  refine ⟨k, ?_, hd⟩
  intro p hm
  rcases List.mem_cons.mp hm with rfl | hm
  · exact ⟨e, hp.ne_locals F, hn⟩
  · exact N p hm
end Mine
namespace Mine
theorem range_small {b : Int} {n : Nat} (hb : b = (n : Int)) (hn : n ≤ 1000) : Builtin.Range.small 0 b 1 = true := by
  subst hb
  exact small_one (by omega) (by omega) (by omega) (by omega)
theorem range_size {b : Int} {n : Nat} (hb : b = (n : Int)) : Builtin.Range.rangeSize 0 b 1 = (n : Int) := by
  subst hb
  rw [rangeSize_one]
  split <;> omega
theorem le_sizeLine {n : Nat} (hn : n ≤ 1000) : n ≤ sizeLine := Nat.le_trans hn (by decide)
theorem Keeps.here (s : Shared) : PySem.Keeps s s := ⟨s.heap, s.toks, rfl, fun _ _ e => e⟩
end Mine
namespace Mine
theorem InElt.next {g h h' : Heap} (E : InElt g h) (K : Keeps h h') : InElt g h' := fun b o e => K b o (E b o e)
end Mine
end
-- part WStr
section
open PySem PySem.W PyProof.Rows PySem.Calls PySem.Spec
set_option maxRecDepth 100000
set_option maxHeartbeats 0
set_option linter.unusedVariables false
namespace Mine
noncomputable def StrIt (h : Heap) (I : Addr) (x : Str) (t : Tok) (i : Nat) : Prop := h.IsStrIter I "str_ascii_iterator" x t i ∨ h.IsStrIter I "str_iterator" x t i
section
variable {prog : Program} {w : World} {A : Around} {E : Value → Shared → Prop} {s : Shared}
theorem StrIt.iter {x : Str} {t : Tok} {Q : Value → Shared → Prop}
    (hQ : ∀ (o : Obj), StrIt (s.heap.push o) s.heap.objs.size x t 0 → Q (.ref s.heap.objs.size) { s with heap := s.heap.push o }) : wpAny (model prog w) A (pyIter (.str x t)) Q E s := by
  cases ha : x.cps.all (· < 128)
  · exact wpAny_pyIter_wide ha (hQ _ (.inr ⟨_, Heap.get?_push_size _ rfl, rfl, rfl⟩))
  · exact wpAny_pyIter_ascii ha (hQ _ (.inl ⟨_, Heap.get?_push_size _ rfl, rfl, rfl⟩))
theorem StrIt.item {I : Addr} {x : Str} {t : Tok} {i c : Nat} {Q : Option Value → Shared → Prop} (hit : StrIt s.heap I x t i) (hx : x.cps[i]? = some c)
    (hQ : ∀ h', StrIt h' I x t (i + 1) → Heap.SameBut I s.heap h' → Q (some (.str ⟨#[c]⟩ s.toks)) { s with heap := h', toks := s.toks + 1 }) : wpAny (model prog w) A (pyNext (.ref I)) Q E s := by
  rcases hit with hit | hit
  · exact wpAny_pyNext_ascii_item hit hx fun h' a b => hQ h' (.inl a) b
  · exact wpAny_pyNext_wide_item hit hx fun h' a b => hQ h' (.inr a) b
theorem StrIt.done {I : Addr} {x : Str} {t : Tok} {i : Nat} {Q : Option Value → Shared → Prop} (hh : A.handled = none) (hit : StrIt s.heap I x t i) (hx : x.cps[i]? = none)
    (hQ : ∀ h', Heap.ExtBut I s.heap h' → Q none { s with heap := h' }) : wpAny (model prog w) A (pyNext (.ref I)) Q E s := by
  rcases hit with hit | hit
  · exact wpAny_pyNext_ascii_end hh hit hx hQ
  · exact wpAny_pyNext_wide_end hh hit hx hQ
theorem StrIt.keep {h h' : Heap} {I : Addr} {x : Str} {t : Tok} {i : Nat} (hit : StrIt h I x t i) (k : ∀ o, h.get? I = some o → h'.get? I = some o) : StrIt h' I x t i := by
  rcases hit with ⟨o, ho, r⟩ | ⟨o, ho, r⟩
  · exact .inl ⟨o, k o ho, r⟩
  · exact .inr ⟨o, k o ho, r⟩
end
end Mine
namespace Mine
section
variable {prog : Program} {w : World} {A : Around} {s : Shared} {env : Env} {h₀ : Heap}
theorem for_str {xn : Str} {px : Pos} {body : List Stmt} {x : Str} {t : Tok} {Q : Flow → Shared → Prop} {E : Value → Shared → Prop} {m₀ : Str → Option Value} {news : List (Addr × Obj)} (J : Nat → (Str → Option Value) → Nat → Prop)
    (hh : A.handled = none) (hx : env.kindOf xn = some .local) (hp : (env.scope.kind == .class || (env.scope.kind == .module && env.locals != env.globals)) = false)
    (F : Fr h₀ env.locals s.heap m₀) (N : News h₀ env.locals s.heap news) (hj : J 0 m₀ s.toks)
    (turn : ∀ i c m₁ h tk I oI, x.cps[i]? = some c → J i m₁ tk → Fr h₀ env.locals h (fun y => if y = xn then some (.str ⟨#[c]⟩ tk) else m₁ y) → News h₀ env.locals h ((I, oI) :: news) →
      wpAny (model prog w) A (execs body env) (fun f s₃ => f = .next ∧ ∃ h' m' tk', s₃ = { s with heap := h', toks := tk' } ∧ Fr h₀ env.locals h' m' ∧ News h₀ env.locals h' ((I, oI) :: news) ∧ J (i + 1) m' tk') E { s with heap := h, toks := tk + 1 + 1 })
    (done : ∀ m₁ h tk, J x.cps.size m₁ tk → Fr h₀ env.locals h m₁ → News h₀ env.locals h news → Q .next { s with heap := h, toks := tk })
    (hE : PassesOwn (model prog w) A env E) :
    wpAny (model prog w) A (pyIter (.str x t)) (fun it s₂ => codeAny (model prog w) A (.forLoop (.Name xn px) it body [] env) (fun r s' => match r with | .ok f => Q f s' | .error e => cameBackBy (model prog w) A env E e s') s₂) E s := by
  refine StrIt.iter fun o hit => ?_
  have hlt : ∀ h' : Heap, (∀ b o, (s.heap.push o).get? b = some o → True) → True := fun _ _ => trivial
  have hIL : env.locals ≠ s.heap.objs.size := Nat.ne_of_lt F.ns.lt
  have hI0 : h₀.get? s.heap.objs.size = none := next_is_new F
  have hIN : ∀ p ∈ news, p.1 ≠ s.heap.objs.size := fun p hp => Nat.ne_of_lt (Heap.lt_size (N p hp).1)
  refine codeAny_forLoop
    (fun k s' => ∃ h' tk m' i, s' = { s with heap := h', toks := tk } ∧ StrIt h' s.heap.objs.size x t i ∧ Fr h₀ env.locals h' m' ∧ News h₀ env.locals h' news ∧ J i m' tk ∧ i ≤ x.cps.size ∧ k = x.cps.size - i) ?_ (x.cps.size)
    ⟨_, s.toks, m₀, 0, rfl, hit, F.push _, fun p hp => ⟨Heap.get?_push_of_some _ (N p hp).1, (N p hp).2⟩, hj, Nat.zero_le _, rfl⟩
  rintro k s' ⟨h', tk, m', i, rfl, hit', F', N', hJ, hi, rfl⟩
  have next : ∀ h₁ : Heap, (∀ b o, b ≠ s.heap.objs.size → h'.get? b = some o → h₁.get? b = some o) → Fr h₀ env.locals h₁ m' ∧ News h₀ env.locals h₁ news := fun h₁ hk₁ =>
    ⟨⟨F'.ns.at' fun o e => hk₁ _ o hIL e, fun b o e => hk₁ b o (fun q => by rw [q, hI0] at e; cases e) (F'.keep b o e), F'.above⟩, fun p hp => ⟨hk₁ _ _ (hIN p hp) (N' p hp).1, (N' p hp).2⟩⟩
  by_cases hlt : i < x.cps.size
  · have hx1 : x.cps[i]? = some x.cps[i] := by simp [hlt]
    refine StrIt.item hit' hx1 fun h₁ hit₁ hs₁ => ?_
    obtain ⟨F₁, N₁⟩ := next h₁ fun b o hb e => (hs₁.2 b hb).trans e
    refine wpAny_assign_Name (wpAny_storeName_local hx F₁.ns (fun h₂ hn₂ hs₂ => ?_) hp)
    have hit₂ : StrIt h₂ s.heap.objs.size x t (i + 1) := hit₁.keep fun o e => (hs₂.2 _ fun q => hIL q.symm).trans e
    obtain ⟨oI, hoI⟩ : ∃ oI, h₂.get? s.heap.objs.size = some oI := by rcases hit₂ with ⟨o, ho, _⟩ | ⟨o, ho, _⟩ <;> exact ⟨o, ho⟩
    have N₂ : News h₀ env.locals h₂ ((s.heap.objs.size, oI) :: news) := by
      intro p hp
      rcases List.mem_cons.mp hp with rfl | hp
      · exact ⟨hoI, fun q => hIL q.symm, hI0⟩
      · exact (N₁.set hs₂) p hp
    refine wpAny_passesOwn hE (wpAny_mono (turn i x.cps[i] m' h₂ tk _ oI hx1 hJ (F₁.set hn₂ hs₂) N₂) (fun f s₃ h₃ => ?_) fun _ _ e => e)
    obtain ⟨rfl, h₃', m₂, tk₃, rfl, F₃, N₃, hJ₃⟩ := h₃
    refine ⟨x.cps.size - (i + 1), by omega, h₃', tk₃, m₂, i + 1, rfl, hit₂.keep fun o e => ?_, F₃, fun p hp => N₃ p (.tail _ hp), hJ₃, hlt, rfl⟩
    have := (N₃ _ (.head _)).1
    rw [hoI] at e; cases e; exact this
  · have hin : i = x.cps.size := by omega
    subst hin
    refine StrIt.done hh hit' (by simp) fun h₁ hk₁ => wpAny_execs_nil ?_
    obtain ⟨F₁, N₁⟩ := next h₁ fun b o hb e => hk₁ b o hb e
    exact done m' h₁ tk hJ F₁ N₁
end
end Mine
end
-- part WStrN
section
open PySem PySem.W PyProof.Rows PySem.Calls PySem.Spec
set_option maxRecDepth 100000
set_option maxHeartbeats 0
set_option linter.unusedVariables false
namespace Mine
section
variable {prog : Program} {w : World} {A : Around} {s : Shared} {env : Env} {h₀ : Heap}
theorem for_strN {xn : Str} {px : Pos} {body : List Stmt} {x : Str} {t : Tok} {Q : Flow → Shared → Prop} {E : Value → Shared → Prop} {m₀ : Str → Option Value} {news : List (Addr × Obj)} (J : Nat → (Str → Option Value) → List (Addr × Obj) → Prop)
    (hh : A.handled = none) (hx : env.kindOf xn = some .local) (hp : (env.scope.kind == .class || (env.scope.kind == .module && env.locals != env.globals)) = false)
    (F : Fr h₀ env.locals s.heap m₀) (N : News h₀ env.locals s.heap news) (hj : J 0 m₀ news)
    (turn : ∀ i c m₁ news₁ h tk I oI, x.cps[i]? = some c → J i m₁ news₁ → (∀ p ∈ news, @LT.lt Nat _ p.1 I) → Fr h₀ env.locals h (fun y => if y = xn then some (.str ⟨#[c]⟩ tk) else m₁ y) → News h₀ env.locals h ((I, oI) :: news₁) →
      wpAny (model prog w) A (execs body env) (fun f s₃ => f = .next ∧ ∃ h' m' tk' news' nx, s₃ = { s with heap := h', toks := tk' } ∧ Fr h₀ env.locals h' m' ∧ News h₀ env.locals h' news' ∧ (I, oI) ∈ news' ∧ (∀ p ∈ nx, p ∈ news') ∧ J (i + 1) m' nx) E { s with heap := h, toks := tk + 1 + 1 })
    (done : ∀ m₁ news₁ h tk, J x.cps.size m₁ news₁ → Fr h₀ env.locals h m₁ → News h₀ env.locals h news₁ → Q .next { s with heap := h, toks := tk })
    (hne : ∀ i m₁ news₁, J i m₁ news₁ → ∀ p ∈ news₁, p.1 ∈ news.map (·.1))
    (hE : PassesOwn (model prog w) A env E) :
    wpAny (model prog w) A (pyIter (.str x t)) (fun it s₂ => codeAny (model prog w) A (.forLoop (.Name xn px) it body [] env) (fun r s' => match r with | .ok f => Q f s' | .error e => cameBackBy (model prog w) A env E e s') s₂) E s := by
  refine StrIt.iter fun o hit => ?_
  have hIL : env.locals ≠ s.heap.objs.size := Nat.ne_of_lt F.ns.lt
  have hI0 : h₀.get? s.heap.objs.size = none := next_is_new F
  have hlt : ∀ p ∈ news, @LT.lt Nat _ p.1 s.heap.objs.size := fun p hp => Heap.lt_size (N p hp).1
  have hIN : ∀ i m₁ news₁, J i m₁ news₁ → ∀ p ∈ news₁, p.1 ≠ s.heap.objs.size := fun i m₁ news₁ hJ p hp => by
    obtain ⟨q, hq, e⟩ := List.mem_map.mp (hne i m₁ news₁ hJ p hp)
    exact Nat.ne_of_lt (e ▸ hlt q hq)
  refine codeAny_forLoop
    (fun k s' => ∃ h' tk m' news' i, s' = { s with heap := h', toks := tk } ∧ StrIt h' s.heap.objs.size x t i ∧ Fr h₀ env.locals h' m' ∧ News h₀ env.locals h' news' ∧ J i m' news' ∧ i ≤ x.cps.size ∧ k = x.cps.size - i) ?_ (x.cps.size)
    ⟨_, s.toks, m₀, news, 0, rfl, hit, F.push _, fun p hp => ⟨Heap.get?_push_of_some _ (N p hp).1, (N p hp).2⟩, hj, Nat.zero_le _, rfl⟩
  rintro k s' ⟨h', tk, m', news', i, rfl, hit', F', N', hJ, hi, rfl⟩
  have next : ∀ h₁ : Heap, (∀ b o, b ≠ s.heap.objs.size → h'.get? b = some o → h₁.get? b = some o) → Fr h₀ env.locals h₁ m' ∧ News h₀ env.locals h₁ news' := fun h₁ hk₁ =>
    ⟨⟨F'.ns.at' fun o e => hk₁ _ o hIL e, fun b o e => hk₁ b o (fun q => by rw [q, hI0] at e; cases e) (F'.keep b o e), F'.above⟩, fun p hp => ⟨hk₁ _ _ (hIN _ _ _ hJ p hp) (N' p hp).1, (N' p hp).2⟩⟩
  by_cases hlt' : i < x.cps.size
  · have hx1 : x.cps[i]? = some x.cps[i] := by simp [hlt']
    refine StrIt.item hit' hx1 fun h₁ hit₁ hs₁ => ?_
    obtain ⟨F₁, N₁⟩ := next h₁ fun b o hb e => (hs₁.2 b hb).trans e
    refine wpAny_assign_Name (wpAny_storeName_local hx F₁.ns (fun h₂ hn₂ hs₂ => ?_) hp)
    have hit₂ : StrIt h₂ s.heap.objs.size x t (i + 1) := hit₁.keep fun o e => (hs₂.2 _ fun q => hIL q.symm).trans e
    obtain ⟨oI, hoI⟩ : ∃ oI, h₂.get? s.heap.objs.size = some oI := by rcases hit₂ with ⟨o, ho, _⟩ | ⟨o, ho, _⟩ <;> exact ⟨o, ho⟩
    have N₂ : News h₀ env.locals h₂ ((s.heap.objs.size, oI) :: news') := by
      intro p hp
      rcases List.mem_cons.mp hp with rfl | hp
      · exact ⟨hoI, fun q => hIL q.symm, hI0⟩
      · exact (N₁.set hs₂) p hp
    refine wpAny_passesOwn hE (wpAny_mono (turn i x.cps[i] m' news' h₂ tk _ oI hx1 hJ hlt (F₁.set hn₂ hs₂) N₂) (fun f s₃ h₃ => ?_) fun _ _ e => e)
    obtain ⟨rfl, h₃', m₂, tk₃, news₂, nx, rfl, F₃, N₃, hmI, hsub, hJ₃⟩ := h₃
    refine ⟨x.cps.size - (i + 1), by omega, h₃', tk₃, m₂, nx, i + 1, rfl, hit₂.keep fun o e => ?_, F₃, fun p hp => N₃ p (hsub p hp), hJ₃, hlt', rfl⟩
    have := (N₃ _ hmI).1
    rw [hoI] at e; cases e; exact this
  · have hin : i = x.cps.size := by omega
    subst hin
    refine StrIt.done hh hit' (by simp) fun h₁ hk₁ => wpAny_execs_nil ?_
    obtain ⟨F₁, N₁⟩ := next h₁ fun b o hb e => hk₁ b o hb e
    exact done m' news' h₁ tk hJ F₁ N₁
end
end Mine
end
-- part WListG
section
open PySem PySem.W PyProof.Rows PySem.Calls PySem.Spec
set_option maxRecDepth 100000
set_option maxHeartbeats 0
set_option linter.unusedVariables false
namespace Mine
noncomputable def GStep (h₀ : Heap) (L : Addr) (s : Shared) (J : (Str → Option Value) → List (Addr × Obj) → Prop) (I : Addr) (oI : Obj) (Q : Flow → Shared → Prop) (f : Flow) (s₃ : Shared) : Prop :=
  match f with
  | .next | .cont => ∃ h' m' tk' news' nx, s₃ = { s with heap := h', toks := tk' } ∧ Fr h₀ L h' m' ∧ News h₀ L h' news' ∧ (I, oI) ∈ news' ∧ (∀ p ∈ nx, p ∈ news') ∧ J m' nx
  | .brk => Q .next s₃
  | .ret v => Q (.ret v) s₃
section
variable {prog : Program} {w : World} {A : Around} {s : Shared} {env : Env} {h₀ : Heap}
theorem go_li {I l : Addr} {i : Nat} {Q : Unit → Shared → Prop} {E : Value → Shared → Prop} (hit : s.heap.IsListIter I l i) (hQ : Q () s) (tgt : Expr) (v : Value) : wpAny (model prog w) A (letOwnedTupleGo tgt (.ref I) v) Q E s := by
  cases tgt <;> first
    | exact wpAny_pure hQ
    | (cases v <;> first
        | exact wpAny_pure hQ
        | exact wpAny_letOwnedTupleGo_listiter (elts := []) (x1 := 0) (pos := default) hit hQ)
theorem for_listG {tgt : Expr} {body : List Stmt} {l : Addr} {vs : List Value} {Q : Flow → Shared → Prop} {E : Value → Shared → Prop} {m₀ : Str → Option Value} {news : List (Addr × Obj)} (J : Nat → (Str → Option Value) → List (Addr × Obj) → Prop)
    (hh : A.handled = none) (hl : ∀ h, Keeps h₀ h → h.IsList l vs.toArray)
    (F : Fr h₀ env.locals s.heap m₀) (N : News h₀ env.locals s.heap news) (hj : J 0 m₀ news)
    (turn : ∀ i v m₁ news₁ h tk I oI, vs[i]? = some v → J i m₁ news₁ → (∀ p ∈ news, @LT.lt Nat _ p.1 I) → Fr h₀ env.locals h m₁ → News h₀ env.locals h ((I, oI) :: news₁) →
      wpAny (model prog w) A (assign tgt env v) (fun _ s₂ => wpAny (model prog w) A (execs body env) (GStep h₀ env.locals s (J (i + 1)) I oI Q) E s₂) E { s with heap := h, toks := tk })
    (done : ∀ m₁ news₁ h tk, J vs.length m₁ news₁ → Fr h₀ env.locals h m₁ → News h₀ env.locals h news₁ → Q .next { s with heap := h, toks := tk })
    (hne : ∀ i m₁ news₁, J i m₁ news₁ → ∀ p ∈ news₁, p.1 ∈ news.map (·.1))
    (hE : PassesOwn (model prog w) A env E) :
    wpAny (model prog w) A (pyIter (.ref l)) (fun it s₂ => codeAny (model prog w) A (.forLoop tgt it body [] env) (fun r s' => match r with | .ok f => Q f s' | .error e => cameBackBy (model prog w) A env E e s') s₂) E s := by
  refine wpAny_pyIter_list (hl _ F.keep) ?_
  have hIL : env.locals ≠ s.heap.objs.size := Nat.ne_of_lt F.ns.lt
  have hI0 : h₀.get? s.heap.objs.size = none := next_is_new F
  have hlt : ∀ p ∈ news, @LT.lt Nat _ p.1 s.heap.objs.size := fun p hp => Heap.lt_size (N p hp).1
  have hIN : ∀ i m₁ news₁, J i m₁ news₁ → ∀ p ∈ news₁, p.1 ≠ s.heap.objs.size := fun i m₁ news₁ hJ p hp => by
    obtain ⟨q, hq, e⟩ := List.mem_map.mp (hne i m₁ news₁ hJ p hp)
    exact Nat.ne_of_lt (e ▸ hlt q hq)
  refine codeAny_forLoop_any
    (fun k s' => ∃ h' tk m' news' i, s' = { s with heap := h', toks := tk } ∧ h'.IsListIter s.heap.objs.size l i ∧ Fr h₀ env.locals h' m' ∧ News h₀ env.locals h' news' ∧ J i m' news' ∧ i ≤ vs.length ∧ k = vs.length - i) ?_ vs.length
    ⟨_, s.toks, m₀, news, 0, rfl, ⟨_, Heap.get?_push_size _ rfl, rfl, rfl⟩, F.push _, fun p hp => ⟨Heap.get?_push_of_some _ (N p hp).1, (N p hp).2⟩, hj, Nat.zero_le _, rfl⟩
  rintro k s' ⟨h', tk, m', news', i, rfl, hit', F', N', hJ, hi, rfl⟩
  have next : ∀ h₁ : Heap, (∀ b o, b ≠ s.heap.objs.size → h'.get? b = some o → h₁.get? b = some o) → Fr h₀ env.locals h₁ m' ∧ News h₀ env.locals h₁ news' := fun h₁ hk₁ =>
    ⟨⟨F'.ns.at' fun o e => hk₁ _ o hIL e, fun b o e => hk₁ b o (fun q => by rw [q, hI0] at e; cases e) (F'.keep b o e), F'.above⟩, fun p hp => ⟨hk₁ _ _ (hIN _ _ _ hJ p hp) (N' p hp).1, (N' p hp).2⟩⟩
  by_cases hlt' : i < vs.length
  · have hx1 : vs.toArray[i]? = some vs[i] := by simp [hlt']
    refine wpAny_pyNext_list_item hit' (hl _ F'.keep) hx1 fun h₁ hit₁ hs₁ => ?_
    obtain ⟨F₁, N₁⟩ := next h₁ fun b o hb e => (hs₁.2 b hb).trans e
    obtain ⟨oI, hoI, _⟩ := id hit₁
    have N₂ : News h₀ env.locals h₁ ((s.heap.objs.size, oI) :: news') := by
      intro p hp
      rcases List.mem_cons.mp hp with rfl | hp
      · exact ⟨hoI, fun q => hIL q.symm, hI0⟩
      · exact N₁ p hp
    refine go_li hit₁ ?_ tgt vs[i]
    refine wpAny_passesOwn hE (wpAny_mono (turn i vs[i] m' news' h₁ tk _ oI (by simp [hlt']) hJ hlt F₁ N₂) (fun _ s₂ h₂ => wpAny_passesOwn hE (wpAny_mono h₂ (fun f s₃ h₃ => ?_) fun _ _ e => e)) fun _ _ e => e)
    have fin : (∃ h' m' tk' news' nx, s₃ = { s with heap := h', toks := tk' } ∧ Fr h₀ env.locals h' m' ∧ News h₀ env.locals h' news' ∧ (s.heap.objs.size, oI) ∈ news' ∧ (∀ p ∈ nx, p ∈ news') ∧ J (i + 1) m' nx) →
        ∃ k', k' < vs.length - i ∧ ∃ h' tk m' news' i, s₃ = { s with heap := h', toks := tk } ∧ h'.IsListIter s.heap.objs.size l i ∧ Fr h₀ env.locals h' m' ∧ News h₀ env.locals h' news' ∧ J i m' news' ∧ i ≤ vs.length ∧ k' = vs.length - i := by
      rintro ⟨h₃', m₂, tk₃, news₂, nx, rfl, F₃, N₃, hmI, hsub, hJ₃⟩
      obtain ⟨o2, ho2, r2⟩ := hit₁
      have h5 := (N₃ _ hmI).1
      rw [hoI] at ho2; cases ho2
      exact ⟨vs.length - (i + 1), by omega, h₃', tk₃, m₂, nx, i + 1, rfl, ⟨_, h5, r2⟩, F₃, fun p hp => N₃ p (hsub p hp), hJ₃, hlt', rfl⟩
    cases f with
    | next => exact fin h₃
    | cont => exact fin h₃
    | brk => exact h₃
    | ret v => exact h₃
  · have hin : i = vs.length := by omega
    subst hin
    refine wpAny_pyNext_list_end hh hit' (hl _ F'.keep) (by simp) fun h₁ hk₁ => wpAny_execs_nil ?_
    obtain ⟨F₁, N₁⟩ := next h₁ fun b o hb e => hk₁ b o hb e
    exact done m' news' h₁ tk hJ F₁ N₁
end
end Mine
end
-- part WIter
section
open PySem PySem.W PyProof.Rows PySem.Calls PySem.Spec
set_option maxRecDepth 100000
set_option maxHeartbeats 0
set_option linter.unusedVariables false
namespace Mine
structure OneIter (prog : Program) (w : World) (A : Around) (tgt : Expr) (I : Addr) (n : Nat) (P : Nat → Value → Prop) (St : Nat → Heap → Prop) (Fx : Heap → Prop) : Prop where
  obj : ∀ i h, St i h → ∃ o, h.get? I = some o
  frame : ∀ i h h', St i h → (∀ o, h.get? I = some o → h'.get? I = some o) → St i h'
  item : ∀ i (s : Shared) (Q : Option Value → Shared → Prop) (E : Value → Shared → Prop), i < n → St i s.heap → Fx s.heap →
    (∀ v h' tk, P i v → St (i + 1) h' → (∀ b o, b ≠ I → s.heap.get? b = some o → h'.get? b = some o) → Q (some v) { s with heap := h', toks := tk }) → wpAny (model prog w) A (pyNext (.ref I)) Q E s
  done : ∀ (s : Shared) (Q : Option Value → Shared → Prop) (E : Value → Shared → Prop), St n s.heap → Fx s.heap →
    (∀ h' tk, (∀ b o, b ≠ I → s.heap.get? b = some o → h'.get? b = some o) → Q none { s with heap := h', toks := tk }) → wpAny (model prog w) A (pyNext (.ref I)) Q E s
  go : ∀ i v (s : Shared) (Q : Unit → Shared → Prop) (E : Value → Shared → Prop), St i s.heap → Q () s → wpAny (model prog w) A (letOwnedTupleGo tgt (.ref I) v) Q E s
noncomputable def HStep (h₀ : Heap) (L : Addr) (s : Shared) (J : (Str → Option Value) → List (Addr × Obj) → Prop) (I : Addr) (oI : Obj) (Q : Flow → Shared → Prop) (f : Flow) (s₃ : Shared) : Prop :=
  match f with
  | .next | .cont => ∃ h' m' tk' news' nx, s₃ = { s with heap := h', toks := tk' } ∧ Fr h₀ L h' m' ∧ News h₀ L h' news' ∧ (I, oI) ∈ news' ∧ (∀ p ∈ nx, p ∈ news') ∧ (∀ p ∈ nx, @Ne Nat p.1 I) ∧ J m' nx
  | .brk => Q .next s₃
  | .ret v => Q (.ret v) s₃
theorem hnext {h₀ h' : Heap} {L : Addr} {s : Shared} {J : (Str → Option Value) → List (Addr × Obj) → Prop} {I : Addr} {oI : Obj} {Q : Flow → Shared → Prop} {m' : Str → Option Value} {news' nx : List (Addr × Obj)} {tk : Nat}
    (F : Fr h₀ L h' m') (N : News h₀ L h' news') (hI : (I, oI) ∈ news') (hs : ∀ p ∈ nx, p ∈ news') (hn : ∀ p ∈ nx, @Ne Nat p.1 I) (hJ : J m' nx) : HStep h₀ L s J I oI Q .next { s with heap := h', toks := tk } := ⟨_, _, _, _, nx, rfl, F, N, hI, hs, hn, hJ⟩
section
variable {prog : Program} {w : World} {A : Around} {s : Shared} {env : Env} {h₀ : Heap}
theorem for_oneG {tgt : Expr} {body : List Stmt} {I : Addr} {n : Nat} {P : Nat → Value → Prop} {St : Nat → Heap → Prop} {Fx : Heap → Prop} {Q : Flow → Shared → Prop} {E : Value → Shared → Prop} {m₀ : Str → Option Value} {news : List (Addr × Obj)} (J : Nat → (Str → Option Value) → List (Addr × Obj) → Prop)
    (W : OneIter prog w A tgt I n P St Fx) (hfx : ∀ i m₁ news₁ h, J i m₁ news₁ → Fr h₀ env.locals h m₁ → News h₀ env.locals h news₁ → Fx h)
    (hIL : env.locals ≠ I) (hI0 : h₀.get? I = none) (hne : ∀ p ∈ news, p.1 ≠ I) (hst : St 0 s.heap)
    (F : Fr h₀ env.locals s.heap m₀) (N : News h₀ env.locals s.heap news) (hj : J 0 m₀ news)
    (turn : ∀ i v m₁ news₁ h tk oI, i < n → P i v → J i m₁ news₁ → (∀ p ∈ news₁, @Ne Nat p.1 I) → Fr h₀ env.locals h m₁ → News h₀ env.locals h ((I, oI) :: news₁) →
      wpAny (model prog w) A (assign tgt env v) (fun _ s₂ => wpAny (model prog w) A (execs body env) (HStep h₀ env.locals s (J (i + 1)) I oI Q) E s₂) E { s with heap := h, toks := tk })
    (done : ∀ m₁ news₁ h tk, J n m₁ news₁ → Fr h₀ env.locals h m₁ → News h₀ env.locals h news₁ → Q .next { s with heap := h, toks := tk })
    (hE : PassesOwn (model prog w) A env E) :
    codeAny (model prog w) A (.forLoop tgt (.ref I) body [] env) (fun r s' => match r with | .ok f => Q f s' | .error e => cameBackBy (model prog w) A env E e s') s := by
  refine codeAny_forLoop_any
    (fun k s' => ∃ h' tk m' news' i, s' = { s with heap := h', toks := tk } ∧ St i h' ∧ Fr h₀ env.locals h' m' ∧ News h₀ env.locals h' news' ∧ J i m' news' ∧ (∀ p ∈ news', p.1 ≠ I) ∧ i ≤ n ∧ k = n - i) ?_ n
    ⟨s.heap, s.toks, m₀, news, 0, rfl, hst, F, N, hj, hne, Nat.zero_le _, rfl⟩
  rintro k s' ⟨h', tk, m', news', i, rfl, hit', F', N', hJ, hn', hi, rfl⟩
  have next : ∀ h₁ : Heap, (∀ b o, b ≠ I → h'.get? b = some o → h₁.get? b = some o) → Fr h₀ env.locals h₁ m' ∧ News h₀ env.locals h₁ news' := fun h₁ hk₁ =>
    ⟨⟨F'.ns.at' fun o e => hk₁ _ o hIL e, fun b o e => hk₁ b o (fun q => by rw [q, hI0] at e; cases e) (F'.keep b o e), F'.above⟩, fun p hp => ⟨hk₁ _ _ (hn' p hp) (N' p hp).1, (N' p hp).2⟩⟩
  by_cases hlt' : i < n
  · refine W.item i _ _ _ hlt' hit' (hfx _ _ _ _ hJ F' N') fun v h₁ tk₁ hP hit₁ hs₁ => ?_
    obtain ⟨F₁, N₁⟩ := next h₁ hs₁
    obtain ⟨oI, hoI⟩ := W.obj _ _ hit₁
    have N₂ : News h₀ env.locals h₁ ((I, oI) :: news') := by
      intro p hp
      rcases List.mem_cons.mp hp with rfl | hp
      · exact ⟨hoI, fun q => hIL q.symm, hI0⟩
      · exact N₁ p hp
    refine W.go _ _ _ _ _ hit₁ ?_
    refine wpAny_passesOwn hE (wpAny_mono (turn i v m' news' h₁ tk₁ oI hlt' hP hJ hn' F₁ N₂) (fun _ s₂ h₂ => wpAny_passesOwn hE (wpAny_mono h₂ (fun f s₃ h₃ => ?_) fun _ _ e => e)) fun _ _ e => e)
    have fin : (∃ h' m' tk' news' nx, s₃ = { s with heap := h', toks := tk' } ∧ Fr h₀ env.locals h' m' ∧ News h₀ env.locals h' news' ∧ (I, oI) ∈ news' ∧ (∀ p ∈ nx, p ∈ news') ∧ (∀ p ∈ nx, @Ne Nat p.1 I) ∧ J (i + 1) m' nx) →
        ∃ k', k' < n - i ∧ ∃ h' tk m' news' i, s₃ = { s with heap := h', toks := tk } ∧ St i h' ∧ Fr h₀ env.locals h' m' ∧ News h₀ env.locals h' news' ∧ J i m' news' ∧ (∀ p ∈ news', p.1 ≠ I) ∧ i ≤ n ∧ k' = n - i := by
      rintro ⟨h₃', m₂, tk₃, news₂, nx, rfl, F₃, N₃, hmI, hsub, hnI, hJ₃⟩
      exact ⟨n - (i + 1), by omega, h₃', tk₃, m₂, nx, i + 1, rfl, W.frame _ _ _ hit₁ (fun o e => by rw [hoI] at e; cases e; exact (N₃ _ hmI).1), F₃, fun p hp => N₃ p (hsub p hp), hJ₃, hnI, hlt', rfl⟩
    cases f with
    | next => exact fin h₃
    | cont => exact fin h₃
    | brk => exact h₃
    | ret v => exact h₃
  · have hin : i = n := by omega
    subst hin
    refine W.done _ _ _ hit' (hfx _ _ _ _ hJ F' N') fun h₁ tk₁ hk₁ => wpAny_execs_nil ?_
    obtain ⟨F₁, N₁⟩ := next h₁ hk₁
    exact done m' news' h₁ tk₁ hJ F₁ N₁
theorem OneIter.range {xn : Str} {px : Pos} (hh : A.handled = none) (I : Addr) (n : Nat) :
    OneIter prog w A (.Name xn px) I n (fun i v => ∃ t, v = .int (i : Nat) t) (fun i h => IsRangeIter h I (i : Nat) ((n : Int) - (i : Nat)) 1) (fun _ => True) where
  obj := fun _ _ st => ⟨_, st⟩
  frame := fun _ _ _ st k => k _ st
  item := fun i s Q E hi st _ hQ => by
    refine wpAny_pyNext_range_item st (by omega) fun h' hit' hs' => hQ _ h' _ ⟨_, rfl⟩ ?_ fun b o hb e => (hs'.2 b hb).trans e
    have e1 : ((i + 1 : Nat) : Int) = (i : Int) + 1 := rfl
    have e2 : (n : Int) - ((i + 1 : Nat) : Int) = (n : Int) - (i : Int) - 1 := by omega
    show IsRangeIter h' I ((i + 1 : Nat) : Int) ((n : Int) - ((i + 1 : Nat) : Int)) 1
    rw [e2]
    exact hit'
  done := fun s Q E st _ hQ => wpAny_pyNext_range_end hh st (by omega) fun h' he' => hQ h' s.toks fun b o hb e => he' b o hb e
  go := fun _ _ _ _ _ _ hQ => wpAny_pure hQ
theorem for_rangeG {xn : Str} {px : Pos} {body : List Stmt} {r : Addr} {b : Int} {n : Nat} {t u v : Tok} {Q : Flow → Shared → Prop} {E : Value → Shared → Prop} {m₀ : Str → Option Value} {news : List (Addr × Obj)} (J : Nat → (Str → Option Value) → List (Addr × Obj) → Prop)
    (hh : A.handled = none) (hx : env.kindOf xn = some .local) (hp : (env.scope.kind == .class || (env.scope.kind == .module && env.locals != env.globals)) = false)
    (hr : IsRange s.heap r 0 b 1 t u v) (hb : b = (n : Int)) (hn : n ≤ 1000)
    (F : Fr h₀ env.locals s.heap m₀) (N : News h₀ env.locals s.heap news) (hj : J 0 m₀ news)
    (turn : ∀ i m₁ news₁ h tk I oI t, i < n → J i m₁ news₁ → (∀ p ∈ news, @LT.lt Nat _ p.1 I) → (∀ p ∈ news₁, @Ne Nat p.1 I) → Fr h₀ env.locals h (fun y => if y = xn then some (.int (i : Nat) t) else m₁ y) → News h₀ env.locals h ((I, oI) :: news₁) →
      wpAny (model prog w) A (execs body env) (HStep h₀ env.locals s (J (i + 1)) I oI Q) E { s with heap := h, toks := tk })
    (done : ∀ m₁ news₁ h tk, J n m₁ news₁ → Fr h₀ env.locals h m₁ → News h₀ env.locals h news₁ → Q .next { s with heap := h, toks := tk })
    (hE : PassesOwn (model prog w) A env E) :
    wpAny (model prog w) A (pyIter (.ref r)) (fun it s₂ => codeAny (model prog w) A (.forLoop (.Name xn px) it body [] env) (fun r s' => match r with | .ok f => Q f s' | .error e => cameBackBy (model prog w) A env E e s') s₂) E s := by
  subst hb
  refine wpAny_pyIter_range hr (by exact range_small rfl hn) ?_
  have hlt : ∀ p ∈ news, @LT.lt Nat _ p.1 s.heap.objs.size := fun p hp => Heap.lt_size (N p hp).1
  refine for_oneG J (OneIter.range hh s.heap.objs.size n) (fun _ _ _ _ _ _ _ => trivial) (Nat.ne_of_lt F.ns.lt) (next_is_new F) (fun p hp => Nat.ne_of_lt (hlt p hp)) ?_ (F.push _) (fun p hp => ⟨Heap.get?_push_of_some _ (N p hp).1, (N p hp).2⟩) hj ?_ done hE
  · have e : Builtin.Range.rangeSize 0 (n : Int) 1 = ((n : Int) - ((0 : Nat) : Int)) := by
      rw [range_size (b := (n : Int)) (n := n) rfl, show ((0 : Nat) : Int) = 0 from rfl, Int.sub_zero]
    show IsRangeIter _ _ ((0 : Nat) : Int) ((n : Int) - ((0 : Nat) : Int)) 1
    rw [← e]
    exact Heap.get?_push_size _ rfl
  · rintro i v m₁ news₁ h tk oI hi ⟨t, rfl⟩ hJ hn₁ F₁ N₁
    exact wpAny_assign_Name (wpAny_storeName_local hx F₁.ns (fun h₂ hn₂ hs₂ => turn i m₁ news₁ h₂ _ _ oI t hi hJ hlt hn₁ (F₁.set hn₂ hs₂) (N₁.set hs₂)) hp)
end
end Mine
end
-- part WIter2
section
open PySem PySem.W PyProof.Rows PySem.Calls PySem.Spec
set_option maxRecDepth 100000
set_option maxHeartbeats 0
set_option linter.unusedVariables false
namespace Mine
section
variable {prog : Program} {w : World} {A : Around} {s : Shared} {env : Env} {h₀ : Heap}
theorem OneIter.list {tgt : Expr} (hh : A.handled = none) (I l : Addr) (vs : List Value) :
    OneIter prog w A tgt I vs.length (fun i v => vs[i]? = some v) (fun i h => h.IsListIter I l i) (fun h => h.IsList l vs.toArray) where
  obj := fun _ _ st => let ⟨o, ho, _⟩ := st; ⟨o, ho⟩
  frame := fun _ _ _ st k => let ⟨o, ho, r⟩ := st; ⟨o, k o ho, r⟩
  item := fun i s Q E hi st fx hQ =>
    wpAny_pyNext_list_item (x := vs[i]) st fx (by simp [hi]) fun h' hit' hs' => hQ vs[i] h' s.toks (by simp [hi]) hit' fun b o hb e => (hs'.2 b hb).trans e
  done := fun s Q E st fx hQ => wpAny_pyNext_list_end hh st fx (by simp) fun h' he' => hQ h' s.toks fun b o hb e => he' b o hb e
  go := fun i v s Q E st hQ => go_li st hQ tgt v
theorem for_listH {tgt : Expr} {body : List Stmt} {l : Addr} {vs : List Value} {Q : Flow → Shared → Prop} {E : Value → Shared → Prop} {m₀ : Str → Option Value} {news : List (Addr × Obj)} (J : Nat → (Str → Option Value) → List (Addr × Obj) → Prop)
    (hh : A.handled = none) (hl : ∀ i m₁ news₁ h, J i m₁ news₁ → Fr h₀ env.locals h m₁ → News h₀ env.locals h news₁ → h.IsList l vs.toArray)
    (F : Fr h₀ env.locals s.heap m₀) (N : News h₀ env.locals s.heap news) (hj : J 0 m₀ news)
    (turn : ∀ i v m₁ news₁ h tk I oI, vs[i]? = some v → J i m₁ news₁ → (∀ p ∈ news, @LT.lt Nat _ p.1 I) → (∀ p ∈ news₁, @Ne Nat p.1 I) → Fr h₀ env.locals h m₁ → News h₀ env.locals h ((I, oI) :: news₁) →
      wpAny (model prog w) A (assign tgt env v) (fun _ s₂ => wpAny (model prog w) A (execs body env) (HStep h₀ env.locals s (J (i + 1)) I oI Q) E s₂) E { s with heap := h, toks := tk })
    (done : ∀ m₁ news₁ h tk, J vs.length m₁ news₁ → Fr h₀ env.locals h m₁ → News h₀ env.locals h news₁ → Q .next { s with heap := h, toks := tk })
    (hE : PassesOwn (model prog w) A env E) :
    wpAny (model prog w) A (pyIter (.ref l)) (fun it s₂ => codeAny (model prog w) A (.forLoop tgt it body [] env) (fun r s' => match r with | .ok f => Q f s' | .error e => cameBackBy (model prog w) A env E e s') s₂) E s := by
  refine wpAny_pyIter_list (hl _ _ _ _ hj F N) ?_
  have hlt : ∀ p ∈ news, @LT.lt Nat _ p.1 s.heap.objs.size := fun p hp => Heap.lt_size (N p hp).1
  exact for_oneG J (OneIter.list hh s.heap.objs.size l vs) hl (Nat.ne_of_lt F.ns.lt) (next_is_new F) (fun p hp => Nat.ne_of_lt (hlt p hp)) ⟨_, Heap.get?_push_size _ rfl, rfl, rfl⟩ (F.push _) (fun p hp => ⟨Heap.get?_push_of_some _ (N p hp).1, (N p hp).2⟩) hj
    (fun i v m₁ news₁ h tk oI _ hv hJ hn₁ F₁ N₁ => turn i v m₁ news₁ h tk _ oI hv hJ hlt hn₁ F₁ N₁) done hE
theorem OneIter.dictKeys {K : Type} [DecidableEq K] {knd : PySem.KeyKind prog w K} {xn : Str} {px : Pos} (hh : A.handled = none) (I d : Addr) (kvs : List (K × Value)) (ep : Nat) :
    OneIter prog w A (.Name xn px) I kvs.length (fun i v => ∃ k x, kvs[i]? = some (k, x) ∧ knd.is k v = true) (fun i h => h.IsKeyIter I d i kvs.length ep) (fun h => h.DictAt knd d kvs ep) where
  obj := fun _ _ st => let ⟨o, ho, _⟩ := st; ⟨o, ho⟩
  frame := fun _ _ _ st k => let ⟨o, ho, r⟩ := st; ⟨o, k o ho, r⟩
  item := fun i s Q E hi st fx hQ => by
    obtain ⟨⟨k, x⟩, hx⟩ : ∃ p, kvs[i]? = some p := ⟨kvs[i], by simp [hi]⟩
    exact wpAny_pyNext_dict_item st fx hx fun key h' hkey hit' hs' => hQ key h' s.toks ⟨k, x, hx, hkey⟩ hit' fun b o hb e => (hs'.2 b hb).trans e
  done := fun s Q E st fx hQ => wpAny_pyNext_dict_end hh st fx (by simp) fun h' he' => hQ h' s.toks fun b o hb e => he' b o hb e
  go := fun _ _ _ _ _ _ hQ => wpAny_pure hQ
theorem for_dictG {K : Type} [DecidableEq K] {knd : PySem.KeyKind prog w K} {xn : Str} {px : Pos} {body : List Stmt} {d : Addr} {o : Obj} {kvs : List (K × Value)} {Q : Flow → Shared → Prop} {E : Value → Shared → Prop} {m₀ : Str → Option Value} {news : List (Addr × Obj)} (J : Nat → (Str → Option Value) → List (Addr × Obj) → Prop)
    (hh : A.handled = none) (hds : (d == sysModules) = false) (hd : o.IsDictOf knd kvs) (hin : ∀ i m₁ news₁, J i m₁ news₁ → (d, o) ∈ news₁)
    (F : Fr h₀ env.locals s.heap m₀) (N : News h₀ env.locals s.heap news) (hj : J 0 m₀ news)
    (turn : ∀ i k x v m₁ news₁ h tk I oI, kvs[i]? = some (k, x) → knd.is k v = true → J i m₁ news₁ → (∀ p ∈ news, @LT.lt Nat _ p.1 I) → (∀ p ∈ news₁, @Ne Nat p.1 I) → Fr h₀ env.locals h m₁ → News h₀ env.locals h ((I, oI) :: news₁) →
      wpAny (model prog w) A (assign (.Name xn px) env v) (fun _ s₂ => wpAny (model prog w) A (execs body env) (HStep h₀ env.locals s (J (i + 1)) I oI Q) E s₂) E { s with heap := h, toks := tk })
    (done : ∀ m₁ news₁ h tk, J kvs.length m₁ news₁ → Fr h₀ env.locals h m₁ → News h₀ env.locals h news₁ → Q .next { s with heap := h, toks := tk })
    (hE : PassesOwn (model prog w) A env E) :
    wpAny (model prog w) A (pyIter (.ref d)) (fun it s₂ => codeAny (model prog w) A (.forLoop (.Name xn px) it body [] env) (fun r s' => match r with | .ok f => Q f s' | .error e => cameBackBy (model prog w) A env E e s') s₂) E s := by
  obtain ⟨es, ep, hd'⟩ := hd
  have at_ : ∀ h : Heap, h.get? d = some o → h.DictAt knd d kvs ep := fun h e => ⟨o, es, e, hd'⟩
  refine wpAny_pyIter_dict hds (at_ _ (N _ (hin _ _ _ hj)).1) ?_
  have hlt : ∀ p ∈ news, @LT.lt Nat _ p.1 s.heap.objs.size := fun p hp => Heap.lt_size (N p hp).1
  exact for_oneG J (OneIter.dictKeys (knd := knd) hh s.heap.objs.size d kvs ep) (fun i m₁ news₁ h hJ _ N₁ => at_ _ (N₁ _ (hin _ _ _ hJ)).1) (Nat.ne_of_lt F.ns.lt) (next_is_new F) (fun p hp => Nat.ne_of_lt (hlt p hp)) ⟨_, Heap.get?_push_size _ rfl, rfl, rfl⟩ (F.push _) (fun p hp => ⟨Heap.get?_push_of_some _ (N p hp).1, (N p hp).2⟩) hj
    (fun i v m₁ news₁ h tk oI _ ⟨k, x, hx, hk⟩ hJ hn₁ F₁ N₁ => turn i k x v m₁ news₁ h tk _ oI hx hk hJ hlt hn₁ F₁ N₁) done hE
theorem for_rangeZ {xn : Str} {px : Pos} {body : List Stmt} {r : Addr} {b : Int} {n : Nat} {t u v : Tok} {Q : Flow → Shared → Prop} {E : Value → Shared → Prop} {m₀ : Str → Option Value} {news : List (Addr × Obj)} (J : Nat → (Str → Option Value) → List (Addr × Obj) → Prop)
    (hh : A.handled = none) (hx : env.kindOf xn = some .local) (hp : (env.scope.kind == .class || (env.scope.kind == .module && env.locals != env.globals)) = false)
    (hr : IsRange s.heap r 0 b 1 t u v) (hsm : Builtin.Range.small 0 b 1 = true) (hsz : Builtin.Range.rangeSize 0 b 1 = (n : Int))
    (F : Fr h₀ env.locals s.heap m₀) (N : News h₀ env.locals s.heap news) (hj : J 0 m₀ news)
    (turn : ∀ i m₁ news₁ h tk I oI t, i < n → J i m₁ news₁ → (∀ p ∈ news, @LT.lt Nat _ p.1 I) → (∀ p ∈ news₁, @Ne Nat p.1 I) → Fr h₀ env.locals h (fun y => if y = xn then some (.int (i : Nat) t) else m₁ y) → News h₀ env.locals h ((I, oI) :: news₁) →
      wpAny (model prog w) A (execs body env) (HStep h₀ env.locals s (J (i + 1)) I oI Q) E { s with heap := h, toks := tk })
    (done : ∀ m₁ news₁ h tk, J n m₁ news₁ → Fr h₀ env.locals h m₁ → News h₀ env.locals h news₁ → Q .next { s with heap := h, toks := tk })
    (hE : PassesOwn (model prog w) A env E) :
    wpAny (model prog w) A (pyIter (.ref r)) (fun it s₂ => codeAny (model prog w) A (.forLoop (.Name xn px) it body [] env) (fun r s' => match r with | .ok f => Q f s' | .error e => cameBackBy (model prog w) A env E e s') s₂) E s := by
  refine wpAny_pyIter_range hr hsm ?_
  have hlt : ∀ p ∈ news, @LT.lt Nat _ p.1 s.heap.objs.size := fun p hp => Heap.lt_size (N p hp).1
  refine for_oneG J (OneIter.range hh s.heap.objs.size n) (fun _ _ _ _ _ _ _ => trivial) (Nat.ne_of_lt F.ns.lt) (next_is_new F) (fun p hp => Nat.ne_of_lt (hlt p hp)) ?_ (F.push _) (fun p hp => ⟨Heap.get?_push_of_some _ (N p hp).1, (N p hp).2⟩) hj ?_ done hE
  · have e : Builtin.Range.rangeSize 0 b 1 = ((n : Int) - ((0 : Nat) : Int)) := by
      rw [hsz, show ((0 : Nat) : Int) = 0 from rfl, Int.sub_zero]
    show IsRangeIter _ _ ((0 : Nat) : Int) ((n : Int) - ((0 : Nat) : Int)) 1
    rw [← e]
    exact Heap.get?_push_size _ rfl
  · rintro i v m₁ news₁ h tk oI hi ⟨t, rfl⟩ hJ hn₁ F₁ N₁
    exact wpAny_assign_Name (wpAny_storeName_local hx F₁.ns (fun h₂ hn₂ hs₂ => turn i m₁ news₁ h₂ _ _ oI t hi hJ hlt hn₁ (F₁.set hn₂ hs₂) (N₁.set hs₂)) hp)
end
end Mine
end
-- part QFacts
section
open PySem PySem.W PyProof.Rows PySem.Calls PySem.Spec
set_option maxRecDepth 100000
set_option maxHeartbeats 0
set_option linter.unusedVariables false
namespace Mine
theorem slot_re_sub : Slot "re.Pattern" "sub" "re.Pattern.sub" :=
  .of (owner := "re.Pattern") (n := "sub") (by rw [typeLookup_type, builtinLookup_eq_fast]; kernel_rfl) (by decide +kernel) (by decide +kernel) (by decide +kernel)
    (by first | exact .inl (by decide +kernel) | exact .inr (by decide +kernel)) (by rw [isSubtype_type]; kernel_rfl)
theorem type_re_sub : typeOf (.builtin "re.Pattern.sub") = pure (.type "method_descriptor") := by show builtinType _ = _; rw [builtinType_eq_fast]; kernel_rfl
theorem entry_re_sub : entryFor table "re.Pattern.sub" = some Builtin.«re.Pattern.sub» := entryFor_of_tree (by kernel_rfl)
theorem entry_re_loop : entryFor table "re.Pattern.sub.loop" = some Builtin.«re.Pattern.sub.loop» := entryFor_of_tree (by kernel_rfl)
theorem plain_re_loop : plainId "re.Pattern.sub.loop" = true := by decide +kernel
theorem args_re_sub (a b c : Value) : argsOk "re.Pattern.sub" ⟨[a, b, c], []⟩ := by
  unfold argsOk; kernel_rfl
end Mine
end
-- part MSre
section
open PySem PySem.Sre
set_option maxRecDepth 100000
set_option maxHeartbeats 0
set_option linter.unusedVariables false
namespace Mine
theorem runFor_done : ∀ (b : Nat) {m : M}, m.outcome.isSome = true → m.runFor b = m
  | 0, _, _ => rfl
  | b + 1, m, h => by unfold M.runFor; rw [if_pos h]
theorem runFor_add : ∀ (a b : Nat) (m : M), m.runFor (a + b) = (m.runFor a).runFor b
  | 0, b, m => by rw [Nat.zero_add]; rfl
  | a + 1, b, m => by
    rw [show a + 1 + b = (a + b) + 1 by omega]
    show (if m.outcome.isSome then m else M.runFor (a + b) m.step) = M.runFor b (if m.outcome.isSome then m else M.runFor a m.step)
    by_cases h : m.outcome.isSome = true
    · rw [if_pos h, if_pos h, runFor_done b h]
    · rw [if_neg h, if_neg h, runFor_add a b]
noncomputable def Reach (k : Nat) (m m' : M) : Prop := ∃ j, j ≤ k ∧ m.runFor j = m'
theorem Reach.refl {k : Nat} (m : M) : Reach k m m := ⟨0, Nat.zero_le _, rfl⟩
theorem Reach.trans {a b c : Nat} {m m' m'' : M} (h : Reach a m m') (k : Reach b m' m'') (hc : a + b ≤ c) : Reach c m m'' := by
  obtain ⟨i, hi, e⟩ := h
  obtain ⟨j, hj, f⟩ := k
  exact ⟨i + j, by omega, by rw [runFor_add, e, f]⟩
theorem Reach.step {a c : Nat} {m m' m'' : M} (h : m.outcome = none) (e : m.step = m') (k : Reach a m' m'') (hc : a + 1 ≤ c) : Reach c m m'' := by
  refine Reach.trans (a := 1) ⟨1, Nat.le_refl _, ?_⟩ k (by omega)
  show (if m.outcome.isSome then m else M.runFor 0 m.step) = m'
  rw [h, if_neg (by decide)]
  exact e
noncomputable def findFrom (p : Nat → Bool) : (fuel s : Nat) → Option Nat
  | 0, _ => none
  | f + 1, s => if p s then some s else findFrom p f (s + 1)
noncomputable def code1 : Array Nat := #[14, 4, 0, 1, 1, 6, 1, 16, 46, 1]
noncomputable def code2 : Array Nat := #[14, 9, 4, 1, 2, 16, 10, 16, 13, 0, 7, 7, 16, 13, 16, 10, 15, 18, 5, 16, 10, 15, 13, 11, 16, 13, 5, 5, 0, 16, 10, 1, 15, 2, 0, 1]
section
variable (c t : Array Nat) (n : Nat)
noncomputable def SS (st pc pos hd : Nat) (om : Bool) (fr : List Sre.Frame) (w : Nat) (ans : Option Bool) (sn : Seen) : M :=
  { code := c, text := t, lim := n, start := st, lastStart := n, pc := pc, pos := pos, handed := hd, outermost := om, marks := #[], frames := fr, weight := w, answer := ans, seen := sn }
noncomputable def FS (pc s : Nat) (om : Bool) : Sre.Frame := { wait := .nextStart, pc := pc, pos := s, outermost := om }
end
variable {t : Array Nat} {n : Nat}
noncomputable def p1 (t : Array Nat) (i : Nat) : Bool := (i == 0 || t.getD (i - 1) 0 == 10) && t.getD i 0 == 46
theorem s1_at (s : Nat) (om : Bool) (sn : Seen) : (SS code1 t n s 5 s s om [FS 5 s om] 1 none sn).step =
    if (s == 0 || t.getD (s - 1) 0 == 10) = true then SS code1 t n s 7 s s om [FS 5 s om] 1 none ((sn.add 6).add (43 + 1)) else SS code1 t n s 5 s s om [FS 5 s om] 1 (some false) ((sn.add 6).add (43 + 1)) := rfl
theorem s1_lit_end (s : Nat) (om : Bool) (sn : Seen) (h : n ≤ s) : (SS code1 t n s 7 s s om [FS 5 s om] 1 none sn).step = SS code1 t n s 7 s s om [FS 5 s om] 1 (some false) (sn.add 16) := by
  show (if s ≥ n then _ else _) = _
  rw [if_pos h]
  rfl
theorem s1_lit (s : Nat) (om : Bool) (sn : Seen) (h : s < n) : (SS code1 t n s 7 s s om [FS 5 s om] 1 none sn).step =
    if (t.getD s 0 == 46) = true then SS code1 t n s 9 (s + 1) s om [FS 5 s om] 1 none (sn.add 16) else SS code1 t n s 7 s s om [FS 5 s om] 1 (some false) (sn.add 16) := by
  show (if s ≥ n then _ else _) = _
  rw [if_neg (by omega)]
  show (match (Except.ok (t.getD s 0 == 46, sn.add 16) : Except String (Bool × Seen)) with | .error _ => _ | .ok (false, _) => _ | .ok (true, _) => _) = _
  cases (t.getD s 0 == 46) <;> rfl
theorem s1_ok (s : Nat) (om : Bool) (sn : Seen) : (SS code1 t n s 9 (s + 1) s om [FS 5 s om] 1 none sn).step = SS code1 t n s 9 (s + 1) (s + 1) om [FS 5 s om] 1 (some true) (sn.add 1) := by cases om <;> rfl
theorem s1_yes (s pc pos hd : Nat) (om : Bool) (sn : Seen) : (SS code1 t n s pc pos hd om [FS 5 s om] 1 (some true) sn).step = SS code1 t n s 5 s hd om [] 0 (some true) sn := rfl
theorem s1_no (s pc pos hd : Nat) (om : Bool) (sn : Seen) : (SS code1 t n s pc pos hd om [FS 5 s om] 1 (some false) sn).step =
    if s < n then SS code1 t n (s + 1) 5 (s + 1) (s + 1) false [FS 5 (s + 1) false] 1 none sn else SS code1 t n s 5 s hd om [] 0 (some false) sn := rfl
theorem ss_end (c : Array Nat) (s pc pos hd : Nat) (om b : Bool) (w : Nat) (sn : Seen) : (SS c t n s pc pos hd om [] w (some b) sn).step = { SS c t n s pc pos hd om [] w (some b) sn with outcome := some (if b then .matched else .failed) } := rfl
noncomputable def Found (e : Nat → Nat) (r : Option Nat) (m : M) : Prop := match r with
  | some i => m.outcome = some .matched ∧ m.start = i ∧ m.handed = e i
  | none => m.outcome = some .failed
theorem found_end {e : Nat → Nat} {c : Array Nat} {s pc pos : Nat} {om : Bool} {w k : Nat} {sn : Seen} (hk : 1 ≤ k) : ∃ m, Reach k (SS c t n s pc pos (e s) om [] w (some true) sn) m ∧ Found e (some s) m :=
  ⟨_, Reach.step (a := 0) rfl (ss_end ..) (Reach.refl _) hk, rfl, rfl, rfl⟩
theorem lost_end {e : Nat → Nat} {c : Array Nat} {s pc pos hd : Nat} {om : Bool} {w k : Nat} {sn : Seen} (hk : 1 ≤ k) : ∃ m, Reach k (SS c t n s pc pos hd om [] w (some false) sn) m ∧ Found e none m :=
  ⟨_, Reach.step (a := 0) rfl (ss_end ..) (Reach.refl _) hk, rfl⟩
theorem Reach.stepE {a c : Nat} {m m' : M} {P : M → Prop} (h : m.outcome = none) (e : m.step = m') (k : ∃ m'', Reach a m' m'' ∧ P m'') (hc : a + 1 ≤ c) : ∃ m'', Reach c m m'' ∧ P m'' :=
  let ⟨x, r, p⟩ := k; ⟨x, Reach.step h e r hc, p⟩
theorem search1 : ∀ (f s : Nat) (om : Bool) (sn : Seen), n = s + f → ∃ m, Reach (5 * (f + 1) + 5) (SS code1 t n s 5 s s om [FS 5 s om] 1 none sn) m ∧ Found (· + 1) (findFrom (p1 t) f s) m
  | 0, s, om, sn, hn => by
    by_cases h1 : (s == 0 || t.getD (s - 1) 0 == 10) = true
    · refine Reach.stepE (a := 6) rfl (by rw [s1_at, if_pos h1]) ?_ (by omega)
      refine Reach.stepE (a := 5) rfl (s1_lit_end _ _ _ (by omega)) ?_ (by omega)
      refine Reach.stepE (a := 4) rfl (by rw [s1_no, if_neg (by omega)]) ?_ (by omega)
      exact lost_end (by omega)
    · refine Reach.stepE (a := 6) rfl (by rw [s1_at, if_neg h1]) ?_ (by omega)
      refine Reach.stepE (a := 4) rfl (by rw [s1_no, if_neg (by omega)]) ?_ (by omega)
      exact lost_end (by omega)
  | f + 1, s, om, sn, hn => by
    have go : ∀ pc pos hd sn, p1 t s = false → ∃ m, Reach (5 * (f + 1) + 5 + 1) (SS code1 t n s pc pos hd om [FS 5 s om] 1 (some false) sn) m ∧ Found (· + 1) (findFrom (p1 t) (f + 1) s) m := fun pc pos hd sn hp => by
      refine Reach.stepE rfl (by rw [s1_no, if_pos (by omega)]) ?_ (Nat.le_refl _)
      unfold findFrom
      rw [hp, if_neg (by decide)]
      exact search1 f (s + 1) false sn (by omega)
    by_cases h1 : (s == 0 || t.getD (s - 1) 0 == 10) = true
    · refine Reach.stepE (a := 5 * (f + 1) + 5 + 4) rfl (by rw [s1_at, if_pos h1]) ?_ (by omega)
      by_cases h2 : (t.getD s 0 == 46) = true
      · have hp : p1 t s = true := by unfold p1; rw [h1, h2]; rfl
        refine Reach.stepE (a := 5 * (f + 1) + 5 + 3) rfl (by rw [s1_lit _ _ _ (by omega), if_pos h2]) ?_ (by omega)
        refine Reach.stepE (a := 5 * (f + 1) + 5 + 2) rfl (s1_ok ..) ?_ (by omega)
        refine Reach.stepE (a := 5 * (f + 1) + 5 + 1) rfl (s1_yes ..) ?_ (by omega)
        unfold findFrom
        rw [hp, if_pos rfl]
        exact found_end (e := (· + 1)) (by omega)
      · have hp : p1 t s = false := by unfold p1; rw [Bool.not_eq_true] at h2; rw [h2, Bool.and_false]
        refine Reach.stepE (a := 5 * (f + 1) + 5 + 1) rfl (by rw [s1_lit _ _ _ (by omega), if_neg h2]) ?_ (by omega)
        exact go _ _ _ _ hp
    · have hp : p1 t s = false := by unfold p1; rw [Bool.not_eq_true] at h1; rw [h1, Bool.false_and]
      refine Reach.stepE (a := 5 * (f + 1) + 5 + 1) rfl (by rw [s1_at, if_neg h1]) ?_ (by omega)
      exact go _ _ _ _ hp
theorem forSearch1 (pos : Nat) (h : pos < n) : forSearch code1 t 0 pos n false = SS code1 t n pos 5 pos pos true [FS 5 pos true] 1 none (({} : Seen).add 14) := by
  unfold forSearch
  have hc : (decide (pos > n) || decide (n - pos < 1)) = false := by simp; omega
  show (if (decide (pos > n) || decide (n - pos < 1)) = true then _ else _) = _
  rw [hc]
  rfl
theorem search_end {c : Array Nat} {e : Nat → Nat} (pos : Nat) (h : n ≤ pos) (hc : 1 ≤ (header c).1) : ∃ m, Reach 1 (forSearch c t 0 pos n false) m ∧ Found e none m := by
  unfold forSearch
  have h2 : (decide (pos > n) || decide (n - pos < (header c).1)) = true := by simp; omega
  dsimp only
  rw [if_pos h2]
  exact ⟨_, Reach.step (a := 0) rfl rfl (Reach.refl _) (Nat.le_refl _), rfl⟩
theorem found1 (pos : Nat) (h : pos ≤ n) : ∃ m, Reach (5 * (n - pos + 1) + 5) (forSearch code1 t 0 pos n false) m ∧ Found (· + 1) (findFrom (p1 t) (n - pos) pos) m := by
  by_cases h1 : pos < n
  · rw [forSearch1 _ h1]
    exact search1 _ _ _ _ (by omega)
  · rw [show n - pos = 0 by omega]
    obtain ⟨m, r, f⟩ := search_end (n := n) (c := code1) (e := (· + 1)) (t := t) pos (by omega) (by decide)
    exact ⟨m, r.trans (Reach.refl _) (c := 10) (b := 0) (by omega), f⟩
end Mine
end
-- part MSre2
section
open PySem PySem.Sre
set_option maxRecDepth 100000
set_option maxHeartbeats 0
set_option linter.unusedVariables false
namespace Mine
noncomputable def p2 (t : Array Nat) (i : Nat) : Bool := t.getD i 0 == 10 || t.getD i 0 == 13
noncomputable def e2 (t : Array Nat) (n s : Nat) : Nat := if t.getD s 0 = 13 ∧ s + 1 < n ∧ t.getD (s + 1) 0 = 10 then s + 2 else s + 1
theorem inSet2 (c : Nat) (sn : Seen) : ∃ sn', inSet code2 c code2.size 5 true sn = .ok (c == 10 || c == 13, sn') := by
  have e : inSet code2 c code2.size 5 true sn = if (c == 10) = true then .ok (true, sn.add 16) else if (c == 13) = true then .ok (true, (sn.add 16).add 16) else .ok (false, ((sn.add 16).add 16).add 0) := rfl
  rw [e]
  cases h1 : (c == 10) <;> cases h2 : (c == 13) <;> exact ⟨_, rfl⟩
variable {t : Array Nat} {n : Nat}
theorem admitted2 (m : M) (hc : m.code = code2) (ht : m.text = t) (hn : m.lim = n) : ∀ (f s : Nat) (sn : Seen) (fuel : Nat), n = s + f → f + 1 ≤ fuel → ∃ sn', M.admitted m fuel s sn = .ok (findFrom (p2 t) f s, sn')
  | f, s, sn, 0, _, hf => absurd hf (by omega)
  | 0, s, sn, fuel + 1, h, _ => by
    refine ⟨sn, ?_⟩
    unfold M.admitted
    rw [hn, if_pos (by omega)]
    rfl
  | f + 1, s, sn, fuel + 1, h, hf => by
    unfold M.admitted
    rw [hn, if_neg (by omega), hc, ht]
    obtain ⟨sn', e⟩ := inSet2 (t.getD s 0) sn
    rw [e]
    unfold findFrom
    by_cases hp : p2 t s = true
    · rw [if_pos hp]
      unfold p2 at hp
      rw [hp]
      exact ⟨sn', rfl⟩
    · rw [if_neg hp]
      rw [Bool.not_eq_true] at hp
      unfold p2 at hp
      rw [hp]
      exact admitted2 m hc ht hn f (s + 1) sn' fuel (by omega) (by omega)
section
variable (pc s : Nat) (om : Bool)
noncomputable def FB : Sre.Frame := { wait := .nextBranch, pc := pc, pos := s, outermost := om }
noncomputable def FL : Sre.Frame := { wait := .lookNot, pc := pc, pos := s, outermost := om }
end
variable {s pos hd : Nat} {om : Bool} {sn : Seen} {fr : List Sre.Frame} {w : Nat}
theorem b1 : (SS code2 t n s 10 s hd om [FS 10 s om] 1 none sn).step = SS code2 t n s 12 s s om [FB 11 s om, FS 10 s om] 2 none (sn.add 7) := rfl
theorem lit {pc x : Nat} (h16 : code2.getD pc 0 = 16) (hx : code2.getD (pc + 1) 0 = x) (hpc : pc < code2.size) : (SS code2 t n s pc pos hd om fr w none sn).step =
    if n ≤ pos then SS code2 t n s pc pos hd om fr w (some false) (sn.add 16) else if t.getD pos 0 = x then SS code2 t n s (pc + 2) (pos + 1) hd om fr w none (sn.add 16) else SS code2 t n s pc pos hd om fr w (some false) (sn.add 16) := by
  have e0 : (SS code2 t n s pc pos hd om fr w none sn).word 0 = 16 := h16
  have e1 : accepts code2 pc (t.getD pos 0) (sn.add 16) = .ok (t.getD pos 0 == x, sn.add 16) := by
    unfold accepts
    rw [h16, hx]
    rfl
  have e2 : itemWidth code2 pc = 2 := by
    unfold itemWidth
    rw [h16]
    rfl
  have es : (SS code2 t n s pc pos hd om fr w none sn).step = (SS code2 t n s pc pos hd om fr w none sn).exec := by
    show (if pc < code2.size then _ else _) = _
    rw [if_pos hpc]
  rw [es]
  unfold M.exec
  rw [e0]
  show (if pos ≥ n then _ else match accepts code2 pc (t.getD pos 0) (sn.add 16) with | .error _ => _ | .ok (false, _) => _ | .ok (true, _) => _) = _
  rw [e1]
  by_cases hp : n ≤ pos
  · rw [if_pos hp, if_pos hp]; rfl
  · rw [if_neg hp, if_neg hp]
    by_cases hq : t.getD pos 0 = x
    · rw [if_pos hq, show (t.getD pos 0 == x) = true by simpa using hq]
      show SS code2 t n s (pc + itemWidth code2 pc) (pos + 1) hd om fr w none (sn.add 16) = _
      rw [e2]
    · rw [if_neg hq, show (t.getD pos 0 == x) = false by simpa using hq]
      rfl
theorem b2no {pc} : (SS code2 t n s pc pos hd om [FB 11 s om, FS 10 s om] 2 (some false) sn).step = SS code2 t n s 19 s s om [FB 18 s om, FS 10 s om] 2 none sn := rfl
theorem b3no {pc} : (SS code2 t n s pc pos hd om [FB 18 s om, FS 10 s om] 2 (some false) sn).step = SS code2 t n s 24 s s om [FB 23 s om, FS 10 s om] 2 none sn := rfl
theorem j1 : (SS code2 t n s 16 pos hd om fr w none sn).step = SS code2 t n s 35 pos hd om fr w none (sn.add 15) := rfl
theorem j2 : (SS code2 t n s 21 pos hd om fr w none sn).step = SS code2 t n s 35 pos hd om fr w none (sn.add 15) := rfl
theorem j3 : (SS code2 t n s 32 pos hd om fr w none sn).step = SS code2 t n s 35 pos hd om fr w none (sn.add 15) := rfl
theorem a1 : (SS code2 t n s 26 pos hd om [FB 23 s om, FS 10 s om] 2 none sn).step = SS code2 t n s 29 pos pos false [FL 26 pos om, FB 23 s om, FS 10 s om] 3 none (sn.add 5) := rfl
theorem a3 {pc} {om'} : (SS code2 t n s pc pos hd om' [FL 26 pos om, FB 23 s om, FS 10 s om] 3 (some false) sn).step = SS code2 t n s 32 pos hd om [FB 23 s om, FS 10 s om] 2 none sn := rfl
theorem ok35 : (SS code2 t n s 35 pos hd om fr w none sn).step = SS code2 t n s 35 pos pos om fr w (some true) (sn.add 1) := by cases om <;> rfl
theorem y1 {pc pb} : (SS code2 t n s pc pos hd om [FB pb s om, FS 10 s om] 2 (some true) sn).step = SS code2 t n s pb s hd om [FS 10 s om] 1 (some true) sn := rfl
theorem y2 {pc} : (SS code2 t n s pc pos hd om [FS 10 s om] 1 (some true) sn).step = SS code2 t n s 10 s hd om [] 0 (some true) sn := rfl
theorem end35 {pb : Nat} : ∃ m, Reach 4 (SS code2 t n s 35 pos hd om [FB pb s om, FS 10 s om] 2 none sn) m ∧ Found (fun _ => pos) (some s) m := by
  refine Reach.stepE (a := 3) rfl ok35 ?_ (by omega)
  refine Reach.stepE (a := 2) rfl y1 ?_ (by omega)
  refine Reach.stepE (a := 1) rfl y2 ?_ (by omega)
  exact found_end (e := fun _ => pos) (by omega)
theorem Found.congr {e e' : Nat → Nat} {i : Nat} {m : M} (h : Found e (some i) m) (k : e i = e' i) : Found e' (some i) m := ⟨h.1, h.2.1, k ▸ h.2.2⟩
theorem search2 (hs : s < n) (hp : p2 t s = true) : ∃ m, Reach 20 (SS code2 t n s 10 s s om [FS 10 s om] 1 none sn) m ∧ Found (e2 t n) (some s) m := by
  have fin : ∀ {pos hd sn pb}, pos = e2 t n s → ∃ m, Reach 4 (SS code2 t n s 35 pos hd om [FB pb s om, FS 10 s om] 2 none sn) m ∧ Found (e2 t n) (some s) m := fun h => by
    obtain ⟨m, r, f⟩ := end35
    exact ⟨m, r, Found.congr f h⟩
  refine Reach.stepE (a := 19) rfl b1 ?_ (by omega)
  have third : ∀ sn, t.getD s 0 = 13 → ¬ (s + 1 < n ∧ t.getD (s + 1) 0 = 10) → ∃ m, Reach 14 (SS code2 t n s 19 s s om [FB 18 s om, FS 10 s om] 2 none sn) m ∧ Found (e2 t n) (some s) m := fun sn h13 hno => by
    refine Reach.stepE (a := 13) rfl (lit (x := 10) rfl rfl (by decide)) ?_ (by omega)
    rw [if_neg (by omega), if_neg (by omega)]
    refine Reach.stepE (a := 12) rfl b3no ?_ (by omega)
    refine Reach.stepE (a := 11) rfl (lit (x := 13) rfl rfl (by decide)) ?_ (by omega)
    rw [if_neg (by omega), if_pos h13]
    refine Reach.stepE (a := 10) rfl a1 ?_ (by omega)
    have e : s + 1 = e2 t n s := by
      unfold e2
      rw [if_neg fun q => hno q.2]
    refine Reach.stepE (a := 9) rfl (lit (x := 10) rfl rfl (by decide)) ?_ (by omega)
    have fin' : ∀ {pc sn}, ∃ m, Reach 9 (SS code2 t n s pc (s + 1) (s + 1) false [FL 26 (s + 1) om, FB 23 s om, FS 10 s om] 3 (some false) sn) m ∧ Found (e2 t n) (some s) m := by
      intro pc sn
      refine Reach.stepE (a := 8) rfl a3 ?_ (by omega)
      refine Reach.stepE (a := 4) rfl j3 ?_ (by omega)
      exact fin e
    by_cases hq : n ≤ s + 1
    · rw [if_pos hq]; exact fin'
    · rw [if_neg hq, if_neg fun q => hno ⟨by omega, q⟩]; exact fin'
  refine Reach.stepE (a := 18) rfl (lit (x := 13) rfl rfl (by decide)) ?_ (by omega)
  rw [if_neg (by omega)]
  by_cases h13 : t.getD s 0 = 13
  · rw [if_pos h13]
    refine Reach.stepE (a := 17) rfl (lit (x := 10) rfl rfl (by decide)) ?_ (by omega)
    by_cases hq : n ≤ s + 1
    · rw [if_pos hq]
      refine Reach.stepE (a := 14) rfl b2no ?_ (by omega)
      exact third _ h13 (by omega)
    · rw [if_neg hq]
      by_cases h10 : t.getD (s + 1) 0 = 10
      · rw [if_pos h10]
        refine Reach.stepE (a := 4) rfl j1 ?_ (by omega)
        exact fin (by unfold e2; rw [if_pos ⟨h13, by omega, h10⟩])
      · rw [if_neg h10]
        refine Reach.stepE (a := 14) rfl b2no ?_ (by omega)
        exact third _ h13 (by omega)
  · rw [if_neg h13]
    have h10 : t.getD s 0 = 10 := by
      unfold p2 at hp
      simp only [Bool.or_eq_true, beq_iff_eq] at hp
      omega
    refine Reach.stepE (a := 16) rfl b2no ?_ (by omega)
    refine Reach.stepE (a := 15) rfl (lit (x := 10) rfl rfl (by decide)) ?_ (by omega)
    rw [if_neg (by omega), if_pos h10]
    refine Reach.stepE (a := 4) rfl j2 ?_ (by omega)
    exact fin (by unfold e2; rw [if_neg (by omega)])
theorem findFrom_lt {p : Nat → Bool} : ∀ {f s i : Nat}, findFrom p f s = some i → s ≤ i ∧ i < s + f ∧ p i = true
  | 0, _, _, h => by cases h
  | f + 1, s, i, h => by
    unfold findFrom at h
    split at h
    · cases h; exact ⟨Nat.le_refl _, by omega, by assumption⟩
    · obtain ⟨a, b, c⟩ := findFrom_lt h
      exact ⟨by omega, by omega, c⟩
theorem found2 (pos : Nat) (h : pos ≤ n) : ∃ m, Reach 21 (forSearch code2 t 0 pos n false) m ∧ Found (e2 t n) (findFrom (p2 t) (n - pos) pos) m := by
  by_cases h1 : pos < n
  · have hc : (decide (pos > n) || decide (n - pos < 1)) = false := by simp; omega
    have e : forSearch code2 t 0 pos n false = M.attemptFrom { SS code2 t n pos 10 pos pos true [] 0 none (({} : Seen).add 14) with } pos true := by
      unfold forSearch
      show (if (decide (pos > n) || decide (n - pos < 1)) = true then _ else _) = _
      rw [hc]
      rfl
    rw [e]
    obtain ⟨sn', ea⟩ := admitted2 (n := n) (t := t) (SS code2 t n pos 10 pos pos true [] 0 none (({} : Seen).add 14)) rfl rfl rfl (n - pos) pos (({} : Seen).add 14) (n + 1 - pos) (by omega) (by omega)
    show ∃ m, Reach 21 (match M.admitted (SS code2 t n pos 10 pos pos true [] 0 none (({} : Seen).add 14)) (n + 1 - pos) pos (({} : Seen).add 14) with | .ok (some s, seen) => _ | .ok (none, seen) => _ | .error why => _) m ∧ _
    rw [ea]
    cases hf : findFrom (p2 t) (n - pos) pos with
    | none => exact lost_end (c := code2) (by omega)
    | some i =>
      obtain ⟨_, b, c⟩ := findFrom_lt hf
      obtain ⟨m, r, f⟩ := search2 (om := true) (sn := sn') (t := t) (n := n) (s := i) (by omega) c
      exact ⟨m, r.trans (Reach.refl _) (b := 0) (c := 21) (by omega), f⟩
  · rw [show n - pos = 0 by omega]
    obtain ⟨m, r, f⟩ := search_end (n := n) (c := code2) (e := e2 t n) (t := t) pos (by omega) (by decide)
    exact ⟨m, r.trans (Reach.refl _) (b := 0) (c := 21) (by omega), f⟩
end Mine
end
-- part MRow
section
open PySem PySem.W PyProof.Rows
set_option maxRecDepth 100000
set_option linter.unusedVariables false
namespace Mine
noncomputable def unseenZ : List Int := 173 :: 847 :: 6150 :: 6155 :: 6156 :: 6157 :: 8203 :: 8204 :: 8205 :: 8288 :: 65279 :: rangeInts 65024 1 ((65040 : Int) - 65024).toNat
noncomputable def besideZ : List Int := [172, 174, 846, 848, 6149, 6151, 6154, 6158, 8202, 8206, 8287, 8289, 65023, 65040, 65278, 65280, 11, 12, 28, 29, 30, 133, 8232, 8233]
noncomputable def menuZ : List Int := [0, 1, 2, 4, 7, 8, 9, 10, 11, 12]
noncomputable def veilsN : List Nat := unseenZ.map Int.toNat
noncomputable def staysN : List Nat := besideZ.map Int.toNat
noncomputable def endsN : List (List Nat) := [[10], [13], [13, 10], [10, 13], [13, 13, 10]]
noncomputable def ligsN : List (List Nat) := [[102, 102], [102, 105], [102, 108], [102, 102, 105], [102, 102, 108], [115, 116], [115, 116]]
noncomputable def pairsN : List (Nat × List Nat) := ((List.range 26).map fun l => (65 + l, [97 + l])) ++ ((List.range 7).map fun i => (64256 + i, ligsN.getD i [])) ++
  ((List.range 10).flatMap fun a => (List.range 26).map fun (l : Nat) => ((119808 + 52 * menuZ.getD a 0 + (l : Int)).toNat, [97 + l]))
noncomputable def RowOk (veil typed folded end_ : Str) : Prop :=
  (∃ v ∈ veilsN, veil = ⟨#[v]⟩) ∧ (∃ e ∈ endsN, end_ = ⟨e.toArray⟩) ∧
    ((typed = ⟨#[]⟩ ∧ folded = ⟨#[]⟩) ∨ ∃ st ∈ staysN, ∃ q ∈ pairsN, typed = ⟨#[q.1, st]⟩ ∧ folded = ⟨(q.2 ++ [st]).toArray⟩)
theorem getD_mem {α : Type} {l : List α} {i : Nat} {d : α} (h : i < l.length) : l.getD i d ∈ l := by
  rw [List.getD_eq_getElem?_getD, List.getElem?_eq_getElem h]
  exact List.getElem_mem h
theorem fm (y : Int) {n : Nat} (h : (0 : Int) < n := by decide) : (y.fmod n).toNat < n := by
  have h1 := Int.fmod_nonneg_of_pos y h
  have h2 := Int.fmod_lt_of_pos y h
  omega
theorem chrM (k : Nat) (z : Int) : 0 ≤ 119808 + 52 * [0, 1, 2, 4, 7, 8, 9, 10, 11, 12].getD k 0 + z.fmod 26 ∧ 119808 + 52 * [0, 1, 2, 4, 7, 8, 9, 10, 11, 12].getD k 0 + z.fmod 26 ≤ 1114111 := by
  have h := kmn_any (l := [0, 1, 2, 4, 7, 8, 9, 10, 11, 12]) (i := k) (d := 0) (lo := 0) (hi := 12) (by decide)
  have h1 := Int.fmod_nonneg_of_pos z (show (0 : Int) < 26 by decide)
  have h2 := Int.fmod_lt_of_pos z (show (0 : Int) < 26 by decide)
  omega
theorem veil_ok (y : Int) : ∃ v ∈ veilsN, (⟨#[(unseenZ.getD (y.fmod 27).toNat 0).toNat]⟩ : Str) = ⟨#[v]⟩ :=
  ⟨_, List.mem_map_of_mem (getD_mem (show _ < 27 from fm y (n := 27))), rfl⟩
theorem stay_ok (y : Int) : (besideZ.getD (y.fmod 24).toNat 0).toNat ∈ staysN := List.mem_map_of_mem (getD_mem (show _ < 24 from fm y (n := 24)))
theorem pair1 : ∀ l < 26, (65 + l, [97 + l]) ∈ pairsN := by decide +kernel
theorem pair2 : ∀ i < 7, (64256 + i, ligsN.getD i []) ∈ pairsN := by decide +kernel
theorem pair3 : ∀ a < 10, ∀ l < 26, ((119808 + 52 * menuZ.getD a 0 + (l : Nat)).toNat, [97 + l]) ∈ pairsN := by decide +kernel
theorem end_ok (y : Int) : ∃ e ∈ endsN, [Str.ofString "\n", Str.ofString "\r", Str.ofString "\r\n", Str.ofString "\n\r", Str.ofString "\r\r\n"].getD (y.fmod 5).toNat Str.empty = ⟨e.toArray⟩ := by
  have : ∀ i < 5, ∃ e ∈ endsN, [Str.ofString "\n", Str.ofString "\r", Str.ofString "\r\n", Str.ofString "\n\r", Str.ofString "\r\r\n"].getD i Str.empty = ⟨e.toArray⟩ := by decide +kernel
  exact this _ (fm y (n := 5))
theorem lig_ok (y : Int) : [Str.ofString "ff", Str.ofString "fi", Str.ofString "fl", Str.ofString "ffi", Str.ofString "ffl", Str.ofString "st", Str.ofString "st"].getD (y.fmod 7).toNat Str.empty = ⟨(ligsN.getD (y.fmod 7).toNat []).toArray⟩ := by
  have : ∀ i < 7, [Str.ofString "ff", Str.ofString "fi", Str.ofString "fl", Str.ofString "ffi", Str.ofString "ffl", Str.ofString "st", Str.ofString "st"].getD i Str.empty = ⟨(ligsN.getD i []).toArray⟩ := by decide +kernel
  exact this _ (fm y (n := 7))
theorem row0 (y z u : Int) : RowOk ⟨#[(unseenZ.getD (y.fmod 27).toNat 0).toNat]⟩ (Str.ofString "") (Str.ofString "") ([Str.ofString "\n", Str.ofString "\r", Str.ofString "\r\n", Str.ofString "\n\r", Str.ofString "\r\r\n"].getD (z.fmod 5).toNat Str.empty) :=
  ⟨veil_ok y, end_ok z, .inl ⟨by decide +kernel, by decide +kernel⟩⟩
theorem nat_of (z : Int) {n : Nat} (h : (0 : Int) < n := by decide) : z.fmod n = ((z.fmod n).toNat : Int) := (Int.toNat_of_nonneg (Int.fmod_nonneg_of_pos z h)).symm
theorem chr_nat (c : Nat) (z : Int) : ((c : Int) + z.fmod 26).toNat = c + (z.fmod 26).toNat := by
  have := Int.fmod_nonneg_of_pos z (show (0 : Int) < 26 by decide)
  omega
theorem row1 (y z u v : Int) : RowOk ⟨#[(unseenZ.getD (y.fmod 27).toNat 0).toNat]⟩ (⟨#[(65 + v.fmod 26).toNat]⟩ ++ ⟨#[(besideZ.getD (u.fmod 24).toNat 0).toNat]⟩) (⟨#[(97 + v.fmod 26).toNat]⟩ ++ ⟨#[(besideZ.getD (u.fmod 24).toNat 0).toNat]⟩)
    ([Str.ofString "\n", Str.ofString "\r", Str.ofString "\r\n", Str.ofString "\n\r", Str.ofString "\r\r\n"].getD (z.fmod 5).toNat Str.empty) := by
  refine ⟨veil_ok y, end_ok z, .inr ⟨_, stay_ok u, _, pair1 _ (fm v (n := 26)), ?_, ?_⟩⟩
  · rw [show (65 + v.fmod 26).toNat = 65 + (v.fmod 26).toNat from chr_nat 65 v]; rfl
  · rw [show (97 + v.fmod 26).toNat = 97 + (v.fmod 26).toNat from chr_nat 97 v]; rfl
theorem str_app (l : List Nat) (c : Nat) : (⟨l.toArray⟩ ++ ⟨#[c]⟩ : Str) = ⟨(l ++ [c]).toArray⟩ := by
  show Str.mk (l.toArray ++ #[c]) = _
  simp
theorem row2 (y z u v : Int) : RowOk ⟨#[(unseenZ.getD (y.fmod 27).toNat 0).toNat]⟩ (⟨#[(64256 + (v.fmod 26).fmod 7).toNat]⟩ ++ ⟨#[(besideZ.getD (u.fmod 24).toNat 0).toNat]⟩)
    ([Str.ofString "ff", Str.ofString "fi", Str.ofString "fl", Str.ofString "ffi", Str.ofString "ffl", Str.ofString "st", Str.ofString "st"].getD ((v.fmod 26).fmod 7).toNat Str.empty ++ ⟨#[(besideZ.getD (u.fmod 24).toNat 0).toNat]⟩)
    ([Str.ofString "\n", Str.ofString "\r", Str.ofString "\r\n", Str.ofString "\n\r", Str.ofString "\r\r\n"].getD (z.fmod 5).toNat Str.empty) := by
  refine ⟨veil_ok y, end_ok z, .inr ⟨_, stay_ok u, _, pair2 _ (fm (v.fmod 26) (n := 7)), ?_, ?_⟩⟩
  · have := Int.fmod_nonneg_of_pos (v.fmod 26) (show (0 : Int) < 7 by decide)
    rw [show (64256 + (v.fmod 26).fmod 7).toNat = 64256 + ((v.fmod 26).fmod 7).toNat by omega]; rfl
  · rw [lig_ok]; exact str_app _ _
theorem row3 (y z u v k : Int) (hk : (k.fmod 13).toNat < 10) : RowOk ⟨#[(unseenZ.getD (y.fmod 27).toNat 0).toNat]⟩ (⟨#[(119808 + 52 * menuZ.getD (k.fmod 13).toNat 0 + v.fmod 26).toNat]⟩ ++ ⟨#[(besideZ.getD (u.fmod 24).toNat 0).toNat]⟩)
    (⟨#[(97 + v.fmod 26).toNat]⟩ ++ ⟨#[(besideZ.getD (u.fmod 24).toNat 0).toNat]⟩)
    ([Str.ofString "\n", Str.ofString "\r", Str.ofString "\r\n", Str.ofString "\n\r", Str.ofString "\r\r\n"].getD (z.fmod 5).toNat Str.empty) := by
  refine ⟨veil_ok y, end_ok z, .inr ⟨_, stay_ok u, _, pair3 _ hk _ (fm v (n := 26)), ?_, ?_⟩⟩
  · rw [show (((v.fmod (26 : Nat)).toNat : Nat) : Int) = v.fmod 26 from (nat_of v (n := 26)).symm]; rfl
  · rw [show (97 + v.fmod 26).toNat = 97 + (v.fmod 26).toNat from chr_nat 97 v]; rfl
noncomputable abbrev tupO (vs : List Value) : Obj := { cls := .type "tuple", data := .seq vs.toArray }
end Mine
end
-- part WTab
section
open PySem PySem.W PyProof.Rows PySem.Calls PySem.Spec
set_option maxRecDepth 100000
set_option maxHeartbeats 0
set_option linter.unusedVariables false
namespace Mine
noncomputable def ascI : List Int → Bool
  | a :: b :: r => decide (a < b) && ascI (b :: r)
  | _ => true
theorem ascI_lt : ∀ {l : List Int} {a : Int}, ascI (a :: l) = true → ∀ x ∈ l, a < x
  | [], _, _, x, hx => nomatch hx
  | b :: r, a, h, x, hx => by
    simp only [ascI, Bool.and_eq_true, decide_eq_true_eq] at h
    rcases List.mem_cons.mp hx with rfl | hx
    · exact h.1
    · exact Int.lt_trans h.1 (ascI_lt h.2 x hx)
theorem ascI_tail : ∀ {l : List Int} {a : Int}, ascI (a :: l) = true → ascI l = true
  | [], _, _ => rfl
  | b :: r, a, h => by
    simp only [ascI, Bool.and_eq_true] at h
    exact h.2
theorem nodup_asc : ∀ {l : List Int}, ascI l = true → l.Nodup
  | [], _ => List.nodup_nil
  | a :: l, h => List.nodup_cons.mpr ⟨fun m => Int.lt_irrefl _ (ascI_lt h a m), nodup_asc (ascI_tail h)⟩
noncomputable def b3D : List (Int × PyData) := b3kv.map fun q => (q.1, PyData.str q.2)
theorem b3look : KTD.numsLook b3all b3D = true := by decide +kernel
theorem b3asc : ascI (b3D.map (·.1)) = true := by decide +kernel
theorem b3Keyed {P : Params} {h : Heap} (X : (Kf P).In h) : KTD.Keyed h 109 b3D := by
  have e := X 109 _ (show (Kf P).lookup 109 = some (o_109_15 P) from rfl)
  intro prog w
  obtain ⟨hk, kvs, hp, hf, hm⟩ := KTD.nums_of_look prog w b3look
  exact ⟨by decide, kvs, ⟨_, _, _, e, ⟨rfl, rfl, rfl⟩, rfl, fun x hx => hk x (by simpa [dO] using hx), hp, by rw [hm]; exact nodup_asc b3asc⟩, hf⟩
theorem get1_b3 {prog : Program} {w : World} {A : Around} {E : Value → Shared → Prop} {s : Shared} {h₀ : Heap} {P : Params} {k : Int} {tk : Tok} {Q : Value → Shared → Prop} (X : (Kf P).In h₀) (hk : Keeps h₀ s.heap)
    (h1 : ∀ v d, KTD.datumAt k b3D = some d → PyProof.V.Flat v d → Q v { s with toks := s.toks + 1 }) (h2 : KTD.datumAt k b3D = none → Q .none { s with toks := s.toks + 1 }) :
    wpAny (model prog w) A (call (.builtin "dict.get") [.ref 109, .int k tk]) Q E s :=
  call_get1_intTab ((b3Keyed X).keep hk prog w) fun v hv => by
    rw [KTD.lookup_keyed] at hv
    cases hat : KTD.datumAt k b3D with
    | some d => rw [hat] at hv; exact h1 v d hat hv
    | none =>
      rw [hat] at hv
      have hv' : PyProof.V.Flat v .none := hv
      rw [hv'.none_inv]
      exact h2 hat
theorem datum_str {k : Int} {d : PyData} : ∀ {l : List (Int × Str)}, KTD.datumAt k (l.map fun q => (q.1, PyData.str q.2)) = some d → ∃ x, d = .str x
  | [], h => by cases h
  | q :: l, h => by
    rw [List.map_cons] at h
    unfold KTD.datumAt at h
    split at h
    · cases h; exact ⟨_, rfl⟩
    · exact datum_str h
theorem get1_b3s {prog : Program} {w : World} {A : Around} {E : Value → Shared → Prop} {s : Shared} {h₀ : Heap} {P : Params} {k : Int} {tk : Tok} {Q : Value → Shared → Prop} (X : (Kf P).In h₀) (hk : Keeps h₀ s.heap)
    (h1 : ∀ x t, KTD.datumAt k b3D = some (.str x) → Q (.str x t) { s with toks := s.toks + 1 }) (h2 : KTD.datumAt k b3D = none → Q .none { s with toks := s.toks + 1 }) :
    wpAny (model prog w) A (call (.builtin "dict.get") [.ref 109, .int k tk]) Q E s :=
  get1_b3 X hk (fun v d hd hf => by
    obtain ⟨x, rfl⟩ := datum_str (l := b3kv) hd
    obtain ⟨t, rfl⟩ := hf.str_inv
    exact h1 _ _ hd) h2
noncomputable def foldC (c : Nat) : Str := match KTD.datumAt (c : Int) b3D with
  | some (.str x) => x
  | _ => Txt.lower ⟨#[c]⟩
theorem foldC_some {c : Nat} {x : Str} (h : KTD.datumAt (c : Int) b3D = some (.str x)) : foldC c = x := by unfold foldC; rw [h]
theorem foldC_none {c : Nat} (h : KTD.datumAt (c : Int) b3D = none) : foldC c = Txt.lower ⟨#[c]⟩ := by unfold foldC; rw [h]
noncomputable def b1pairs : List (Int × Nat) := [(65024, 421), (65025, 422), (65026, 423), (65027, 424), (65028, 425), (65029, 426), (6150, 407), (65030, 427), (65031, 428), (65032, 429), (65033, 430), (6155, 408), (6156, 409), (6157, 410), (8203, 411), (8204, 412), (8205, 413), (65034, 431), (65035, 432), (65036, 433), (65037, 434), (65038, 435), (65039, 436), (173, 405), (847, 406), (8288, 414), (65279, 415)]
theorem b1Set (P : Params) (prog : Program) (w : World) : (o_98_13 P).SetObjOf (PySem.intKind prog w) (fun k => decide (k ∈ unseenZ)) 27 := by
  refine ⟨⟨rfl, rfl, rfl⟩, (b1pairs.map fun p => (hashInt p.1, Value.int p.1 p.2)).toArray, _, _, rfl, ?_, ?_, rfl, rfl⟩
  · intro e he
    simp only [List.mem_map] at he
    obtain ⟨p, _, rfl⟩ := he
    exact ⟨⟨p.1, isInt_self p.1 p.2, rfl⟩, rfl⟩
  · intro k
    have a : ∀ x ∈ unseenZ, x ∈ b1pairs.map (·.1) := by decide +kernel
    have b : ∀ x ∈ b1pairs.map (·.1), x ∈ unseenZ := by decide +kernel
    rw [decide_eq_true_iff]
    constructor
    · intro h
      obtain ⟨p, hp, rfl⟩ := List.mem_map.mp (a k h)
      exact ⟨_, List.mem_map.mpr ⟨p, hp, rfl⟩, isInt_self p.1 p.2⟩
    · rintro ⟨e, he, hi⟩
      obtain ⟨p, hp, rfl⟩ := List.mem_map.mp he
      have := (PySem.intKind prog w).inj _ _ _ hi (isInt_self p.1 p.2)
      subst this
      exact b _ (List.mem_map.mpr ⟨p, hp, rfl⟩)
end Mine
end
-- part WIn
section
open PySem PySem.W PyProof.Rows PySem.Calls PySem.Spec
set_option maxRecDepth 100000
set_option maxHeartbeats 0
set_option linter.unusedVariables false
namespace Mine
theorem in_does (w : World) (c : Nat) (tc : Tok) : Does w 108 2 30 [.str ⟨#[c]⟩ tc] (fun _ => True) (fun h r h' => r = .bool (decide ((c : Int) ∈ unseenZ))) := by
  constructor
  k_fill
  intro p loose mean mg mb dp un fr gd s Q X T hd hu hp hret
  refine' enterF (binds := [(Str.ofString "code", .str ⟨#[c]⟩ tc)]) ?k1 ?k2 ?k3 ?k4 ?k5 ?k6 ?k7 ?_ ?c1 ?c2 ?c3 ?c4
  case k1 => exact X
  case k2 => exact T
  case k3 => k_is
  case k4 => k_is
  case k5 => (show dp < recursionLimit; first | exact Nat.lt_of_le_of_lt (Nat.le_add_right _ _) hd | omega)
  case k6 => exact BindsTo.of_eq rfl
  case k7 => exact locs rfl
  case c1 => rfl
  case c2 => rfl
  case c3 => rfl
  case c4 => decide
  intro L h tk F N
  conv in fBody _ => whnf
  k_with_none
  k_with "call builtin:ord" => (k_dflt (refine' PySem.P.ord_of_char ?_))
  k_with "compareOp In int ref" => (k_dflt ((with_reducible rename Fr _ _ _ _ => F8); refine' in_argsetI F8 (b1Set _ _ _) (X 98 _ rfl) (by decide) ?_))
  k_steps
  exact hret _ _ _ (by with_reducible (rename Fr _ _ _ _ => F9); exact F9.keep) rfl
theorem map_does (w : World) (c : Nat) (tc : Tok) : Does w 154 2 30 [.str ⟨#[c]⟩ tc] (fun _ => True) (fun h r h' => ∃ t, r = .str (foldC c) t) := by
  constructor
  k_fill
  intro p loose mean mg mb dp un fr gd s Q X T hd hu hp hret
  refine' enterF (binds := [(Str.ofString "code", .str ⟨#[c]⟩ tc)]) ?k1 ?k2 ?k3 ?k4 ?k5 ?k6 ?k7 ?_ ?c1 ?c2 ?c3 ?c4
  case k1 => exact X
  case k2 => exact T
  case k3 => k_is
  case k4 => k_is
  case k5 => (show dp < recursionLimit; first | exact Nat.lt_of_le_of_lt (Nat.le_add_right _ _) hd | omega)
  case k6 => exact BindsTo.of_eq rfl
  case k7 => exact locs rfl
  case c1 => rfl
  case c2 => rfl
  case c3 => rfl
  case c4 => decide
  intro L h tk F N
  conv in fBody _ => whnf
  k_with "call builtin:ord" => (k_dflt (refine' PySem.P.ord_of_char ?_))
  k_with "getMethod ref" => (k_dflt ((with_reducible rename Fr _ _ _ _ => F8); refine' KTD.getMethod_keyed (b3Keyed X) F8.keep ?_))
  k_with "call builtin:dict.get" => (k_dflt ((with_reducible rename Fr _ _ _ _ => F8); refine' get1_b3s X F8.keep ?_ ?_))
  k_with "call builtin:str.lower" => (k_dflt (refine' SCL.lower ?_ ?_))
  k_steps
  all_goals (with_reducible rename Fr _ _ _ _ => F9)
  all_goals first
    | exact hret _ _ _ F9.keep ⟨_, by rw [foldC_some (by assumption)]⟩
    | exact hret _ _ _ F9.keep ⟨_, by rw [foldC_none (by assumption)]⟩
    | (trace_state; w_report)
end Mine
end
-- part WPrep
section
open PySem PySem.W PyProof.Rows PySem.Calls PySem.Spec
set_option maxRecDepth 100000
set_option maxHeartbeats 0
set_option linter.unusedVariables false
namespace Mine
local macro_rules | `(tactic| walk_at "PAD") => `(tactic| fail "pad")
noncomputable def prepC (c : Nat) : List Nat := if (c : Int) ∈ unseenZ then [] else (foldC c).cps.toList
noncomputable def prepN (cs : List Nat) : List Nat := cs.flatMap prepC
theorem StrsAre.append {a b : List Value} {x y : List Str} (h : StrsAre a x) (k : StrsAre b y) : StrsAre (a ++ b) (x ++ y) := by
  induction h with
  | nil => exact k
  | cons z t _ ih => exact .cons z t ih
theorem join_empty (ys : List Str) : Txt.join (Str.ofString "") ys = ⟨(ys.flatMap fun y => y.cps.toList).toArray⟩ := by
  show PySem.Builtin.Str.glued _ ys = _
  rw [StrLaws.glued_eq_join]
  induction ys with
  | nil => rfl
  | cons y r ih =>
    cases r with
    | nil => simp [Str.join]
    | cons z r =>
      show y ++ Str.ofString "" ++ Str.join (Str.ofString "") (z :: r) = _
      rw [ih, List.flatMap_cons]
      show Str.mk (y.cps ++ (Str.ofString "").cps ++ _) = _
      rw [show (Str.ofString "").cps = #[] from rfl]
      simp
theorem StrsAre.len {a : List Value} {x : List Str} (h : StrsAre a x) : a.length = x.length := by
  induction h with
  | nil => rfl
  | cons z t _ ih => simp [ih]
theorem join_fits {ys : List Str} {l : List Nat} (h : (ys.flatMap fun y => y.cps.toList) = l) (hl : l.length ≤ 16777216) : (ys.map (·.length)).sum + ys.length * (Str.ofString "").length ≤ 16777216 := by
  have e : (ys.map (·.length)).sum = l.length := by
    rw [← h, List.length_flatMap]
    congr 1
  rw [e, show (Str.ofString "").length = 0 from rfl]
  omega
theorem dec_no {p : Prop} [Decidable p] (h : (decide p == false) = true) : ¬p := by simpa using h
theorem dec_yes {p : Prop} [Decidable p] (h : (decide p == false) = false) : p := by simpa using h
noncomputable def PJ (x : Str) (l : Addr) (m₀ : Str → Option Value) (i : Nat) (m : Str → Option Value) (nx : List (Addr × Obj)) : Prop :=
  ∃ vs ys k u1 u2, nx = [(l, listOf vs.toArray k)] ∧ StrsAre vs ys ∧ (ys.flatMap fun y => y.cps.toList) = prepN (x.cps.toList.take i) ∧ ys.length ≤ i ∧ i ≤ x.cps.size ∧
    m = fun y => if y = Str.ofString "held" then u1 else if y = Str.ofString "sign" then u2 else if y = Str.ofString "kept" then some (.ref l) else m₀ y
theorem pj_start {x : Str} {l : Addr} {m₀ m : Str → Option Value} {k : Nat} (h1 : m₀ (Str.ofString "held") = none) (h2 : m₀ (Str.ofString "sign") = none)
    (hm : m = fun y => if y = Str.ofString "kept" then some (.ref l) else m₀ y) : PJ x l m₀ 0 m [(l, listOf #[] k)] := by
  refine ⟨[], [], k, none, none, rfl, .nil, rfl, Nat.le_refl _, Nat.zero_le _, ?_⟩
  subst hm
  funext y
  by_cases e : y = Str.ofString "held"
  · subst e
    rw [if_neg (by decide), if_pos rfl, h1]
  · rw [if_neg e]
    by_cases e : y = Str.ofString "sign"
    · subst e
      rw [if_neg (by decide), if_pos rfl, h2]
    · rw [if_neg e]
theorem prepN_take {l : List Nat} {i c : Nat} (h : l[i]? = some c) : prepN (l.take (i + 1)) = prepN (l.take i) ++ prepC c := by
  rw [List.take_add_one, h]
  unfold prepN
  rw [List.flatMap_append]
  simp
theorem pj_names {m₀ : Str → Option Value} {l : Addr} {a b u1 u2 : Option Value} :
    (fun y => if y = Str.ofString "held" then a else if y = Str.ofString "sign" then b else if y = Str.ofString "held" then u1 else if y = Str.ofString "sign" then u2 else if y = Str.ofString "kept" then some (Value.ref l) else m₀ y) =
    fun y => if y = Str.ofString "held" then a else if y = Str.ofString "sign" then b else if y = Str.ofString "kept" then some (Value.ref l) else m₀ y := by
  funext y
  by_cases e1 : y = Str.ofString "held"
  · simp only [if_pos e1]
  · simp only [if_neg e1]
    by_cases e2 : y = Str.ofString "sign"
    · simp only [if_pos e2]
    · simp only [if_neg e2]
theorem pj_kept {x : Str} {l : Addr} {m₀ : Str → Option Value} {i c k : Nat} {vs : List Value} {ys : List Str} {a b u1 u2 : Option Value} {t : Tok} (hc : x.cps[i]? = some c) (hv : StrsAre vs ys) (hf : (ys.flatMap fun y => y.cps.toList) = prepN (x.cps.toList.take i)) (hl : ys.length ≤ i)
    (hn : (c : Int) ∉ unseenZ) : PJ x l m₀ (i + 1) (fun y => if y = Str.ofString "held" then a else if y = Str.ofString "sign" then b else if y = Str.ofString "held" then u1 else if y = Str.ofString "sign" then u2 else if y = Str.ofString "kept" then some (Value.ref l) else m₀ y) [(l, listOf (vs.toArray.push (.str (foldC c) t)) k)] := by
  refine ⟨vs ++ [.str (foldC c) t], ys ++ [foldC c], k, a, b, by simp, StrsAre.append hv (.cons _ _ .nil), ?_, by simp; omega, ?_, pj_names⟩
  · rw [prepN_take (by simpa using hc), List.flatMap_append, hf]
    unfold prepC
    rw [if_neg hn]
    simp
  · obtain ⟨q, _⟩ := Array.getElem?_eq_some_iff.mp hc
    omega
theorem pj_left {x : Str} {l : Addr} {m₀ : Str → Option Value} {i c k : Nat} {vs : List Value} {ys : List Str} {a b u1 u2 : Option Value} (hc : x.cps[i]? = some c) (hv : StrsAre vs ys) (hf : (ys.flatMap fun y => y.cps.toList) = prepN (x.cps.toList.take i)) (hl : ys.length ≤ i)
    (hn : (c : Int) ∈ unseenZ) : PJ x l m₀ (i + 1) (fun y => if y = Str.ofString "held" then a else if y = Str.ofString "sign" then b else if y = Str.ofString "held" then u1 else if y = Str.ofString "sign" then u2 else if y = Str.ofString "kept" then some (Value.ref l) else m₀ y) [(l, listOf vs.toArray k)] := by
  refine ⟨vs, ys, k, a, b, rfl, hv, ?_, by omega, ?_, pj_names⟩
  · rw [prepN_take (by simpa using hc), hf]
    unfold prepC
    rw [if_pos hn]
    simp
  · obtain ⟨q, _⟩ := Array.getElem?_eq_some_iff.mp hc
    omega
theorem prepared_does (w : World) (x : Str) (tx : Tok) (hx : x.cps.size ≤ 1000) (hp : (prepN x.cps.toList).length ≤ 16777216) : Does w 173 5 60 [.str x tx] (fun _ => True) (fun h r h' => ∃ t, r = .str ⟨(prepN x.cps.toList).toArray⟩ t) := by
  constructor
  k_fill
  intro p loose mean mg mb dp un fr gd s Q X T hd hu _ hret
  refine' enterF (binds := [(Str.ofString "text", .str x tx)]) ?k1 ?k2 ?k3 ?k4 ?k5 ?k6 ?k7 ?_ ?c1 ?c2 ?c3 ?c4
  case k1 => exact X
  case k2 => exact T
  case k3 => k_is
  case k4 => k_is
  case k5 => (show dp < recursionLimit; first | exact Nat.lt_of_le_of_lt (Nat.le_add_right _ _) hd | omega)
  case k6 => exact BindsTo.of_eq rfl
  case k7 => exact locs rfl
  case c1 => rfl
  case c2 => rfl
  case c3 => rfl
  case c4 => decide
  intro L h tk F N
  conv in fBody _ => whnf
  k_with_none
  k_with "exec For Name Name cons nil" => (with_reducible refine wpAny_For ?_ (fun _ => rfl))
  k_with "pyIter str" => (k_dflt (refine' for_strN (px := _) (PJ x _ (fun y => List.lookup y [(Str.ofString "text", Value.str x tx)].reverse)) rfl rfl rfl (by k_asm) (by k_asm) ?_ ?_ ?_ ?_ PassesOwn.never); ((with_reducible rename Fr _ _ _ _ => F9); (with_reducible rename News _ _ _ _ => N9)); all_goals (first | refine' Hold.mk ?_ | skip))
  k_with "call ref" => (k_dflt (first | ((refine' Does.use (in_does w _ _) (by k_asm) (by k_asm) X T (by (try dsimp only [Around.deeper]); first | exact room2 hd | exact room2 hu | exact room1 hd | exact room1 hu | omega) (by (try dsimp only [Around.deeper]); first | exact room2 hd | exact room2 hu | exact room1 hd | exact room1 hu | omega) trivial ?_); rintro r9 h9 tk9 K9 F9 N9 e9; subst e9) | ((refine' Does.use (map_does w _ _) (by k_asm) (by k_asm) X T (by (try dsimp only [Around.deeper]); first | exact room2 hd | exact room2 hu | exact room1 hd | exact room1 hu | omega) (by (try dsimp only [Around.deeper]); first | exact room2 hd | exact room2 hu | exact room1 hd | exact room1 hu | omega) trivial ?_); rintro r9 h9 tk9 K9 F9 N9 ⟨t9, e9⟩; subst e9)))
  k_with "call builtin:list.append" => (k_dflt (refine' append_K (by k_asm) (by k_asm) (by k_upd) ?_ (Nat.le_trans (m := 1000) (by (simp only [List.size_toArray]); omega) (by decide))); intro h' F' N'; try k_sweep)
  k_with "call builtin:str.join" => (k_dflt (refine' join_list (by is_list) hv9 hok ?_); intro t9 k9)
  k_with "And" => ((with_reducible show _ = Flow.next ∧ _); refine' Hold.mk ?_)
  k_steps
  all_goals try refine' Hold.open ?_
  rotate_left
  · refine' pj_start ?_ ?_ rfl <;> rfl
  · rename_i h9 F9 N9; clear F9 N9
    rintro i c m₁ news₁ h₁ tk₁ I oI hc ⟨vs, ys, k, u1, u2, e1, hv, hf, hl, hi, e2⟩ hlt F N
    subst e1 e2
    have hlv := StrsAre.len hv
    have hlI := hlt _ (.head _)
    dsimp only at hlI
    k_steps
    all_goals try (with_reducible refine' Hold.open ?_)
    all_goals first
      | exact ⟨rfl, _, _, _, _, [(_, _)], rfl, by k_asm, by k_asm, .head _, fun p hp => .tail _ hp, pj_kept hc hv hf hl (dec_no ‹(decide _ == false) = true›)⟩
      | exact ⟨rfl, _, _, _, _, [(_, _)], rfl, by k_asm, by k_asm, .head _, fun p hp => .tail _ hp, pj_left hc hv hf hl (dec_yes ‹(decide _ == false) = false›)⟩
      | w_report
  · rename_i h9 F9 N9; clear F9 N9
    rintro m₁ news₁ h₁ tk₁ ⟨vs, ys, k, u1, u2, e1, hv, hf, hl, hi, e2⟩ F N
    subst e1 e2
    rw [← Array.length_toList, List.take_length] at hf
    have hok := join_fits hf hp
    have hv9 : StrsAre vs.toArray.toList ys := hv
    k_steps
    exact hret _ _ _ (by with_reducible rename Fr _ _ _ _ => F9; exact F9.keep) ⟨_, by rw [join_empty, hf]⟩
  · rintro i m₁ news₁ ⟨vs, ys, k, u1, u2, e1, hv, hf, hl, hi, e2⟩ p hp
    subst e1
    rw [List.mem_singleton.mp hp]
    exact .head _
end Mine
end
-- part QSub
section
open PySem PySem.W PyProof.Rows PySem.Calls PySem.Spec
open PySem.Builtin.Re
set_option maxRecDepth 100000
set_option maxHeartbeats 0
set_option linter.unusedVariables false
namespace Mine
section
variable {M : Model} {A : Around} {E : Value → Shared → Prop} {s : Shared}
theorem wp_drive : ∀ (turns : Nat) {m : Sre.M} {j : Nat} {Q : Sre.M → Shared → Prop}, (m.runFor j).outcome.isSome = true → j ≤ 4 * turns → 0 < turns → Q (m.runFor j) s → wpAny M A (reDrive turns m) Q E s
  | 0, _, _, _, _, _, h, _ => absurd h (Nat.lt_irrefl _)
  | turns + 1, m, j, Q, ho, hj, _, hq => by
    show wpAny M A (if (m.runFor 4).outcome.isSome = true then pure (m.runFor 4) else rule "sre.turn" >>= fun _ => reDrive turns (m.runFor 4)) Q E s
    by_cases h4 : (m.runFor 4).outcome.isSome = true
    · rw [if_pos h4]
      have e : m.runFor 4 = m.runFor j := by
        by_cases hlt : j ≤ 4
        · rw [show 4 = j + (4 - j) by omega, runFor_add, runFor_done _ ho]
        · rw [show j = 4 + (j - 4) by omega, runFor_add, runFor_done _ h4]
      rw [e]
      exact wpAny_pure hq
    · rw [if_neg h4]
      have hlt : ¬ j ≤ 4 := fun hlt => h4 (by rw [show 4 = j + (4 - j) by omega, runFor_add, runFor_done _ ho]; exact ho)
      have e : (m.runFor 4).runFor (j - 4) = m.runFor j := by rw [← runFor_add]; congr 1; omega
      refine wpAny_bind (wpAny_rule ?_)
      exact wp_drive turns (j := j - 4) (by rw [e]; exact ho) (by omega) (by omega) (by rw [e]; exact hq)
theorem wp_seen {b : Nat → Bool} {g : Nat → String} {Q : PUnit → Shared → Prop} (h : Q ⟨⟩ s) : ∀ l : List Nat, wpAny M A (forIn l PUnit.unit fun i (_ : PUnit) => (if b i = true then (rule (g i) >>= fun _ => pure (ForInStep.yield PUnit.unit)) else pure (ForInStep.yield PUnit.unit) : Sem (ForInStep PUnit))) Q E s
  | [] => wpAny_pure h
  | i :: l => by
    rw [List.forIn_cons]
    refine wpAny_bind ?_
    cases b i
    · exact wpAny_pure (wp_seen h l)
    · exact wpAny_bind (wpAny_rule (wpAny_pure (wp_seen h l)))
theorem wp_run {m m' : Sre.M} {k : Nat} {Q : Option Sre.M → Shared → Prop} (r : Reach k m m') (hk : k ≤ 1000000) (ho : m'.outcome = some .matched ∧ Q (some m') s ∨ m'.outcome = some .failed ∧ Q none s) : wpAny M A (reRunToEnd m) Q E s := by
  obtain ⟨j, hj, e⟩ := r
  unfold reRunToEnd
  refine wpAny_bind (wp_drive (2 ^ 64) (j := j) ?_ (by omega) (by decide) ?_)
  · rw [e]; rcases ho with ⟨h, _⟩ | ⟨h, _⟩ <;> rw [h] <;> rfl
  · rw [e]
    refine wpAny_bind (wp_seen (b := fun i => m'.seen.has i) (g := fun i => Sre.names.getD i "") ?_ _)
    rcases ho with ⟨h, q⟩ | ⟨h, q⟩
    · rw [h]; exact wpAny_pure q
    · rw [h]; exact wpAny_pure q
noncomputable def PatAt (h : Heap) (a : Addr) (code : Array Nat) : Prop :=
  ∃ (o : Obj) (fs : Array Value) (T : Addr) (o' : Obj) (ws : Array Value) (n : Nat), h.get? a = some o ∧ o.cls = .type "re.Pattern" ∧ o.dict = none ∧ o.data = .fields fs ∧ fs.getD 5 .none = .ref T ∧ reRawNat (fs.getD 2 .none) = 0 ∧ reRawNat (fs.getD 6 .none) = 0 ∧
    h.get? T = some o' ∧ o'.cls = .type "tuple" ∧ o'.data = .seq ws n ∧ (ws.map reRawOf).map (·.toNat) = code
theorem PatAt.keep {h h' : Heap} {a : Addr} {code : Array Nat} (P : PatAt h a code) (k : Keeps h h') : PatAt h' a code := by
  obtain ⟨o, fs, T, o', ws, n, h1, h2⟩ := P
  exact ⟨o, fs, T, o', ws, n, k _ _ h1, h2.1, h2.2.1, h2.2.2.1, h2.2.2.2.1, h2.2.2.2.2.1, h2.2.2.2.2.2.1, k _ _ h2.2.2.2.2.2.2.1, h2.2.2.2.2.2.2.2⟩
theorem wp_target {pa : Addr} {code : Array Nat} {x : Str} {tx : Tok} {Q : ReTarget → Shared → Prop} (P : PatAt s.heap pa code) (h : Q { pattern := .ref pa, string := .str x tx, code := code, text := x.cps, kind := 0, groups := 0, pos := 0, lim := x.cps.size } s) :
    wpAny M A (reWholeTarget (.ref pa) (.str x tx)) Q E s := by
  obtain ⟨o, fs, T, o', ws, n, h1, h2, h2', h3, h4, h5, h6, h7, h7', h8, h9⟩ := P
  unfold reWholeTarget fieldsOf
  refine wpAny_bind (wpAny_bind (wpAny_load h1 ?_))
  rw [h3]
  refine wpAny_pure ?_
  show wpAny M A (pure (x.cps, 0) >>= _) Q E s
  refine wpAny_bind (wpAny_pure ?_)
  rw [h6]
  show wpAny M A (reRawItems (fs.getD 5 .none) >>= _) Q E s
  rw [h4]
  unfold reRawItems
  refine wpAny_bind (wpAny_bind (wpAny_seqItems h7 h8 (wpAny_pure ?_)))
  refine wpAny_pure ?_
  rw [h5]
  show Q { pattern := .ref pa, string := .str x tx, code := (ws.map reRawOf).map (·.toNat), text := x.cps, kind := 0, groups := 0, pos := 0, lim := x.cps.size } s
  rw [h9]
  exact h
end
end Mine
-- THE LOOP
namespace Mine
noncomputable def sliceN (t : Array Nat) (a b : Nat) : List Nat := (t.extract a b).toList
noncomputable def subJ (p : Nat → Bool) (e : Nat → Nat) (rep : List Nat) (t : Array Nat) : (fuel pos : Nat) → List Nat
  | 0, pos => sliceN t pos t.size
  | f + 1, pos => match findFrom p (t.size - pos) pos with
    | none => sliceN t pos t.size
    | some i => sliceN t pos i ++ rep ++ subJ p e rep t f (e i)
section
variable {M : Model} {A : Around} {E : Value → Shared → Prop} {s : Shared}
theorem wp_literal {rep : Str} {tr : Tok} {Q : Unit → Shared → Prop} (h : Q () s) : wpAny M A (reLiteralCannotBeTurned (.str rep tr)) Q E s := by
  unfold reLiteralCannotBeTurned
  exact wpAny_bind (wpAny_pure (wpAny_pure h))
theorem wp_slice {t : Array Nat} {a b : Nat} {Q : Value → Shared → Prop} (ht : t.size ≤ 10000) (h : Q (.str ⟨t.extract a b⟩ s.toks) { s with toks := s.toks + 1 }) : wpAny M A (reSlice t 0 a b) Q E s := by
  unfold reSlice
  rw [if_pos (by decide)]
  refine wpAny_mkStr h ?_
  show (t.extract a b).size ≤ sizeLine
  rw [Array.size_extract]
  exact Nat.le_trans (m := 10000) (by omega) (by decide)
theorem wp_push {l : Addr} {vs : List Value} {v : Value} {Q : Unit → Shared → Prop} (hl : s.heap.IsList l vs.toArray) (hz : vs.length ≤ 100000)
    (h : ∀ h', h'.IsList l (vs ++ [v]).toArray → (∀ b o, b ≠ l → s.heap.get? b = some o → h'.get? b = some o) → Q () { s with heap := h' }) : wpAny M A (updateSeq l fun x => x.push v) Q E s := by
  obtain ⟨o, ho, hc, n, hd⟩ := hl
  have hz1 : vs.toArray.size ≤ sizeLine := by rw [List.size_toArray]; exact Nat.le_trans hz (by decide)
  refine wpAny_updateSeq (hz := hz1) (_hz' := by rw [Array.size_push]; omega) ho hd (h _ ⟨Obj.mapSeq (fun x => x.push v) o, ?_, ?_⟩ fun b o' hb e => ?_)
  · refine Heap.get?_update_self _ ho ?_
    obtain ⟨c, d, da, sl⟩ := o
    cases hd
    rfl
  · obtain ⟨c, d, da, sl⟩ := o
    cases hd
    subst hc
    exact ⟨rfl, n + 1, by simp [Obj.mapSeq]⟩
  · rw [Heap.get?_update_ne _ _ _ _ hb]; exact e
end
section
variable {prog : Program} {w : World} {A : Around} {E : Value → Shared → Prop} {s : Shared}
theorem wp_join_end {l : Addr} {vs : List Value} {ys : List Str} {t : Array Nat} {tj : Tok} {W : Value → Sem Fin} {F : Fin → Shared → Prop} (hl : s.heap.IsList l vs.toArray) (hv : StrsAre vs ys) (hlen : (ys.flatMap fun y => y.cps.toList).length ≤ 16777216)
    (h : ∀ tt tk, F (.done (.ret (.str ⟨(ys.flatMap fun y => y.cps.toList).toArray⟩ tt))) { s with toks := tk }) :
    wpAny (model prog w) A (do
      let __do_lift ← seqItems? (Value.ref l)
      if (__do_lift.getD #[]).isEmpty = true then do
          let text ← pure (Value.str { cps := t.extract 0 0 } tj)
          if false = true then W text else ret text
        else do
          let text ← call (Value.builtin (if (0 == 0) = true then "str.join" else "bytes.join")) [Value.str { cps := t.extract 0 0 } tj, Value.ref l]
          if false = true then W text else ret text) F E s := by
  have h0 : (⟨t.extract 0 0⟩ : Str) = Str.ofString "" := by simp; rfl
  obtain ⟨o, ho, hc, n, hd⟩ := id hl
  refine wpAny_bind (wpAny_seqItems ho hd ?_)
  dsimp only [Option.getD]
  rw [h0]
  by_cases he : vs.toArray.isEmpty = true
  · rw [if_pos he]
    refine wpAny_bind (wpAny_pure ?_)
    rw [if_neg (by decide)]
    have e1 : vs = [] := by simpa using he
    subst e1
    cases hv
    exact wpAny_pure (h tj s.toks)
  · rw [if_neg he, if_pos (by decide)]
    refine wpAny_bind (join_list hl hv (join_fits rfl hlen) fun t' k => ?_)
    rw [if_neg (by decide), join_empty]
    exact wpAny_pure (h _ _)
end
section
variable {code : Array Nat} {x : Str} {p : Nat → Bool} {e : Nat → Nat} {K : Nat} {pa l : Addr} {tx tr : Tok} {rep : Str}
theorem subJ_none {rp : List Nat} {t : Array Nat} {f pos : Nat} (h : findFrom p (t.size - pos) pos = none) : subJ p e rp t f pos = sliceN t pos t.size := by
  cases f with
  | zero => rfl
  | succ f => unfold subJ; rw [h]
theorem subJ_some {rp : List Nat} {t : Array Nat} {f pos i : Nat} (h : findFrom p (t.size - pos) pos = some i) : subJ p e rp t (f + 1) pos = sliceN t pos i ++ rp ++ subJ p e rp t f (e i) := by
  conv => lhs; unfold subJ
  rw [h]
theorem sliceN_self (t : Array Nat) (a : Nat) : sliceN t a a = [] := by unfold sliceN; simp
theorem flat_snoc (ys : List Str) (z : Str) : ((ys ++ [z]).flatMap fun y => y.cps.toList) = (ys.flatMap fun y => y.cps.toList) ++ z.cps.toList := by simp
theorem PatAt.ext {h h' : Heap} {vs : Array Value} (P : PatAt h pa code) (hl : h.IsList l vs) (k : ∀ b o, b ≠ l → h.get? b = some o → h'.get? b = some o) : PatAt h' pa code := by
  obtain ⟨o, fs, T, o', ws, n, h1, h2, h2', h3, h4, h5, h6, h7, h7', h8, h9⟩ := P
  obtain ⟨ol, hol, hcl, _⟩ := hl
  refine ⟨o, fs, T, o', ws, n, k _ _ (fun q => ?_) h1, h2, h2', h3, h4, h5, h6, k _ _ (fun q => ?_) h7, h7', h8, h9⟩
  · subst q; rw [h1] at hol; cases hol; rw [h2] at hcl; injection hcl with q; exact absurd q (by decide)
  · subst q; rw [h7] at hol; cases hol; rw [h7'] at hcl; injection hcl with q; exact absurd q (by decide)
theorem sub_loop (hK : K ≤ 1000000) (hf : ∀ pos, pos ≤ x.cps.size → ∃ m, Reach K (Sre.forSearch code x.cps 0 pos x.cps.size false) m ∧ Found e (findFrom p (x.cps.size - pos) pos) m)
    (he : ∀ i, i < x.cps.size → p i = true → i < e i ∧ e i ≤ x.cps.size) (hn : x.cps.size ≤ 10000) (f : Nat) :
    ∀ (pos k : Nat) (vs : List Value) (ys : List Str), x.cps.size - pos ≤ f → pos ≤ x.cps.size → Meets (Builtin.«re.Pattern.sub.loop» ⟨[.ref pa, .str x tx, .str rep tr, rawInt 0, rawInt 0, rawInt k, rawInt pos, rawInt pos, .bool false, .ref l, .bool false], []⟩)
      (fun _ R s => PatAt s.heap pa code ∧ s.heap.IsList l vs.toArray ∧ StrsAre vs ys ∧ vs.length + 2 * (x.cps.size - pos) ≤ 100000 ∧ ((ys.flatMap fun y => y.cps.toList) ++ subJ p e rep.cps.toList x.cps f pos).length ≤ 16777216 ∧
        ∀ h' t tk, (∀ b o, b ≠ l → s.heap.get? b = some o → h'.get? b = some o) → R (.ok (.ret (.str ⟨((ys.flatMap fun y => y.cps.toList) ++ subJ p e rep.cps.toList x.cps f pos).toArray⟩ t))) { s with heap := h', toks := tk }) := by
  induction f with
  | zero =>
    intro pos k vs ys hfu hpos prog w A R s ⟨hP, hl, hv, hb, hlen, hR⟩
    refine wpAny_bind (wp_target hP ?_)
    dsimp only
    simp only [Int.toNat_natCast]
    rw [if_pos (by decide)]
    refine wpAny_bind (wp_literal ?_)
    refine wpAny_bind ?_
    rw [if_neg (by simp)]
    obtain ⟨m, hr, hm⟩ := hf pos hpos
    rw [show x.cps.size - pos = 0 by omega] at hm
    refine wp_run hr hK (.inr ⟨hm, ?_⟩)
    dsimp only
    have e1 : subJ p e rep.cps.toList x.cps 0 pos = [] := by
      rw [show subJ p e rep.cps.toList x.cps 0 pos = sliceN x.cps pos x.cps.size from rfl, show pos = x.cps.size by omega, sliceN_self]
    rw [e1, List.append_nil] at hlen
    rw [if_neg (by omega)]
    refine wpAny_bind (wp_slice (by omega) ?_)
    refine wp_join_end hl hv hlen fun tt tk => ?_
    have := hR s.heap tt tk fun _ _ _ e => e
    rw [e1, List.append_nil] at this
    exact this
  | succ f ih =>
    intro pos k vs ys hfu hpos prog w A R s ⟨hP, hl, hv, hb, hlen, hR⟩
    refine wpAny_bind (wp_target hP ?_)
    dsimp only
    simp only [Int.toNat_natCast]
    rw [if_pos (by decide)]
    refine wpAny_bind (wp_literal ?_)
    refine wpAny_bind ?_
    rw [if_neg (by simp)]
    obtain ⟨m, hr, hm⟩ := hf pos hpos
    cases hfd : findFrom p (x.cps.size - pos) pos with
    | none =>
      rw [hfd] at hm
      refine wp_run hr hK (.inr ⟨hm, ?_⟩)
      dsimp only
      have e1 := subJ_none (p := p) (e := e) (rp := rep.cps.toList) (f := f + 1) hfd
      rw [e1] at hlen hR
      by_cases hlt : pos < x.cps.size
      · rw [if_pos hlt]
        refine wpAny_bind (wp_slice (by omega) ?_)
        refine wpAny_bind (wp_push hl (by omega) fun h1 hl1 hk1 => ?_)
        refine wpAny_bind (wp_slice (by omega) ?_)
        refine wp_join_end hl1 (StrsAre.append hv (.cons _ _ .nil)) ?_ fun tt tk => ?_
        · rw [flat_snoc]; exact hlen
        · rw [flat_snoc]; exact hR h1 tt tk hk1
      · rw [if_neg hlt]
        rw [show pos = x.cps.size by omega, sliceN_self, List.append_nil] at hlen hR
        refine wpAny_bind (wp_slice (by omega) ?_)
        refine wp_join_end hl hv hlen fun tt tk => ?_
        exact hR s.heap tt tk fun _ _ _ e => e
    | some i =>
      rw [hfd] at hm
      obtain ⟨m1, m2, m3⟩ := hm
      obtain ⟨q1, q2, q3⟩ := findFrom_lt hfd
      obtain ⟨q4, q5⟩ := he i (by omega) q3
      refine wp_run hr hK (.inl ⟨m1, ?_⟩)
      dsimp only
      rw [m2, m3]
      have hbf : (e i == i) = false := by simp; omega
      rw [hbf]
      rw [subJ_some hfd] at hlen hR
      have again_ : ∀ (vs' : List Value) (ys' : List Str) (s' : Shared), PatAt s'.heap pa code → s'.heap.IsList l vs'.toArray → StrsAre vs' ys' → vs'.length ≤ vs.length + 2 → (ys'.flatMap fun y => y.cps.toList) = (ys.flatMap fun y => y.cps.toList) ++ (sliceN x.cps pos i ++ rep.cps.toList) →
          (∀ b o, b ≠ l → s.heap.get? b = some o → s'.heap.get? b = some o) → (∃ h tk, s' = { s with heap := h, toks := tk }) →
          wpAny (model prog w) A.in1 (again (Code.builtin "re.Pattern.sub.loop" { pos := [Value.ref pa, Value.str x tx, Value.str rep tr, rawInt 0, rawInt 0, rawInt (↑k + 1), rawInt ↑(e i), rawInt ↑(e i), Value.bool false, Value.ref l, Value.bool false] }))
            (fun fin s' => match fin with | .done f => R (.ok f) s' | .again c' => c'.quiet = true ∧ codeAny (model prog w) A c' R s') (fun e s' => R (.error e) s') s' := by
        intro vs' ys' s' hP' hl' hv' hb' hfl hk' ⟨hh, tkk, es⟩
        refine wpAny_pure ⟨plainId_quiet plain_re_loop _, codeAny_builtin entry_re_loop ?_⟩
        rw [Around.under_plainId plain_re_loop _]
        refine ih (e i) (k + 1) vs' ys' (by omega) q5 prog w A R s' ⟨hP', hl', hv', by omega, ?_, ?_⟩
        · rw [hfl]; simpa [List.append_assoc] using hlen
        · intro h'' t'' tk'' hk''
          subst es
          have := hR h'' t'' tk'' fun b o hb e => hk'' b o hb (hk' b o hb e)
          rw [hfl]
          rw [← List.append_assoc] at this
          exact this
      by_cases hlt : pos < i
      · rw [if_pos hlt]
        refine wpAny_bind (wp_slice (by omega) ?_)
        refine wpAny_bind (wp_push hl (by omega) fun h1 hl1 hk1 => ?_)
        rw [if_pos (by decide)]
        refine wpAny_bind (wpAny_pure ?_)
        rw [if_pos (by rfl)]
        refine wpAny_bind (wp_push hl1 (by simp; omega) fun h2 hl2 hk2 => ?_)
        refine again_ _ _ _ ?_ hl2 (StrsAre.append (StrsAre.append hv (.cons _ _ .nil)) (.cons _ _ .nil)) (by simp) ?_ (fun b o hb e => hk2 b o hb (hk1 b o hb e)) ⟨_, _, rfl⟩
        · exact (hP.ext hl hk1).ext hl1 hk2
        · rw [flat_snoc, flat_snoc, List.append_assoc]; rfl
      · rw [if_neg hlt]
        rw [if_pos (by decide)]
        refine wpAny_bind (wpAny_pure ?_)
        rw [if_pos (by rfl)]
        refine wpAny_bind (wp_push hl (by omega) fun h2 hl2 hk2 => ?_)
        refine again_ _ _ _ ?_ hl2 (StrsAre.append hv (.cons _ _ .nil)) (by simp) ?_ hk2 ⟨_, _, rfl⟩
        · exact hP.ext hl hk2
        · rw [flat_snoc, show pos = i by omega, sliceN_self]; rfl
end
end Mine
-- THE SUB
namespace Mine
theorem named_sub (a b : Value) : reNamed "re.Pattern.sub" "sub" ["repl", "string", "count"] 2 [a, b] [] = pure [some a, some b, none] := rfl
theorem plainAttrs_re : PlainAttrs "re.Pattern" :=
  ⟨⟨"object.__getattribute__", by rw [typeLookup_type, builtinLookup_eq_fast]; kernel_rfl, by decide +kernel⟩, by rw [typeLookup_type, builtinLookup_eq_fast]; kernel_rfl⟩
theorem lk_str_call : typeLookup (.type "str") "__call__" = pure none := by rw [typeLookup_type, builtinLookup_eq_fast]; kernel_rfl
section
variable {code : Array Nat} {x : Str} {p : Nat → Bool} {e : Nat → Nat} {K : Nat} {pa : Addr} {tx tr : Tok} {rep : Str}
theorem sub_body (hK : K ≤ 1000000) (hf : ∀ pos, pos ≤ x.cps.size → ∃ m, Reach K (Sre.forSearch code x.cps 0 pos x.cps.size false) m ∧ Found e (findFrom p (x.cps.size - pos) pos) m)
    (he : ∀ i, i < x.cps.size → p i = true → i < e i ∧ e i ≤ x.cps.size) (hn : x.cps.size ≤ 10000) (hrep : rep.cps.contains 92 = false) (hlen : (subJ p e rep.cps.toList x.cps x.cps.size 0).length ≤ 16777216) :
    Meets (Builtin.«re.Pattern.sub» ⟨[.ref pa, .str rep tr, .str x tx], []⟩)
      (fun _ R s => PatAt s.heap pa code ∧ ∀ h' t tk, Keeps s.heap h' → R (.ok (.ret (.str ⟨(subJ p e rep.cps.toList x.cps x.cps.size 0).toArray⟩ t))) { s with heap := h', toks := tk }) := by
  intro prog w A R s ⟨hP, hR⟩
  show wpAny _ _ (reNamed "re.Pattern.sub" "sub" ["repl", "string", "count"] 2 [.str rep tr, .str x tx] [] >>= _) _ _ s
  rw [named_sub]
  refine wpAny_bind (wpAny_pure ?_)
  dsimp only
  refine wpAny_bind (wpAny_pure ?_)
  refine wpAny_bind (wpAny_specialOf (typeIs_str _ _ _) lk_str_call ?_)
  dsimp only [Option.isSome]
  rw [if_neg (by decide)]
  refine wpAny_bind (wpAny_pure ?_)
  dsimp only
  refine wpAny_bind (wpAny_pure ?_)
  rw [if_neg (by decide), hrep, if_pos (by decide)]
  refine wpAny_bind (wpAny_pure ?_)
  refine wpAny_bind (wp_target hP ?_)
  dsimp only
  rw [if_neg (by decide)]
  refine wpAny_bind (wpAny_newList (hsz := by decide) ?_)
  refine wpAny_pure ⟨plainId_quiet plain_re_loop _, codeAny_builtin entry_re_loop ?_⟩
  rw [Around.under_plainId plain_re_loop _]
  have hk : ∀ b o, s.heap.get? b = some o → (s.heap.push { cls := .type "list", data := .seq ([] : List Value).toArray }).get? b = some o := fun b o e => Heap.get?_push_of_some _ e
  refine sub_loop hK hf he hn x.cps.size 0 0 [] [] (by omega) (by omega) prog w A R _ ⟨hP.keep hk, ⟨_, Heap.get?_push_size _ rfl, rfl, 0, rfl⟩, .nil, by simp; omega, hlen, ?_⟩
  intro h' t tk hk'
  exact hR h' t tk fun b o e => hk' b o (Nat.ne_of_lt (Heap.lt_size e)) (hk b o e)
variable {prog : Program} {w : World} {A : Around} {E : Value → Shared → Prop} {s : Shared} {Q : Value → Shared → Prop}
theorem call_sub (P : PatAt s.heap pa code) (hK : K ≤ 1000000) (hf : ∀ pos, pos ≤ x.cps.size → ∃ m, Reach K (Sre.forSearch code x.cps 0 pos x.cps.size false) m ∧ Found e (findFrom p (x.cps.size - pos) pos) m)
    (he : ∀ i, i < x.cps.size → p i = true → i < e i ∧ e i ≤ x.cps.size) (hn : x.cps.size ≤ 10000) (hrep : rep.cps.contains 92 = false) (hlen : (subJ p e rep.cps.toList x.cps x.cps.size 0).length ≤ 16777216)
    (h : ∀ h' t tk, Keeps s.heap h' → Q (.str ⟨(subJ p e rep.cps.toList x.cps x.cps.size 0).toArray⟩ t) { s with heap := h', toks := tk }) :
    wpAny (model prog w) A (call (.builtin "re.Pattern.sub") [.ref pa, .str rep tr, .str x tx]) Q E s := by
  obtain ⟨o, fs, T, o', ws, n, h1, h2, h3⟩ := id P
  exact call_meets slot_re_sub ⟨o, h1, h2⟩ entry_re_sub (args_re_sub _ _ _) (sub_body hK hf he hn hrep hlen) ⟨P, fun h' t tk k => h h' t tk k⟩
end
section
variable {prog : Program} {w : World} {A : Around} {E : Value → Shared → Prop} {s : Shared}
theorem method_sub {pa : Addr} {code : Array Nat} {pl : Sem Bool} {Q : Value × List Value → Shared → Prop} (P : PatAt s.heap pa code) (h : Q (.builtin "re.Pattern.sub", [.ref pa]) s) : wpAny (model prog w) A (getMethod (.ref pa) "sub" pl) Q E s := by
  obtain ⟨o, fs, T, o', ws, n, h1, h2, h2', h3⟩ := id P
  exact getMethod_builtin ⟨o, h1, h2⟩ plainAttrs_re slot_re_sub type_re_sub (fun b e => by injection e with e; subst e; exact ⟨o, h1, h2'⟩) h
end
end Mine
end
-- part MQuote
section
open PySem PySem.W PyProof.Rows PySem.Calls PySem.Spec
set_option maxRecDepth 100000
set_option maxHeartbeats 0
set_option linter.unusedVariables false
namespace Mine
noncomputable def crlfL : List Nat → List Nat
  | [] => []
  | [c] => if c = 10 ∨ c = 13 then [13, 10] else [c]
  | c :: d :: r => if c = 13 ∧ d = 10 then 13 :: 10 :: crlfL r else if c = 10 ∨ c = 13 then 13 :: 10 :: crlfL (d :: r) else c :: crlfL (d :: r)
noncomputable def dotsL : Bool → List Nat → List Nat
  | _, [] => []
  | b, c :: r => if b = true ∧ c = 46 then 46 :: 46 :: dotsL false r else c :: dotsL (c == 10) r
theorem findFrom_no {p : Nat → Bool} {k s : Nat} (h : p s = false) : findFrom p (k + 1) s = findFrom p k (s + 1) := by
  conv => lhs; unfold findFrom
  rw [h, if_neg (by decide)]
theorem findFrom_yes {p : Nat → Bool} {k s : Nat} (h : p s = true) : findFrom p (k + 1) s = some s := by
  conv => lhs; unfold findFrom
  rw [h, if_pos rfl]
section
variable {p : Nat → Bool} {e : Nat → Nat} {rep : List Nat} {t : Array Nat}
theorem sliceN_cons {a b : Nat} (h : a < b) (hb : b ≤ t.size) : sliceN t a b = t.getD a 0 :: sliceN t (a + 1) b := by
  unfold sliceN
  rw [Array.toList_extract, Array.toList_extract]
  simp only [List.extract_eq_take_drop]
  have ha : a < t.toList.length := by simp; omega
  rw [List.drop_eq_getElem_cons ha, show b - a = (b - (a + 1)) + 1 by omega, List.take_succ_cons]
  congr 1
  simp [Array.getD, show a < t.size by omega]
theorem subJ_end {f pos : Nat} (h : t.size ≤ pos) : subJ p e rep t f pos = [] := by
  have h1 : findFrom p (t.size - pos) pos = none := by rw [show t.size - pos = 0 by omega]; rfl
  rw [subJ_none h1]
  unfold sliceN
  rw [Array.toList_extract, List.extract_eq_take_drop, List.drop_eq_nil_of_le (by simpa using h)]
  simp
theorem subJ_no {f pos : Nat} (h : pos < t.size) (hp : p pos = false) (hf : t.size - pos ≤ f) : subJ p e rep t f pos = t.getD pos 0 :: subJ p e rep t f (pos + 1) := by
  have h1 : findFrom p (t.size - pos) pos = findFrom p (t.size - (pos + 1)) (pos + 1) := by
    rw [show t.size - pos = (t.size - (pos + 1)) + 1 by omega, findFrom_no hp]
  cases h2 : findFrom p (t.size - (pos + 1)) (pos + 1) with
  | none => rw [subJ_none (h1.trans h2), subJ_none h2, sliceN_cons h (Nat.le_refl _)]
  | some i =>
    obtain ⟨a, b, _⟩ := findFrom_lt h2
    cases f with
    | zero => omega
    | succ f => rw [subJ_some (h1.trans h2), subJ_some h2, sliceN_cons (by omega) (by omega)]; rfl
theorem subJ_yes {f pos : Nat} (h : pos < t.size) (hp : p pos = true) : subJ p e rep t (f + 1) pos = rep ++ subJ p e rep t f (e pos) := by
  have h1 : findFrom p (t.size - pos) pos = some pos := by
    rw [show t.size - pos = (t.size - (pos + 1)) + 1 by omega, findFrom_yes hp]
  rw [subJ_some h1, sliceN_self]
  rfl
theorem drop_cons {pos : Nat} (h : pos < t.size) : t.toList.drop pos = t.getD pos 0 :: t.toList.drop (pos + 1) := by
  rw [List.drop_eq_getElem_cons (by simpa using h)]
  simp [Array.getD, h]
end
theorem sub_crlf (t : Array Nat) : ∀ (k f pos : Nat), t.size - pos ≤ k → t.size - pos ≤ f → subJ (p2 t) (e2 t t.size) [13, 10] t f pos = crlfL (t.toList.drop pos)
  | k, f, pos, hk, hf => by
    by_cases h : pos < t.size
    · cases k with
      | zero => omega
      | succ k =>
        cases f with
        | zero => omega
        | succ f =>
        by_cases hp : p2 t pos = true
        · rw [subJ_yes h hp, drop_cons h]
          have hc : t.getD pos 0 = 10 ∨ t.getD pos 0 = 13 := by unfold p2 at hp; simpa using hp
          by_cases h2 : t.getD pos 0 = 13 ∧ pos + 1 < t.size ∧ t.getD (pos + 1) 0 = 10
          · rw [show e2 t t.size pos = pos + 2 by unfold e2; rw [if_pos h2], sub_crlf t k f (pos + 2) (by omega) (by omega), drop_cons h2.2.1]
            conv => rhs; unfold crlfL
            rw [if_pos ⟨h2.1, h2.2.2⟩]
            rfl
          · rw [show e2 t t.size pos = pos + 1 by unfold e2; rw [if_neg h2], sub_crlf t k f (pos + 1) (by omega) (by omega)]
            by_cases h3 : pos + 1 < t.size
            · rw [drop_cons h3]
              conv => rhs; unfold crlfL
              rw [if_neg fun q => h2 ⟨q.1, h3, q.2⟩, if_pos hc]
              rfl
            · rw [List.drop_eq_nil_of_le (by simp; omega)]
              unfold crlfL
              rw [if_pos hc]
              rfl
        · rw [Bool.not_eq_true] at hp
          rw [subJ_no h hp hf, sub_crlf t k (f + 1) (pos + 1) (by omega) (by omega), drop_cons h]
          have hc : ¬ (t.getD pos 0 = 10 ∨ t.getD pos 0 = 13) := by unfold p2 at hp; simpa using hp
          by_cases h3 : pos + 1 < t.size
          · rw [drop_cons h3]
            conv => rhs; unfold crlfL
            rw [if_neg fun q => hc (.inr q.1), if_neg hc]
          · rw [List.drop_eq_nil_of_le (by simp; omega)]
            conv => rhs; unfold crlfL
            rw [if_neg hc]
            rfl
    · rw [subJ_end (by omega), List.drop_eq_nil_of_le (by simp; omega)]
      rfl
theorem sub_dots (t : Array Nat) : ∀ (k f pos : Nat), t.size - pos ≤ k → t.size - pos ≤ f → subJ (p1 t) (· + 1) [46, 46] t f pos = dotsL (pos == 0 || t.getD (pos - 1) 0 == 10) (t.toList.drop pos)
  | k, f, pos, hk, hf => by
    by_cases h : pos < t.size
    · cases k with
      | zero => omega
      | succ k =>
        cases f with
        | zero => omega
        | succ f =>
        by_cases hp : p1 t pos = true
        · rw [subJ_yes h hp, drop_cons h, sub_dots t k f (pos + 1) (by omega) (by omega)]
          unfold p1 at hp
          rw [Bool.and_eq_true] at hp
          have h46 : t.getD pos 0 = 46 := by simpa using hp.2
          conv => rhs; unfold dotsL
          rw [if_pos ⟨hp.1, h46⟩, show (pos + 1 == 0 || t.getD (pos + 1 - 1) 0 == 10) = false by rw [Nat.add_sub_cancel, h46]; simp]
          rfl
        · have hq : ¬ ((pos == 0 || t.getD (pos - 1) 0 == 10) = true ∧ t.getD pos 0 = 46) := fun q => hp (by unfold p1; rw [Bool.and_eq_true]; exact ⟨q.1, by simpa using q.2⟩)
          rw [Bool.not_eq_true] at hp
          rw [subJ_no h hp hf, sub_dots t k (f + 1) (pos + 1) (by omega) (by omega), drop_cons h]
          conv => rhs; unfold dotsL
          rw [if_neg hq, Nat.add_sub_cancel, show (pos + 1 == 0 || t.getD pos 0 == 10) = (t.getD pos 0 == 10) by simp]
    · rw [subJ_end (by omega), List.drop_eq_nil_of_le (by simp; omega)]
      rfl
theorem crlfL_len : ∀ l : List Nat, (crlfL l).length ≤ 2 * l.length
  | [] => by simp [crlfL]
  | [c] => by unfold crlfL; split <;> simp
  | c :: d :: r => by
    have h1 := crlfL_len r
    have h2 := crlfL_len (d :: r)
    unfold crlfL
    split
    · simp only [List.length_cons] at *; omega
    · split
      · simp only [List.length_cons] at *; omega
      · simp only [List.length_cons] at *; omega
theorem dotsL_len : ∀ (l : List Nat) (b : Bool), (dotsL b l).length ≤ 2 * l.length
  | [], b => by simp [dotsL]
  | c :: r, b => by
    have h1 := dotsL_len r false
    have h2 := dotsL_len r (c == 10)
    unfold dotsL
    split
    · simp only [List.length_cons] at *; omega
    · simp only [List.length_cons] at *; omega
noncomputable def quoteL (l : List Nat) : List Nat := dotsL true (crlfL l)
end Mine
end
-- part MDeed
section
open PySem PySem.W PyProof.Rows PySem.Calls PySem.Spec
set_option maxRecDepth 100000
set_option maxHeartbeats 0
set_option linter.unusedVariables false
namespace Mine
structure Deed where
  kind : Int
  veil : List Nat
  typed : List Nat
  folded : List Nat
  fin : List Nat
noncomputable abbrev strOf (l : List Nat) : Str := ⟨l.toArray⟩
noncomputable def DeedAt (h : Heap) (v : Value) (d : Deed) : Prop :=
  ∃ a t0 t1 t2 t3 t4, v = .ref a ∧ IsTup h a #[.int d.kind t0, .str (strOf d.veil) t1, .str (strOf d.typed) t2, .str (strOf d.folded) t3, .str (strOf d.fin) t4]
inductive DeedsAre (h : Heap) : List Value → List Deed → Prop
  | nil : DeedsAre h [] []
  | cons {v d vs ds} : DeedAt h v d → DeedsAre h vs ds → DeedsAre h (v :: vs) (d :: ds)
theorem IsTup.keepK {h h' : Heap} {a : Addr} {its : Array Value} (T : IsTup h a its) (k : Keeps h h') : IsTup h' a its := by
  obtain ⟨o, ho, r⟩ := T
  exact ⟨o, k _ _ ho, r⟩
theorem DeedAt.keep {h h' : Heap} {v : Value} {d : Deed} (D : DeedAt h v d) (k : Keeps h h') : DeedAt h' v d := by
  obtain ⟨a, t0, t1, t2, t3, t4, e, T⟩ := D
  exact ⟨a, t0, t1, t2, t3, t4, e, IsTup.keepK T k⟩
theorem DeedsAre.keep {h h' : Heap} {vs : List Value} {ds : List Deed} (D : DeedsAre h vs ds) (k : Keeps h h') : DeedsAre h' vs ds := by
  induction D with
  | nil => exact .nil
  | cons a _ ih => exact .cons (DeedAt.keep a k) ih
theorem DeedsAre.len {h : Heap} {vs : List Value} {ds : List Deed} (D : DeedsAre h vs ds) : vs.length = ds.length := by
  induction D with
  | nil => rfl
  | cons _ _ ih => simp [ih]
theorem DeedsAre.get {h : Heap} {vs : List Value} {ds : List Deed} (D : DeedsAre h vs ds) : ∀ {i : Nat} {v : Value}, vs[i]? = some v → ∃ d, ds[i]? = some d ∧ DeedAt h v d := by
  induction D with
  | nil => intro i v e; cases e
  | cons a _ ih =>
    intro i v e
    cases i with
    | zero => cases e; exact ⟨_, rfl, a⟩
    | succ i => exact ih e
noncomputable def mailStep (m : List Nat) (d : Deed) : List Nat :=
  if d.kind = 2 then quoteL m else if d.kind = 3 then prepN m else m ++ (if m ≠ [] then d.fin else []) ++ (if d.kind = 1 then d.veil else []) ++ [46] ++ d.typed
noncomputable def mailF (ds : List Deed) : List Nat := ds.foldl mailStep []
theorem mailF_take {ds : List Deed} {i : Nat} {d : Deed} (h : ds[i]? = some d) : mailF (ds.take (i + 1)) = mailStep (mailF (ds.take i)) d := by
  rw [List.take_add_one, h]
  unfold mailF
  rw [List.foldl_append]
  rfl
end Mine
end
-- part MRook
section
open PySem PySem.W PyProof.Rows PySem.Calls PySem.Spec
set_option maxRecDepth 100000
set_option maxHeartbeats 0
set_option linter.unusedVariables false
namespace Mine
inductive KVs : List (Int × Value) → List (Int × Int) → Prop
  | nil : KVs [] []
  | cons (k v : Int) (t : Tok) {kvs W} : KVs kvs W → KVs ((k, .int v t) :: kvs) ((k, v) :: W)
noncomputable def getZ (W : List (Int × Int)) (k : Int) : Option Int := (W.find? fun p => p.1 = k).map (·.2)
noncomputable def setZ (W : List (Int × Int)) (k v : Int) : List (Int × Int) := if W.any (fun p => p.1 = k) then W.map (fun p => if p.1 = k then (p.1, v) else p) else W ++ [(k, v)]
theorem KVs.value {kvs : List (Int × Value)} {W : List (Int × Int)} (h : KVs kvs W) (k : Int) : (valueAt kvs k = none ∧ getZ W k = none) ∨ ∃ v t, valueAt kvs k = some (.int v t) ∧ getZ W k = some v := by
  induction h with
  | nil => exact .inl ⟨rfl, rfl⟩
  | cons j v t _ ih =>
    unfold valueAt getZ
    by_cases e : j = k
    · subst e
      exact .inr ⟨v, t, by simp, by simp⟩
    · simp only [List.find?_cons, e, decide_false]
      exact ih
theorem KVs.anyKey {kvs : List (Int × Value)} {W : List (Int × Int)} (h : KVs kvs W) (k : Int) : kvs.any (fun kv => kv.1 = k) = W.any (fun p => p.1 = k) := by
  induction h with
  | nil => rfl
  | cons j v t _ ih => simp [ih]
theorem KVs.append {a b : List (Int × Value)} {x y : List (Int × Int)} (h : KVs a x) (g : KVs b y) : KVs (a ++ b) (x ++ y) := by
  induction h with
  | nil => exact g
  | cons j v t _ ih => exact .cons j v t ih
theorem KVs.replace {kvs : List (Int × Value)} {W : List (Int × Int)} (h : KVs kvs W) (k v : Int) (t : Tok) : KVs (kvs.map fun kv => if kv.1 = k then (kv.1, .int v t) else kv) (W.map fun p => if p.1 = k then (p.1, v) else p) := by
  induction h with
  | nil => exact .nil
  | cons j u t' _ ih =>
    rw [List.map_cons, List.map_cons]
    by_cases e : j = k
    · simp only [e, if_true]
      exact .cons k v t ih
    · simp only [e, if_false]
      exact .cons j u t' ih
theorem KVs.stored {kvs : List (Int × Value)} {W : List (Int × Int)} (h : KVs kvs W) (k v : Int) (t : Tok) : KVs (PySem.stored kvs k (.int v t)) (setZ W k v) := by
  unfold PySem.stored setZ
  rw [h.anyKey k]
  split
  · exact h.replace k v t
  · exact h.append (.cons k v t .nil)
theorem KVs.keys {kvs : List (Int × Value)} {W : List (Int × Int)} (h : KVs kvs W) : kvs.map (·.1) = W.map (·.1) := by
  induction h with
  | nil => rfl
  | cons j v t _ ih => simp [ih]
theorem KVs.get {kvs : List (Int × Value)} {W : List (Int × Int)} (h : KVs kvs W) : ∀ {i : Nat} {k : Int} {x : Value}, kvs[i]? = some (k, x) → ∃ v t, x = .int v t ∧ W[i]? = some (k, v) := by
  induction h with
  | nil => intro i k x e; cases e
  | cons j v t _ ih =>
    intro i k x e
    cases i with
    | zero => cases e; exact ⟨v, t, rfl, rfl⟩
    | succ i => exact ih e
theorem KVs.len {kvs : List (Int × Value)} {W : List (Int × Int)} (h : KVs kvs W) : kvs.length = W.length := by
  induction h with
  | nil => rfl
  | cons j v t _ ih => simp [ih]
end Mine
end
-- part MRook2
section
open PySem PySem.W PyProof.Rows PySem.Calls PySem.Spec
set_option maxRecDepth 100000
set_option maxHeartbeats 0
set_option linter.unusedVariables false
namespace Mine
noncomputable def KeysIn (W : List (Int × Int)) : Prop := ∀ p ∈ W, 0 ≤ p.1 ∧ p.1 < 512
theorem pigeon : ∀ (n : Nat) (l : List Int), l.Nodup → (∀ x ∈ l, 0 ≤ x ∧ x < n) → l.length ≤ n
  | 0, l, _, h => by
    cases l with
    | nil => exact Nat.le_refl _
    | cons a r => have := h a (.head _); omega
  | n + 1, l, hn, h => by
    have h1 : (l.filter fun x => decide (x ≠ (n : Int))).length ≤ n := by
      refine pigeon n _ (hn.filter _) fun x hx => ?_
      rw [List.mem_filter] at hx
      have h2 := h x hx.1
      have h3 : x ≠ (n : Int) := of_decide_eq_true hx.2
      omega
    have h2 : l.length ≤ (l.filter fun x => decide (x ≠ (n : Int))).length + 1 := by
      clear h1 h
      induction l with
      | nil => simp
      | cons a r ih =>
        rw [List.nodup_cons] at hn
        by_cases e : a = (n : Int)
        · subst e
          have hr : r.filter (fun x => decide (x ≠ (n : Int))) = r := List.filter_eq_self.mpr fun x hx => decide_eq_true fun q => hn.1 (q ▸ hx)
          rw [List.filter_cons_of_neg (by simp), hr]
          simp
        · rw [List.filter_cons_of_pos (by simpa using e), List.length_cons, List.length_cons]
          have := ih hn.2
          omega
    omega
theorem keys_len {W : List (Int × Int)} (h : KeysIn W) (hn : (W.map (·.1)).Nodup) : W.length ≤ 512 := by
  have := pigeon 512 (W.map (·.1)) hn fun x hx => by
    obtain ⟨p, hp, rfl⟩ := List.mem_map.mp hx
    exact h p hp
  rwa [List.length_map] at this
theorem set_keys {W : List (Int × Int)} {k v : Int} (h : KeysIn W) (hk : 0 ≤ k ∧ k < 512) : KeysIn (setZ W k v) := by
  intro p hp
  unfold setZ at hp
  split at hp
  · obtain ⟨q, hq, rfl⟩ := List.mem_map.mp hp
    have := h q hq
    split <;> exact this
  · rcases List.mem_append.mp hp with hp | hp
    · exact h p hp
    · rw [List.mem_singleton.mp hp]; exact hk
noncomputable def colStep (W : List (Int × Int)) (t v : Int) (c : Nat) : List (Int × Int) := if Builtin.bitAnd (t.fdiv (2 ^ c)) 1 = 0 then setZ W (t + 2 ^ c) ((getZ W (t + 2 ^ c)).getD 0 + v) else W
theorem bit_room : ∀ n < 512, ∀ c < 9, Builtin.bitAnd (((n : Nat) : Int).fdiv (2 ^ c)) 1 = 0 → ((n : Nat) : Int) + 2 ^ c < 512 := by decide +kernel
theorem col_keys {W : List (Int × Int)} {t v : Int} {c : Nat} (h : KeysIn W) (h0 : 0 ≤ t) (h1 : t < 512) (hc : c < 9) : KeysIn (colStep W t v c) := by
  unfold colStep
  split
  · rename_i hb
    refine set_keys h ⟨?_, ?_⟩
    · have : (0 : Int) ≤ 2 ^ c := Int.pow_nonneg (by decide)
      omega
    · have e : t = ((t.toNat : Nat) : Int) := by omega
      rw [e] at hb ⊢
      exact bit_room t.toNat (by omega) c hc hb
  · exact h
noncomputable def colsF (W : List (Int × Int)) (t v : Int) (n : Nat) : List (Int × Int) := (List.range n).foldl (fun W c => colStep W t v c) W
theorem cols_succ (W : List (Int × Int)) (t v : Int) (n : Nat) : colsF W t v (n + 1) = colStep (colsF W t v n) t v n := by
  unfold colsF
  rw [List.range_succ, List.foldl_append]
  rfl
theorem cols_keys {W : List (Int × Int)} {t v : Int} (h : KeysIn W) (h0 : 0 ≤ t) (h1 : t < 512) : ∀ n, n ≤ 9 → KeysIn (colsF W t v n)
  | 0, _ => h
  | n + 1, hn => by rw [cols_succ]; exact col_keys (cols_keys h h0 h1 n (by omega)) h0 h1 (by omega)
noncomputable def takenF (W : List (Int × Int)) (n : Nat) (i : Nat) : List (Int × Int) := (W.take i).foldl (fun F p => colsF F p.1 p.2 n) W
theorem taken_succ {W : List (Int × Int)} {n i : Nat} {k v : Int} (h : W[i]? = some (k, v)) : takenF W n (i + 1) = colsF (takenF W n i) k v n := by
  unfold takenF
  rw [List.take_add_one, h, List.foldl_append]
  rfl
theorem taken_keys {W : List (Int × Int)} {n : Nat} (h : KeysIn W) (hn : n ≤ 9) : ∀ i, KeysIn (takenF W n i)
  | 0 => h
  | i + 1 => by
    cases e : W[i]? with
    | none =>
      have : W.take (i + 1) = W.take i := by rw [List.take_add_one, e]; simp
      unfold takenF
      rw [this]
      exact taken_keys h hn i
    | some p =>
      obtain ⟨k, v⟩ := p
      rw [taken_succ e]
      have := h _ (List.mem_of_getElem? e)
      exact cols_keys (taken_keys h hn i) this.1 this.2 n hn
noncomputable def placeF (W : List (Int × Int)) (n : Int) : List (Int × Int) := takenF W n.toNat W.length
noncomputable def waysF (ps : List Int) : List (Int × Int) := ps.foldl placeF [(0, 1)]
theorem ways_take {ps : List Int} {i : Nat} {n : Int} (h : ps[i]? = some n) : waysF (ps.take (i + 1)) = placeF (waysF (ps.take i)) n := by
  unfold waysF
  rw [List.take_add_one, h, List.foldl_append]
  rfl
theorem ways_keys (ps : List Int) (h : ∀ n ∈ ps, n ≤ 9) : KeysIn (waysF ps) := by
  unfold waysF
  suffices ∀ W, KeysIn W → KeysIn (ps.foldl placeF W) from this _ fun p hp => by rw [List.mem_singleton.mp hp]; exact ⟨by decide, by decide⟩
  induction ps with
  | nil => exact fun W hW => hW
  | cons n r ih =>
    intro W hW
    refine ih (fun k hk => h k (.tail _ hk)) _ (taken_keys hW ?_ _)
    have := h n (.head _)
    omega
end Mine
end
-- part WQuote
section
open PySem PySem.W PyProof.Rows PySem.Calls PySem.Spec
set_option maxRecDepth 100000
set_option maxHeartbeats 0
set_option linter.unusedVariables false
namespace Mine
theorem pat1 {P : Params} {h : Heap} (X : (Kf P).In h) : PatAt h 36 code1 :=
  ⟨o_36_12 P, _, 35, o_35_12 P, _, _, X 36 _ rfl, rfl, rfl, rfl, rfl, rfl, rfl, X 35 _ rfl, rfl, rfl, by simp [code1, code2, Builtin.Re.reRawOf]⟩
theorem pat2 {P : Params} {h : Heap} (X : (Kf P).In h) : PatAt h 41 code2 :=
  ⟨o_41_12 P, _, 40, o_40_12 P, _, _, X 41 _ rfl, rfl, rfl, rfl, rfl, rfl, rfl, X 40 _ rfl, rfl, rfl, by simp [code1, code2, Builtin.Re.reRawOf]⟩
theorem e2_range {t : Array Nat} {i n : Nat} (h : i < n) : i < e2 t n i ∧ e2 t n i ≤ n := by
  unfold e2
  by_cases q : t.getD i 0 = 13 ∧ i + 1 < n ∧ t.getD (i + 1) 0 = 10
  · rw [if_pos q]; omega
  · rw [if_neg q]; omega
section
variable {prog : Program} {w : World} {A : Around} {E : Value → Shared → Prop} {s : Shared} {Q : Value → Shared → Prop} {x : Str} {tx tr : Tok} {P : Params} {h₀ : Heap} {L : Addr} {m : Str → Option Value} {news : List (Addr × Obj)}
theorem sub_crlfK (X : (Kf P).In h₀) (F : Fr h₀ L s.heap m) (N : News h₀ L s.heap news) (hx : x.cps.size ≤ 4000) (h : ∀ h' t tk, Fr h₀ L h' m → News h₀ L h' news → Q (.str ⟨(crlfL x.cps.toList).toArray⟩ t) { s with heap := h', toks := tk }) :
    wpAny (model prog w) A (call (.builtin "re.Pattern.sub") [.ref 41, .str ⟨#[13, 10]⟩ tr, .str x tx]) Q E s := by
  have e := sub_crlf x.cps x.cps.size x.cps.size 0 (by omega) (by omega)
  rw [List.drop_zero] at e
  have hl := crlfL_len x.cps.toList
  have hs : x.cps.toList.length = x.cps.size := Array.length_toList
  refine call_sub (p := p2 x.cps) (e := e2 x.cps x.cps.size) (K := 21) (pat2 (X.keeps F.keep)) (by omega) (fun pos hp => found2 pos hp) (fun i hi hp => ?_) (by omega) (by decide +kernel) ?_ fun h' t tk k => ?_
  · exact e2_range hi
  · show (subJ (p2 x.cps) (e2 x.cps x.cps.size) [13, 10] x.cps x.cps.size 0).length ≤ _
    rw [e]; omega
  · show Q (.str ⟨(subJ (p2 x.cps) (e2 x.cps x.cps.size) [13, 10] x.cps x.cps.size 0).toArray⟩ t) _
    rw [e]
    exact h h' t tk (Fr.keepsAll F k) (News.keepsAll N k)
theorem sub_dotsK (X : (Kf P).In h₀) (F : Fr h₀ L s.heap m) (N : News h₀ L s.heap news) (hx : x.cps.size ≤ 8000) (h : ∀ h' t tk, Fr h₀ L h' m → News h₀ L h' news → Q (.str ⟨(dotsL true x.cps.toList).toArray⟩ t) { s with heap := h', toks := tk }) :
    wpAny (model prog w) A (call (.builtin "re.Pattern.sub") [.ref 36, .str ⟨#[46, 46]⟩ tr, .str x tx]) Q E s := by
  have e := sub_dots x.cps x.cps.size x.cps.size 0 (by omega) (by omega)
  rw [List.drop_zero] at e
  have hl := dotsL_len x.cps.toList true
  have hs : x.cps.toList.length = x.cps.size := Array.length_toList
  refine call_sub (p := p1 x.cps) (e := (· + 1)) (K := 5 * (x.cps.size + 1) + 5) (pat1 (X.keeps F.keep)) (by omega) (fun pos hp => ?_) (fun i hi hp => by omega) (by omega) (by decide +kernel) ?_ fun h' t tk k => ?_
  · obtain ⟨m', r, f⟩ := found1 (t := x.cps) pos hp
    exact ⟨m', r.trans (Reach.refl _) (b := 0) (by omega), f⟩
  · show (subJ (p1 x.cps) (· + 1) [46, 46] x.cps x.cps.size 0).length ≤ _
    rw [e]
    exact Nat.le_trans hl (by omega)
  · show Q (.str ⟨(subJ (p1 x.cps) (· + 1) [46, 46] x.cps x.cps.size 0).toArray⟩ t) _
    rw [e]
    exact h h' t tk (Fr.keepsAll F k) (News.keepsAll N k)
end
theorem quote_does (w : World) (x : Str) (tx : Tok) (hx : x.cps.size ≤ 4000) : Does w 48 5 60 [.str x tx] (fun _ => True) (fun h r h' => ∃ t, r = .str ⟨(quoteL x.cps.toList).toArray⟩ t) := by
  constructor
  k_fill
  intro p loose mean mg mb dp un fr gd s Q X T hd hu hp hret
  refine' enterF (binds := [(Str.ofString "data", .str x tx)]) ?k1 ?k2 ?k3 ?k4 ?k5 ?k6 ?k7 ?_ ?c1 ?c2 ?c3 ?c4
  case k1 => exact X
  case k2 => exact T
  case k3 => k_is
  case k4 => k_is
  case k5 => (show dp < recursionLimit; first | exact Nat.lt_of_le_of_lt (Nat.le_add_right _ _) hd | omega)
  case k6 => exact BindsTo.of_eq rfl
  case k7 => exact locs rfl
  case c1 => rfl
  case c2 => rfl
  case c3 => rfl
  case c4 => decide
  intro L h tk F N
  conv in fBody _ => whnf
  have hc : (⟨(crlfL x.cps.toList).toArray⟩ : Str).cps.size ≤ 8000 := by
    have := crlfL_len x.cps.toList
    have hs : x.cps.toList.length = x.cps.size := Array.length_toList
    show (crlfL x.cps.toList).toArray.size ≤ _
    rw [List.size_toArray]
    omega
  k_with_none
  k_with "getMethod ref" => (k_dflt ((with_reducible rename Fr _ _ _ _ => F8); (first | refine' method_sub (pat1 (X.keeps F8.keep)) ?_ | refine' method_sub (pat2 (X.keeps F8.keep)) ?_)))
  k_with "call builtin:re.Pattern.sub" => (k_dflt (first | refine' sub_crlfK X (by k_asm) (by k_asm) hx ?_ | refine' sub_dotsK X (by k_asm) (by k_asm) hc ?_); intro h9 t9 tk9 F9 N9)
  k_steps
  with_reducible rename Fr _ _ _ _ => F7
  exact hret _ _ _ F7.keep ⟨_, rfl⟩
end Mine
end
-- part WMail
section
open PySem PySem.W PyProof.Rows PySem.Calls PySem.Spec
set_option maxRecDepth 100000
set_option maxHeartbeats 0
set_option linter.unusedVariables false
namespace Mine
local macro_rules | `(tactic| walk_at "PAD") => `(tactic| fail "pad")
noncomputable def MJ (ds : List Deed) (i : Nat) (m : Str → Option Value) (nx : List (Addr × Obj)) : Prop := nx = [] ∧ ∃ t, m (Str.ofString "mail") = some (.str (strOf (mailF (ds.take i))) t)
theorem at_name {m : Str → Option Value} {n : Str} {v : Value} (h : m n = some v) : m = fun y => if y = n then some v else m y := by
  funext y
  by_cases e : y = n
  · rw [if_pos e, e, h]
  · rw [if_neg e]
theorem len_app (x y : Str) : (x ++ y).length = x.length + y.length := by
  show (x.cps ++ y.cps).size = _
  rw [Array.size_append]
  rfl
theorem len_strOf (l : List Nat) : (strOf l).length = l.length := by simp [strOf, Str.length]
theorem strOf_app (a b : List Nat) : strOf a ++ strOf b = strOf (a ++ b) := by
  show Str.mk (a.toArray ++ b.toArray) = _
  simp
theorem dot_strOf : Str.ofString "." = strOf [46] := by decide
theorem nil_strOf : Str.ofString "" = strOf [] := by decide
theorem mail_quote {ds : List Deed} {i : Nat} {d : Deed} (h : ds[i]? = some d) (hk : d.kind = 2) : mailF (ds.take (i + 1)) = quoteL (mailF (ds.take i)) := by
  rw [mailF_take h]; unfold mailStep; rw [if_pos hk]
theorem mail_prep {ds : List Deed} {i : Nat} {d : Deed} (h : ds[i]? = some d) (hk : d.kind = 3) : mailF (ds.take (i + 1)) = prepN (mailF (ds.take i)) := by
  rw [mailF_take h]; unfold mailStep; rw [if_neg (by omega), if_pos hk]
theorem mail_row {ds : List Deed} {i : Nat} {d : Deed} {x y : Str} (h : ds[i]? = some d) (h2 : d.kind ≠ 2) (h3 : d.kind ≠ 3) (hx : x = strOf (if mailF (ds.take i) ≠ [] then d.fin else [])) (hy : y = strOf (if d.kind = 1 then d.veil else [])) :
    strOf (mailF (ds.take i)) ++ x ++ y ++ Str.ofString "." ++ strOf d.typed = strOf (mailF (ds.take (i + 1))) := by
  rw [mailF_take h, hx, hy, dot_strOf, strOf_app, strOf_app, strOf_app, strOf_app]
  unfold mailStep
  rw [if_neg h2, if_neg h3]
theorem mail_ne {l : List Nat} (h : (strOf l != Str.ofString "") = true) : l ≠ [] := by
  rintro rfl
  exact absurd h (by decide)
theorem mail_eq {l : List Nat} (h : (strOf l != Str.ofString "") = false) : ¬ l ≠ [] := fun hn => by
  rw [nil_strOf] at h
  have e : strOf l = strOf [] := by simpa using h
  injection e with e
  exact hn (by simpa using e)
theorem mail_end {x y : Str} {t : Tok} {o : Option Value} (h : x = y) (e : o = some (.str x t)) : ∃ t', o = some (.str y t') := by
  subst h
  exact ⟨t, e⟩
theorem gnext {h₀ h' : Heap} {L : Addr} {s : Shared} {J : (Str → Option Value) → List (Addr × Obj) → Prop} {I : Addr} {oI : Obj} {Q : Flow → Shared → Prop} {m' : Str → Option Value} {news' nx : List (Addr × Obj)} {tk : Nat}
    (F : Fr h₀ L h' m') (N : News h₀ L h' news') (hI : (I, oI) ∈ news') (hs : ∀ p ∈ nx, p ∈ news') (hJ : J m' nx) : GStep h₀ L s J I oI Q .next { s with heap := h', toks := tk } := ⟨_, _, _, _, nx, rfl, F, N, hI, hs, hJ⟩
theorem mail_does (w : World) (l : Addr) (vs : List Value) (ds : List Deed) (hprep : ∀ i, (prepN (mailF (ds.take i))).length ≤ 16777216) (hb : ∀ i, (mailF (ds.take i)).length ≤ 1000) (hl : ∀ d ∈ ds, d.veil.length ≤ 10 ∧ d.typed.length ≤ 10 ∧ d.fin.length ≤ 10) :
    Does w 180 12 150 [.ref l] (fun h => h.IsList l vs.toArray ∧ DeedsAre h vs ds) (fun h r h' => ∃ t, r = .str (strOf (mailF ds)) t) := by
  constructor
  k_fill
  intro p loose mean mg mb dp un fr gd s Q X T hd hu hp hret
  refine' enterF (binds := [(Str.ofString "deeds", .ref l)]) ?k1 ?k2 ?k3 ?k4 ?k5 ?k6 ?k7 ?_ ?c1 ?c2 ?c3 ?c4
  case k1 => exact X
  case k2 => exact T
  case k3 => k_is
  case k4 => k_is
  case k5 => (show dp < recursionLimit; first | exact Nat.lt_of_le_of_lt (Nat.le_add_right _ _) hd | omega)
  case k6 => exact BindsTo.of_eq rfl
  case k7 => exact locs rfl
  case c1 => rfl
  case c2 => rfl
  case c3 => rfl
  case c4 => decide
  intro L h tk F N
  conv in fBody _ => whnf
  k_with_none
  k_with "exec For Tuple Name cons nil" => (with_reducible refine wpAny_For ?_ (fun _ => rfl))
  k_with "pyIter ref" => (k_dflt (refine' for_listG (MJ ds) rfl (fun h k => ⟨_, k _ _ hp.1.choose_spec.1, hp.1.choose_spec.2⟩) (by k_asm) (by k_asm) ?_ ?_ ?_ ?_ PassesOwn.never); ((with_reducible rename Fr _ _ _ _ => F9); (with_reducible rename News _ _ _ _ => N9)); all_goals (first | refine' Hold.mk ?_ | skip))
  k_with "binaryOp Add str str" => (k_dflt (refine' PyProof.Rows.add_str ?_ (Nat.le_trans (m := 10000) (by simp only [len_app, len_strOf, dot_strOf, nil_strOf, List.length_cons, List.length_nil]; omega) (by decide))); intro t9 k9)
  k_with "call ref" => (k_dflt (first | ((refine' Does.use (quote_does w _ _ (by (rw [List.size_toArray]; omega))) (by k_asm) (by k_asm) X T (by (try dsimp only [Around.deeper]); first | exact room2 hd | exact room2 hu | exact room1 hd | exact room1 hu | omega) (by (try dsimp only [Around.deeper]); first | exact room2 hd | exact room2 hu | exact room1 hd | exact room1 hu | omega) trivial ?_); rintro r9 h9 tk9 K9 F9 N9 ⟨t9, e9⟩; subst e9) | ((refine' Does.use (prepared_does w _ _ (by (rw [List.size_toArray]; omega)) (hprep _)) (by k_asm) (by k_asm) X T (by (try dsimp only [Around.deeper]); first | exact room2 hd | exact room2 hu | exact room1 hd | exact room1 hu | omega) (by (try dsimp only [Around.deeper]); first | exact room2 hd | exact room2 hu | exact room1 hd | exact room1 hu | omega) trivial ?_); rintro r9 h9 tk9 K9 F9 N9 ⟨t9, e9⟩; subst e9)))
  k_with "GStep" => ((with_reducible show GStep _ _ _ _ _ _ _ _ _); refine' Hold.mk ?_)
  k_steps
  all_goals try (with_reducible refine' Hold.open ?_)
  · exact ⟨rfl, _, rfl⟩
  · rename_i h9 F9 N9; clear F9 N9
    rintro i v m₁ news₁ h₁ tk₁ I oI hv ⟨rfl, t, hm⟩ hlt F0 N
    obtain ⟨d, hd, a, t0, t1, t2, t3, t4, rfl, T5⟩ := DeedsAre.get hp.2 hv
    have F := F0
    rw [at_name hm] at F
    clear F0
    have hbi := hb i
    have hbj := hb (i + 1)
    have hli := hl d (List.mem_of_getElem? hd)
    k_steps
    all_goals (with_reducible refine' Hold.open ?_)
    all_goals ((with_reducible rename Fr _ _ _ _ => F9); (with_reducible rename News _ _ _ _ => N9); refine gnext (nx := []) F9 N9 (.head _) (fun p hp => nomatch hp) ⟨rfl, ?_⟩)
    all_goals first
      | exact mail_end (congrArg strOf (mail_quote hd (by assumption)).symm) rfl
      | exact mail_end (congrArg strOf (mail_prep hd (by assumption)).symm) rfl
      | exact mail_end (mail_row hd (by assumption) (by assumption) (by rw [if_pos (mail_ne (by assumption))]) (by rw [if_pos (by assumption)])) rfl
      | exact mail_end (mail_row hd (by assumption) (by assumption) (by rw [if_pos (mail_ne (by assumption))]) (by rw [if_neg (by assumption), nil_strOf])) rfl
      | exact mail_end (mail_row hd (by assumption) (by assumption) (by rw [if_neg (mail_eq (by assumption)), nil_strOf]) (by rw [if_pos (by assumption)])) rfl
      | exact mail_end (mail_row hd (by assumption) (by assumption) (by rw [if_neg (mail_eq (by assumption)), nil_strOf]) (by rw [if_neg (by assumption), nil_strOf])) rfl
      | w_report
  · rename_i h9 F9 N9; clear F9 N9
    rintro m₁ news₁ h₁ tk₁ ⟨rfl, t, hm⟩ F0 N
    have F := F0
    rw [at_name hm] at F
    clear F0
    k_steps
    rw [DeedsAre.len hp.2, List.take_length]
    exact hret _ _ _ F.keep ⟨_, rfl⟩
  · rintro i m₁ news₁ ⟨rfl, _⟩ p hp
    cases hp
end Mine
end
-- part WRookA
section
open PySem PySem.W PyProof.Rows PySem.Calls PySem.Spec
set_option maxRecDepth 100000
set_option maxHeartbeats 0
set_option linter.unusedVariables false
namespace Mine
noncomputable def rookFor : List Stmt := match (fBody 24).getD 1 (.Pass ⟨0, 0, 0, 0⟩) with
  | .For _ _ b _ _ => b
  | _ => []
noncomputable def rookFor2 : List Stmt := match rookFor.getD 1 (.Pass ⟨0, 0, 0, 0⟩) with
  | .For _ _ b _ _ => b
  | _ => []
noncomputable def rookFor3 : List Stmt := match rookFor2.getD 0 (.Pass ⟨0, 0, 0, 0⟩) with
  | .For _ _ b _ _ => b
  | _ => []
noncomputable abbrev rookE (L : Addr) : Env := envOfC (Str.ofString "_law_rooks") (fScope 24) L 197 (.ref 196)
section
variable {w : World} {A : Around} {E : Value → Shared → Prop} {s : Shared} {h₀ : Heap} {L d : Addr} {m : Str → Option Value} {news : List (Addr × Obj)} {o : Obj} {kvs : List (Int × Value)} {W : List (Int × Int)} {k : Int} {tk t0 : Tok}
theorem dget {Q : Value → Shared → Prop} (N : News h₀ L s.heap news) (hp : (d, o) ∈ news) (hd : o.IsDictOf (PySem.intKind lw.prog w) kvs) (lo : (d == sysModules) = false) (kv : KVs kvs W) (h : ∀ t', Q (.int ((getZ W k).getD 0) t') { s with toks := s.toks + 1 }) :
    wpAny (model lw.prog w) A (call (.builtin "dict.get") [.ref d, .int k tk, .int 0 t0]) Q E s := by
  rcases kv.value k with ⟨a, b⟩ | ⟨v, t, a, b⟩
  · refine kdg_get2 N hp hd lo (intKind_is _ _ _ _) none a ?_
    rw [b] at h
    exact h t0
  · refine kdg_get2 N hp hd lo (intKind_is _ _ _ _) (some (.int v t)) a ?_
    rw [b] at h
    exact h t
theorem ditem {value slice : PySem.Expr} {v : Int} {Q : Value → Shared → Prop} (N : News h₀ L s.heap news) (hp : (d, o) ∈ news) (hd : o.IsDictOf (PySem.intKind lw.prog w) kvs) (kv : KVs kvs W) (hv : getZ W k = some v) (h : ∀ t', Q (.int v t') { s with toks := s.toks + 1 })
    (hs : subscripted slice false (.ref d) (.int k tk) = operate [.ref d, .int k tk] (getItem (.ref d) (.int k tk)) := by with_unfolding_all rfl) (hg : ∀ r, letTemporaryGo value (.ref d) r = pure () := by intro _; with_unfolding_all rfl) :
    wpAny (model lw.prog w) A (subscriptTail value slice (.ref d) (.int k tk)) Q E s := by
  rcases kv.value k with ⟨a, b⟩ | ⟨u, t, a, b⟩
  · rw [b] at hv; cases hv
  · rw [b] at hv; cases hv
    exact kda_item N hp hd (intKind_is _ _ _ _) a (h t) hs hg
theorem dset {v : Int} {tv : Tok} {g : Obj → List (Addr × Obj)} {Q : Unit → Shared → Prop} (F : Fr h₀ L s.heap m) (N : News h₀ L s.heap news) (U : UpdF d o news g) (hd : o.IsDictOf (PySem.intKind lw.prog w) kvs) (kv : KVs kvs W) (hz : kvs.length ≤ 1000)
    (h : ∀ h' o' kvs', Fr h₀ L h' m → News h₀ L h' (g o') → o'.IsDictOf (PySem.intKind lw.prog w) kvs' → KVs kvs' (setZ W k v) → Q () { s with heap := h', toks := s.toks + 1 }) : wpAny (model lw.prog w) A (setItem (.ref d) (.int k tk) (.int v tv)) Q E s :=
  kda_set F N U hd (intKind_is _ _ _ _) (Nat.le_trans hz (by decide)) fun h' o' F' N' hd' => h h' o' _ F' N' hd' (kv.stored k v tv)
end
theorem rook_turn {w : World} {p : Program} {loose : List Str} {mean : ExcName → Option Value} {mg mb : Str → Option Value} {dp un : Nat} {fr : Option (List Env)} {gd : Option (List Code)} {s : Shared} {h₀ : Heap} {L dF dW : Addr} {oF oW oc : Obj} {m : Str → Option Value} {kF kW : List (Int × Value)} {WF WW : List (Int × Int)} {tl : List (Addr × Obj)} {t v : Int} {c : Nat} {tt tc : Tok}
    (X : (Kf w.params).In h₀) (T : Top p loose mean mg mb h₀) (hd : dp + 5 < recursionLimit) (hu : un + 60 < cLine)
    (F : Fr h₀ L s.heap m) (N : News h₀ L s.heap ((dF, oF) :: (dW, oW) :: (L + 1, oc) :: tl)) (hoff : OwnOff tl [dF]) (n1 : @Ne Nat dF dW) (n2 : @Ne Nat dF (L + 1)) (hcell : oc.data = .cell (some (.int t tt)))
    (hF : oF.IsDictOf (PySem.intKind lw.prog w) kF) (hW : oW.IsDictOf (PySem.intKind lw.prog w) kW) (kvF : KVs kF WF) (kvW : KVs kW WW) (hv : getZ WW t = some v) (hz : kF.length ≤ 1000) (ht0 : 0 ≤ t) (ht1 : t < 512) (hc : c < 9)
    (lo1 : (dF == sysModules) = false) (lo2 : (dW == sysModules) = false)
    (hf : m (Str.ofString "fresh") = some (.ref dF)) (hw : m (Str.ofString "ways") = some (.ref dW)) (hcol : m (Str.ofString "column") = some (.int (c : Nat) tc)) :
    wpAny (model lw.prog w) ((Ar dp un fr gd).deeper (rookE L)) (exec (rookFor3.getD 0 (.Pass ⟨0, 0, 0, 0⟩)) (rookE L)) (fun f s' => f = .next ∧ ∃ h' tk m' oF' kF', s' = { s with heap := h', toks := tk } ∧ Fr h₀ L h' m' ∧ News h₀ L h' ((dF, oF') :: (dW, oW) :: (L + 1, oc) :: tl) ∧ oF'.IsDictOf (PySem.intKind lw.prog w) kF' ∧ KVs kF' (colStep WF t v c) ∧ ∀ y, y ≠ Str.ofString "key" → m' y = m y) (fun _ _ => False) s := by
  rw [at_name hf] at F
  rw [at_name hw] at F
  rw [at_name hcol] at F
  unfold rookE
  conv in rookFor3.getD _ _ => whnf
  k_fill
  k_with_none
  k_with "call builtin:dict.get" => ((with_reducible rename News _ _ _ _ => N9); k_dflt (refine' dget N9 (.head _) hF lo1 kvF ?_); intro t9)
  k_with "subscriptTail" => ((with_reducible rename News _ _ _ _ => N9); k_dflt (refine' ditem N9 (.tail _ (.head _)) hW kvW hv ?_ (by with_unfolding_all rfl) (by intro _; with_unfolding_all rfl)); intro t9)
  k_with "setItem ref int int" => (k_dflt (refine' dset (by k_asm) (by k_asm) (by k_updF) hF kvF hz ?_); intro h9 o9 k9 F9 N9 D9 V9)
  k_with "And" => ((with_reducible show _ = Flow.next ∧ _); refine' Hold.mk ?_)
  k_steps
  all_goals (with_reducible refine' Hold.open ?_)
  · rename (Builtin.bitAnd _ 1 = 0) => hb
    rw [Int.toNat_natCast] at hb V9
    refine ⟨rfl, _, _, _, o9, k9, rfl, F9, N9, D9, ?_, fun y hy => ?_⟩
    · unfold colStep
      rw [if_pos hb]
      exact V9
    · rw [if_neg hy]
      conv => rhs; rw [at_name hf, at_name hw, at_name hcol]
  · rename (Builtin.bitAnd _ 1 ≠ 0) => hb
    rw [Int.toNat_natCast] at hb
    (with_reducible rename Fr _ _ _ _ => F9)
    (with_reducible rename News _ _ _ _ => N9)
    refine ⟨rfl, _, _, _, oF, kF, rfl, F9, N9, hF, ?_, fun y hy => ?_⟩
    · unfold colStep
      rw [if_neg hb]
      exact kvF
    · conv => rhs; rw [at_name hf, at_name hw, at_name hcol]
end Mine
end
-- part WRookB
section
open PySem PySem.W PyProof.Rows PySem.Calls PySem.Spec
set_option maxRecDepth 100000
set_option maxHeartbeats 0
set_option linter.unusedVariables false
namespace Mine
local macro_rules | `(tactic| walk_at "PAD") => `(tactic| fail "pad")
theorem range_any {z : Int} (h : z ≤ 100) (h1 : -100 ≤ z) : Builtin.Range.small 0 z 1 = true ∧ Builtin.Range.rangeSize 0 z 1 = ((z.toNat : Nat) : Int) := by
  refine ⟨small_one (by omega) (by omega) (by omega) (by omega), ?_⟩
  rw [rangeSize_one]
  split <;> omega
noncomputable def ColJ (w : World) (L dF dW : Addr) (oW oc : Obj) (tl : List (Addr × Obj)) (m₀ : Str → Option Value) (WF : List (Int × Int)) (t v : Int) (i : Nat) (m : Str → Option Value) (nx : List (Addr × Obj)) : Prop :=
  ∃ oF kF, nx = (dF, oF) :: (dW, oW) :: (L + 1, oc) :: tl ∧ oF.IsDictOf (PySem.intKind lw.prog w) kF ∧ KVs kF (colsF WF t v i) ∧ ∀ y, y ≠ Str.ofString "key" → y ≠ Str.ofString "column" → m y = m₀ y
theorem rook_cols {w : World} {p : Program} {loose : List Str} {mean : ExcName → Option Value} {mg mb : Str → Option Value} {dp un : Nat} {fr : Option (List Env)} {gd : Option (List Code)} {s : Shared} {h₀ : Heap} {L dF dW : Addr} {oF oW oc : Obj} {m : Str → Option Value} {kF kW : List (Int × Value)} {WF WW : List (Int × Int)} {tl : List (Addr × Obj)} {t v n : Int} {tt tn : Tok}
    (X : (Kf w.params).In h₀) (T : Top p loose mean mg mb h₀) (hd : dp + 5 < recursionLimit) (hu : un + 60 < cLine)
    (F : Fr h₀ L s.heap m) (N : News h₀ L s.heap ((dF, oF) :: (dW, oW) :: (L + 1, oc) :: tl)) (hoff : OwnOff tl [dF]) (n1 : @Ne Nat dF dW) (n2 : @Ne Nat dF (L + 1)) (hcell : oc.data = .cell (some (.int t tt)))
    (hF : oF.IsDictOf (PySem.intKind lw.prog w) kF) (hW : oW.IsDictOf (PySem.intKind lw.prog w) kW) (kvF : KVs kF WF) (kvW : KVs kW WW) (hv : getZ WW t = some v) (hkF : KeysIn WF) (ht0 : 0 ≤ t) (ht1 : t < 512) (hn0 : -1 ≤ n) (hn1 : n ≤ 9)
    (lo1 : (dF == sysModules) = false) (lo2 : (dW == sysModules) = false)
    (hf : m (Str.ofString "fresh") = some (.ref dF)) (hw : m (Str.ofString "ways") = some (.ref dW)) (hcount : m (Str.ofString "count") = some (.int n tn)) :
    wpAny (model lw.prog w) ((Ar dp un fr gd).deeper (rookE L)) (exec (rookFor2.getD 0 (.Pass ⟨0, 0, 0, 0⟩)) (rookE L)) (fun f s' => f = .next ∧ ∃ h' tk m' oF' kF', s' = { s with heap := h', toks := tk } ∧ Fr h₀ L h' m' ∧ News h₀ L h' ((dF, oF') :: (dW, oW) :: (L + 1, oc) :: tl) ∧ oF'.IsDictOf (PySem.intKind lw.prog w) kF' ∧ KVs kF' (colsF WF t v n.toNat) ∧ ∀ y, y ≠ Str.ofString "key" → y ≠ Str.ofString "column" → m' y = m y) (fun _ _ => False) s := by

  rw [at_name hcount] at F
  unfold rookE
  conv in rookFor2.getD _ _ => whnf
  obtain ⟨hsm, hsz⟩ := range_any (z := n) (by omega) (by omega)
  revert X
  k_fill
  intro X
  refine wpAny_For ?_ (fun _ => rfl)
  k_with_none
  k_with "pyIter ref" => (k_dflt (refine' for_rangeZ (ColJ w L dF dW oW oc tl m WF t v) rfl rfl rfl (by assumption) hsm hsz (by k_asm) (by k_asm) ?_ ?_ ?_ PassesOwn.never); (all_goals (first | refine' Hold.mk ?_ | skip)))
  k_steps
  all_goals (with_reducible refine' Hold.open ?_)
  · exact ⟨oF, kF, rfl, hF, kvF, fun y _ _ => congrFun (at_name hcount).symm y⟩
  · rintro i m₁ news₁ h₁ tk₁ I oI tc hi ⟨oF1, kF1, rfl, hF1, kv1, hm1⟩ hlt hne F1 N1
    have hz : kF1.length ≤ 1000 := by
      have h1 := cols_keys (v := v) hkF ht0 ht1 i (by omega)
      obtain ⟨_, _, _, _, _, _, hnd⟩ := id hF1
      have h2 := keys_len h1 (by rw [← kv1.keys]; exact hnd)
      rw [kv1.len]; omega
    refine wpAny_execs_cons (wpAny_mono (rook_turn (tl := (I, oI) :: tl) X T hd hu F1 (fun p hp => N1 p ?_) (fun p hp b hb => ?_) n1 n2 hcell hF1 hW kv1 kvW hv hz ht0 ht1 (by omega) lo1 lo2 ?_ ?_ (if_pos rfl)) (fun f s₂ h₂ => ?_) fun _ _ e => e)
    · rcases List.mem_cons.mp hp with rfl | hp
      · exact .tail _ (.head _)
      · rcases List.mem_cons.mp hp with rfl | hp
        · exact .tail _ (.tail _ (.head _))
        · rcases List.mem_cons.mp hp with rfl | hp
          · exact .tail _ (.tail _ (.tail _ (.head _)))
          · rcases List.mem_cons.mp hp with rfl | hp
            · exact .head _
            · exact .tail _ (.tail _ (.tail _ (.tail _ hp)))
    · rw [List.mem_singleton.mp hb]
      rcases List.mem_cons.mp hp with rfl | hp
      · exact fun q => hne (dF, oF1) (.head _) q.symm
      · exact hoff p hp dF (.head _)
    · rw [if_neg (by decide), hm1 _ (by decide) (by decide)]; exact hf
    · rw [if_neg (by decide), hm1 _ (by decide) (by decide)]; exact hw
    · obtain ⟨rfl, h2, tk2, m2, oF2, kF2, rfl, F2, N2, hF2, kv2, hm2⟩ := h₂
      refine wpAny_execs_nil ?_
      refine hnext (nx := (dF, oF2) :: (dW, oW) :: (L + 1, oc) :: tl) F2 N2 (.tail _ (.tail _ (.tail _ (.head _)))) (fun p hp => ?_) (fun p hp => ?_) ⟨oF2, kF2, rfl, hF2, by rw [cols_succ]; exact kv2, fun y h1 h2 => ?_⟩
      · rcases List.mem_cons.mp hp with rfl | hp
        · exact .head _
        · rcases List.mem_cons.mp hp with rfl | hp
          · exact .tail _ (.head _)
          · rcases List.mem_cons.mp hp with rfl | hp
            · exact .tail _ (.tail _ (.head _))
            · exact .tail _ (.tail _ (.tail _ (.tail _ hp)))
      · rcases List.mem_cons.mp hp with rfl | hp
        · exact hne (dF, oF1) (.head _)
        · exact hne p (.tail _ hp)
      · rw [hm2 y h1, if_neg h2, hm1 y h1 h2]
  · rintro m₁ news₁ h₁ tk₁ ⟨oF1, kF1, rfl, hF1, kv1, hm1⟩ F1 N1
    exact ⟨rfl, _, _, _, oF1, kF1, rfl, F1, N1, hF1, kv1, hm1⟩
end Mine
end
-- part WRookC
section
open PySem PySem.W PyProof.Rows PySem.Calls PySem.Spec
set_option maxRecDepth 100000
set_option maxHeartbeats 0
set_option linter.unusedVariables false
namespace Mine
theorem getZ_of {W : List (Int × Int)} (hn : (W.map (·.1)).Nodup) : ∀ {i : Nat} {k v : Int}, W[i]? = some (k, v) → getZ W k = some v := by
  induction W with
  | nil => intro i k v e; cases e
  | cons q r ih =>
    intro i k v e
    obtain ⟨a, b⟩ := q
    rw [List.map_cons, List.nodup_cons] at hn
    unfold getZ
    cases i with
    | zero =>
      cases e
      simp
    | succ i =>
      have hm : (k, v) ∈ r := List.mem_of_getElem? (by simpa using e)
      have hne : ¬ a = k := fun q => hn.1 (List.mem_map.mpr ⟨_, hm, q.symm⟩)
      simp only [List.find?_cons, hne, decide_false]
      exact ih hn.2 e
noncomputable def TakJ (w : World) (L dF dW : Addr) (oW : Obj) (tl : List (Addr × Obj)) (m₀ : Str → Option Value) (W : List (Int × Int)) (n : Int) (i : Nat) (m : Str → Option Value) (nx : List (Addr × Obj)) : Prop :=
  ∃ oF kF oc v, nx = (dF, oF) :: (dW, oW) :: (L + 1, oc) :: tl ∧ oc.data = .cell v ∧ oF.IsDictOf (PySem.intKind lw.prog w) kF ∧ KVs kF (takenF W n.toNat i) ∧ ∀ y, y ≠ Str.ofString "key" → y ≠ Str.ofString "column" → m y = m₀ y
theorem rook_place {w : World} {p : Program} {loose : List Str} {mean : ExcName → Option Value} {mg mb : Str → Option Value} {dp un : Nat} {fr : Option (List Env)} {gd : Option (List Code)} {s : Shared} {h₀ : Heap} {L dF dW : Addr} {oF oW oc : Obj} {m : Str → Option Value} {kF kW : List (Int × Value)} {W : List (Int × Int)} {tl : List (Addr × Obj)} {n : Int} {tn : Tok} {cv : Option Value}
    (X : (Kf w.params).In h₀) (T : Top p loose mean mg mb h₀) (hd : dp + 5 < recursionLimit) (hu : un + 60 < cLine)
    (F : Fr h₀ L s.heap m) (N : News h₀ L s.heap ((dF, oF) :: (dW, oW) :: (L + 1, oc) :: tl)) (hoff : OwnOff tl [dF]) (hoff2 : OwnOff tl [L + 1]) (n1 : @Ne Nat dF dW) (n2 : @Ne Nat dF (L + 1)) (n3 : @Ne Nat dW (L + 1)) (hcell : oc.data = .cell cv)
    (hF : oF.IsDictOf (PySem.intKind lw.prog w) kF) (hW : oW.IsDictOf (PySem.intKind lw.prog w) kW) (kvF : KVs kF W) (kvW : KVs kW W) (hkW : KeysIn W) (hn0 : -1 ≤ n) (hn1 : n ≤ 9)
    (lo1 : (dF == sysModules) = false) (lo2 : (dW == sysModules) = false)
    (hf : m (Str.ofString "fresh") = some (.ref dF)) (hw : m (Str.ofString "ways") = some (.ref dW)) (hcount : m (Str.ofString "count") = some (.int n tn)) :
    wpAny (model lw.prog w) ((Ar dp un fr gd).deeper (rookE L)) (exec (rookFor.getD 1 (.Pass ⟨0, 0, 0, 0⟩)) (rookE L)) (fun f s' => f = .next ∧ ∃ h' tk m' oF' kF' oc' cv', s' = { s with heap := h', toks := tk } ∧ Fr h₀ L h' m' ∧ News h₀ L h' ((dF, oF') :: (dW, oW) :: (L + 1, oc') :: tl) ∧ oc'.data = .cell cv' ∧ oF'.IsDictOf (PySem.intKind lw.prog w) kF' ∧ KVs kF' (placeF W n) ∧ ∀ y, y ≠ Str.ofString "key" → y ≠ Str.ofString "column" → m' y = m y) (fun _ _ => False) s := by
  rw [at_name hw] at F
  unfold rookE
  conv in rookFor.getD _ _ => whnf
  have hnd : (W.map (·.1)).Nodup := by
    obtain ⟨_, _, _, _, _, _, q⟩ := id hW
    rw [← kvW.keys]; exact q
  revert X
  k_fill
  intro X
  refine wpAny_For ?_ (fun _ => rfl)
  k_with_none
  k_with "pyIter ref" => (k_dflt (refine' for_dictG (TakJ w L dF dW oW tl m W n) rfl lo2 hW ?_ (by k_asm) (by k_asm) ?_ ?_ ?_ PassesOwn.never); (all_goals (first | refine' Hold.mk ?_ | skip)))
  k_with "execs cons" => ((with_reducible show wpAny _ _ (execs _ _) _ _ _); refine' Hold.mk ?_)
  k_steps
  all_goals (with_reducible refine' Hold.open ?_)
  · rintro i m₁ news₁ ⟨oF1, kF1, oc1, v1, rfl, _⟩
    exact .tail _ (.head _)
  · exact ⟨oF, kF, oc, cv, rfl, hcell, hF, kvF, fun y _ _ => congrFun (at_name hw).symm y⟩
  · rintro i k x v m₁ news₁ h₁ tk₁ I oI hx hk ⟨oF1, kF1, oc1, v1, rfl, hc1, hF1, kv1, hm1⟩ hlt hne F1 N1
    obtain ⟨tv, rfl⟩ := Value.isInt_shape hk
    obtain ⟨vv, tvv, rfl, hWi⟩ := kvW.get hx
    have hkk := hkW _ (List.mem_of_getElem? hWi)
    have hIf := hne (dF, oF1) (.head _)
    have hIw := hne (dW, oW) (.tail _ (.head _))
    have hIc := hne (L + 1, oc1) (.tail _ (.tail _ (.head _)))
    have hg := getZ_of hnd hWi
    k_steps
    (with_reducible refine' Hold.open ?_)
    (with_reducible rename Fr _ _ _ _ => F9)
    (with_reducible rename News _ _ _ _ => N9)
    rename (_ = Data.cell (some (Value.int k tv))) => d9
    refine wpAny_execs_cons (wpAny_mono (rook_cols (tn := tn) (tl := (I, oI) :: tl) X T hd hu F9 (fun p hp => N9 p ?_) (fun p hp b hb => ?_) n1 n2 d9 hF1 hW kv1 kvW hg (taken_keys hkW (by omega) i) hkk.1 hkk.2 hn0 hn1 lo1 lo2 ?_ ?_ ?_) (fun f s₂ h₂ => ?_) fun _ _ e => e)
    · rcases List.mem_cons.mp hp with rfl | hp
      · exact .tail _ (.head _)
      · rcases List.mem_cons.mp hp with rfl | hp
        · exact .tail _ (.tail _ (.head _))
        · rcases List.mem_cons.mp hp with rfl | hp
          · exact .tail _ (.tail _ (.tail _ (.head _)))
          · rcases List.mem_cons.mp hp with rfl | hp
            · exact .head _
            · exact .tail _ (.tail _ (.tail _ (.tail _ hp)))
    · rw [List.mem_singleton.mp hb]
      rcases List.mem_cons.mp hp with rfl | hp
      · exact fun q => hIf q.symm
      · exact hoff p hp dF (.head _)
    · rw [hm1 _ (by decide) (by decide)]; exact hf
    · rw [hm1 _ (by decide) (by decide)]; exact hw
    · rw [hm1 _ (by decide) (by decide)]; exact hcount
    · obtain ⟨rfl, h2, tk2, m2, oF2, kF2, rfl, F2, N2, hF2, kv2, hm2⟩ := h₂
      refine wpAny_execs_nil ?_
      refine hnext (nx := (dF, oF2) :: (dW, oW) :: (L + 1, _) :: tl) F2 N2 (.tail _ (.tail _ (.tail _ (.head _)))) (fun p hp => ?_) (fun p hp => ?_) ⟨oF2, kF2, _, _, rfl, d9, hF2, by rw [taken_succ hWi]; exact kv2, fun y h1 h2 => ?_⟩
      · rcases List.mem_cons.mp hp with rfl | hp
        · exact .head _
        · rcases List.mem_cons.mp hp with rfl | hp
          · exact .tail _ (.head _)
          · rcases List.mem_cons.mp hp with rfl | hp
            · exact .tail _ (.tail _ (.head _))
            · exact .tail _ (.tail _ (.tail _ (.tail _ hp)))
      · rcases List.mem_cons.mp hp with rfl | hp
        · exact hIf
        · rcases List.mem_cons.mp hp with rfl | hp
          · exact hIw
          · rcases List.mem_cons.mp hp with rfl | hp
            · exact hIc
            · exact hne p (.tail _ (.tail _ (.tail _ hp)))
      · rw [hm2 y h1 h2, hm1 y h1 h2]
  · rintro m₁ news₁ h₁ tk₁ ⟨oF1, kF1, oc1, v1, rfl, hc1, hF1, kv1, hm1⟩ F1 N1
    refine ⟨rfl, _, _, _, oF1, kF1, oc1, v1, rfl, F1, N1, hc1, hF1, ?_, hm1⟩
    unfold placeF
    rw [← kvW.len]
    exact kv1
end Mine
end
-- part WRookD
section
open PySem PySem.W PyProof.Rows PySem.Calls PySem.Spec
set_option maxRecDepth 100000
set_option maxHeartbeats 0
set_option linter.unusedVariables false
namespace Mine
theorem KVs.flat {kvs : List (Int × Value)} {W : List (Int × Int)} (h : KVs kvs W) : PyProof.V.FlatPairs PyData.int kvs (W.map fun p => (PyData.int p.1, PyData.int p.2)) := by
  induction h with
  | nil => exact .nil
  | cons k v t _ ih => exact .cons (.int v t) ih
theorem KVs.of_flat : ∀ {W : List (Int × Int)} {kvs : List (Int × Value)}, PyProof.V.FlatPairs PyData.int kvs (W.map fun p => (PyData.int p.1, PyData.int p.2)) → KVs kvs W
  | [], _, h => by cases h; exact .nil
  | (k, v) :: W, kvs, h => by
    rw [List.map_cons] at h
    generalize hD : (W.map fun p => (PyData.int p.1, PyData.int p.2)) = D at h
    generalize hk : PyData.int k = kk at h
    generalize hv : PyData.int v = vv at h
    cases h with
    | cons f r =>
      cases hk
      subst hv hD
      obtain ⟨t, rfl⟩ := f.int_inv
      exact .cons _ v t (KVs.of_flat r)
section
variable {w : World} {A : Around} {E : Value → Shared → Prop} {s : Shared} {h₀ : Heap} {L d : Addr} {m : Str → Option Value} {news : List (Addr × Obj)} {o : Obj} {kvs : List (Int × Value)} {W : List (Int × Int)}
theorem dcopy {Q : Value → Shared → Prop} (F : Fr h₀ L s.heap m) (N : News h₀ L s.heap news) (hbig : h₀.NoLimit) (hp : (d, o) ∈ news) (hd : o.IsDictOf (PySem.intKind lw.prog w) kvs) (lo : (d == sysModules) = false) (kv : KVs kvs W) (hz : W.length ≤ 1000)
    (h : ∀ d' h' o' kvs', Fr h₀ L h' m → News h₀ L h' ((d', o') :: news) → (∀ p ∈ news, @LT.lt Nat _ p.1 d') → (d' == sysModules) = false → o'.IsDictOf (PySem.intKind lw.prog w) kvs' → KVs kvs' W → Q (.ref d') { s with heap := h' }) :
    wpAny (model lw.prog w) A (call (.type "dict") [.ref d]) Q E s :=
  kt_dict_K (enc := PyData.int) F N hbig (TabAt.ofObj lo (N _ hp).1 hd kv.flat) (by rw [List.length_map]; exact Nat.le_trans hz (by decide)) fun d' h' o' kvs' F' N' l1 lo' hd' hf' => h d' h' o' kvs' F' N' l1 lo' hd' (KVs.of_flat hf')
end
end Mine
end
-- part MTold
section
open PySem PySem.W PyProof.Rows PySem.Calls PySem.Spec
set_option maxRecDepth 100000
set_option maxHeartbeats 0
set_option linter.unusedVariables false
namespace Mine
structure Row where
  head : List Nat
  count : Int
  name : List Nat
noncomputable def toldStep (later : List Int) (d : Deed) (told : List Row) : List Row :=
  let told1 := if d.kind < 2 ∧ told ≠ [] ∧ (d.fin = [10, 13] ∨ d.fin = [13, 13, 10]) then told ++ [⟨[], -1, []⟩] else told
  if d.kind = 0 then told1 ++ [⟨[], (later.count 2 : Nat), if (3 : Int) ∈ later then d.folded else d.typed⟩]
  else if d.kind = 1 ∧ (3 : Int) ∈ later then told1 ++ [⟨[], ((later.drop (later.idxOf 3)).count 2 : Nat), d.folded⟩]
  else if d.kind = 1 then told1 ++ [⟨d.veil, 0, d.typed⟩]
  else told1
noncomputable def laterOf (ds : List Deed) (i : Nat) : List Int := (ds.drop (i + 1)).map (·.kind)
noncomputable def toldF (ds : List Deed) : Nat → List Row
  | 0 => []
  | i + 1 => match ds[i]? with
    | some d => toldStep (laterOf ds i) d (toldF ds i)
    | none => toldF ds i
noncomputable def toldAll (ds : List Deed) : List Row := if toldF ds ds.length ≠ [] then toldF ds ds.length else [⟨[], -1, []⟩]
noncomputable def RowAt (h : Heap) (v : Value) (r : Row) : Prop := ∃ a t0 t1 t2, v = .ref a ∧ IsTup h a #[.str (strOf r.head) t0, .int r.count t1, .str (strOf r.name) t2]
inductive ToldAre (h : Heap) : List Value → List Row → Prop
  | nil : ToldAre h [] []
  | cons {v r vs rs} : RowAt h v r → ToldAre h vs rs → ToldAre h (v :: vs) (r :: rs)
noncomputable def RowIn (tl : List (Addr × Obj)) (v : Value) (r : Row) : Prop := ∃ a o t0 t1 t2, v = .ref a ∧ (a, o) ∈ tl ∧ o.cls = .type "tuple" ∧ ∃ n, o.data = .seq #[.str (strOf r.head) t0, .int r.count t1, .str (strOf r.name) t2] n
inductive ToldIn (tl : List (Addr × Obj)) : List Value → List Row → Prop
  | nil : ToldIn tl [] []
  | cons {v r vs rs} : RowIn tl v r → ToldIn tl vs rs → ToldIn tl (v :: vs) (r :: rs)
theorem RowIn.more {tl tl' : List (Addr × Obj)} {v : Value} {r : Row} (R : RowIn tl v r) (k : ∀ p ∈ tl, p ∈ tl') : RowIn tl' v r := by
  obtain ⟨a, o, t0, t1, t2, e, m, c⟩ := R
  exact ⟨a, o, t0, t1, t2, e, k _ m, c⟩
theorem ToldIn.more {tl tl' : List (Addr × Obj)} {vs : List Value} {rs : List Row} (R : ToldIn tl vs rs) (k : ∀ p ∈ tl, p ∈ tl') : ToldIn tl' vs rs := by
  induction R with
  | nil => exact .nil
  | cons a _ ih => exact .cons (RowIn.more a k) ih
theorem ToldIn.snoc {tl : List (Addr × Obj)} {vs : List Value} {rs : List Row} {v : Value} {r : Row} (R : ToldIn tl vs rs) (k : RowIn tl v r) : ToldIn tl (vs ++ [v]) (rs ++ [r]) := by
  induction R with
  | nil => exact .cons k .nil
  | cons a _ ih => exact .cons a ih
theorem ToldIn.len {tl : List (Addr × Obj)} {vs : List Value} {rs : List Row} (R : ToldIn tl vs rs) : vs.length = rs.length := by
  induction R with
  | nil => rfl
  | cons _ _ ih => simp [ih]
noncomputable def TJ (ds : List Deed) (l fl : Addr) (i : Nat) (m : Str → Option Value) (nx : List (Addr × Obj)) : Prop :=
  ∃ us k tl, m (Str.ofString "told") = some (.ref fl) ∧ m (Str.ofString "deeds") = some (.ref l) ∧ nx = (fl, listOf us.toArray k) :: tl ∧ OwnOff tl [fl] ∧ ToldIn tl us (toldF ds i)
theorem tj_start {ds : List Deed} {l fl : Addr} {m : Str → Option Value} {k : Nat} (h : m (Str.ofString "told") = some (.ref fl)) (h2 : m (Str.ofString "deeds") = some (.ref l)) : TJ ds l fl 0 m [(fl, listOf #[] k)] :=
  ⟨[], k, [], h, h2, rfl, (fun p hp => nomatch hp), .nil⟩
section
variable {prog : Program} {w : World} {A : Around} {E : Value → Shared → Prop} {s : Shared}
theorem ne_nilG {a b : Addr} {us : List Value} {Q : Value → Shared → Prop} (hl : s.heap.IsList a us.toArray) (hl' : s.heap.IsList b ([] : List Value).toArray) (hu : A.units < cLine) (h : Q (.bool (!us.isEmpty)) s) :
    wpAny (model prog w) A (compareOp .NotEq (.ref a) (.ref b)) Q E s := by
  cases us with
  | nil => exact (SeqAt.RcNeAt.lists (e := fun _ => true) hl hl' rfl hu (fun j h1 _ => absurd h1 (Nat.not_lt_zero _))) prog w E Q h
  | cons v r => exact (SeqAt.RcNeAt.lists_lengths hl hl' (by simp) hu) prog w E Q h
end
end Mine
end
-- part WComp
section
open PySem PySem.W PyProof.Rows PySem.Calls PySem.Spec
set_option maxRecDepth 100000
set_option maxHeartbeats 0
set_option linter.unusedVariables false
namespace Mine
section
variable {prog : Program} {w : World} {A : Around} {E : Value → Shared → Prop} {s : Shared} {h₀ : Heap} {L : Addr} {m : Str → Option Value} {env : Env}
theorem acomp {α : Type} (K : ItemKind α) {elt iter : Expr} {x y : Str} {px py : Pos} {scope : Scope} {cl : List (Str × Addr)} {pos spos : Pos} {Q : Flow → Shared → Prop} (d : α → PyData) (F₀ : Fr h₀ L s.heap m)
    (hsw : swapsWith (.ListComp elt [⟨.Name x px, iter, [], 0⟩] scope pos) (some (.Name y py)) spos.line env = pure true) (hL : env.locals = L)
    (hh : A.handled = none) (hclos : closureFor scope env = pure cl) (hcell : ∀ z ∈ scope.names, z.2 ≠ .cell) (hkind : scope.kind = .function)
    (hnames : ∀ z ∈ scope.names, z.2 = .local → scope.names.lookup z.1 = some .local) (hx : scope.names.lookup x = some .local)
    (hy : env.kindOf y = some .local) (hp : (env.scope.kind == .class || (env.scope.kind == .module && env.locals != env.globals)) = false)
    (h : wpAny (model prog w) A (eval iter env) (fun xv s₁ => CompPack (∃ news : List (Addr × Obj), ∃ ax vs as, xv = .ref ax ∧ s₁.heap.IsList ax vs.toArray ∧ AreOf K vs as ∧ as.length ≤ sizeLine ∧ Fr h₀ L s₁.heap m ∧ News h₀ L s₁.heap news ∧
      (∀ C a v s₂ m₂ E', s₁.heap.objs.size ≤ C → a ∈ as → K.is a v → s₂.heap.Ns (compEnvC scope cl C env).locals m₂ → m₂ x = some v → (∀ b o, s₁.heap.get? b = some o → s₂.heap.get? b = some o) →
        wpAny (model prog w) A (eval elt (compEnvC scope cl C env)) (fun y s₃ => Carried y (d a) ∧ PySem.Keeps s₂ s₃) E' s₂) ∧
      (∀ D (ys : List Value) h' tk, Fr h₀ L h' (fun z => if z = y then some (.ref D) else m z) → News h₀ L h' news → h₀.get? D = none → h'.IsList D ys.toArray → NewPlain h' news D ys.toArray → CarriedAll ys (as.map d) → Q .next { s₁ with heap := h', toks := tk }))) E s)
    (hs : ∀ x, foldedSetIterable iter env x = pure x) :
    wpAny (model prog w) A (exec (.Assign [.Name y py] (.ListComp elt [⟨.Name x px, iter, [], 0⟩] scope pos) spos) env) Q E s := by
  refine Assign_ListComp_DCn (h₀ := h₀) (L := L) (m := m) (K := K) (pz := fun _ => true) (d := d) hsw hL hh hclos hcell hkind hnames hx hy hp (wpAny_mono h (fun xv s₁ h₁ => ?_) fun _ _ e => e) hs
  obtain ⟨news, ax, vs, as, e, hl, ha, hz, F, N, he, hf⟩ := h₁
  refine ⟨news, ax, vs, as, e, hl, ha, hz, F, N, fun C a v s₂ m₂ E' _ _ _ _ _ _ => wpAny_pure ⟨rfl, Keeps.here s₂⟩, fun C a v s₂ m₂ E' h1 h2 h3 _ h4 h5 h6 => he C a v s₂ m₂ E' h1 h2 h3 h4 h5 h6, fun D ys h' tk F' N' h1 h2 h3 h4 => hf D ys h' tk F' N' h1 h2 h3 ?_⟩
  rw [List.filter_eq_self.mpr (fun _ _ => rfl)] at h4
  exact h4
theorem vcomp {α : Type} (K : ItemKind α) {elt iter : Expr} {x : Str} {px : Pos} {scope : Scope} {cl : List (Str × Addr)} {pos : Pos} {Q : Value → Shared → Prop} (d : α → PyData) (F₀ : Fr h₀ L s.heap m)
    (hh : A.handled = none) (hclos : closureFor scope env = pure cl) (hcell : ∀ z ∈ scope.names, z.2 ≠ .cell) (hkind : scope.kind = .function)
    (hnames : ∀ z ∈ scope.names, z.2 = .local → scope.names.lookup z.1 = some .local) (hx : scope.names.lookup x = some .local)
    (h : wpAny (model prog w) A (eval iter env) (fun xv s₁ => CompPack (∃ news : List (Addr × Obj), ∃ ax vs as, xv = .ref ax ∧ s₁.heap.IsList ax vs.toArray ∧ AreOf K vs as ∧ as.length ≤ sizeLine ∧ Fr h₀ L s₁.heap m ∧ News h₀ L s₁.heap news ∧
      (∀ C a v s₂ m₂ E', s₁.heap.objs.size ≤ C → a ∈ as → K.is a v → s₂.heap.Ns (compEnvC scope cl C env).locals m₂ → m₂ x = some v → (∀ b o, s₁.heap.get? b = some o → s₂.heap.get? b = some o) →
        wpAny (model prog w) A (eval elt (compEnvC scope cl C env)) (fun y s₃ => Carried y (d a) ∧ PySem.Keeps s₂ s₃) E' s₂) ∧
      (∀ D (ys : List Value) h' tk, Fr h₀ L h' m → News h₀ L h' news → h₀.get? D = none → h'.IsList D ys.toArray → NewPlain h' news D ys.toArray → CarriedAll ys (as.map d) → Q (.ref D) { s₁ with heap := h', toks := tk }))) E s)
    (hs : ∀ x, foldedSetIterable iter env x = pure x) :
    wpAny (model prog w) A (eval (.ListComp elt [⟨.Name x px, iter, [], 0⟩] scope pos) env) Q E s := by
  refine ListComp_DCn (h₀ := h₀) (L := L) (m := m) (K := K) (pz := fun _ => true) (d := d) hh hclos hcell hkind hnames hx (wpAny_mono h (fun xv s₁ h₁ => ?_) fun _ _ e => e) hs
  obtain ⟨news, ax, vs, as, e, hl, ha, hz, F, N, he, hf⟩ := h₁
  refine ⟨news, ax, vs, as, e, hl, ha, hz, F, N, fun C a v s₂ m₂ E' _ _ _ _ _ _ => wpAny_pure ⟨rfl, Keeps.here s₂⟩, fun C a v s₂ m₂ E' h1 h2 h3 _ h4 h5 h6 => he C a v s₂ m₂ E' h1 h2 h3 h4 h5 h6, fun D ys h' tk F' N' h1 h2 h3 h4 => hf D ys h' tk F' N' h1 h2 h3 ?_⟩
  rw [List.filter_eq_self.mpr (fun _ _ => rfl)] at h4
  exact h4
end
end Mine
end
-- part WToldA
section
open PySem PySem.W PyProof.Rows PySem.Calls PySem.Spec
set_option maxRecDepth 100000
set_option maxHeartbeats 0
set_option linter.unusedVariables false
namespace Mine
noncomputable def toldB : List Stmt := match fBody 22 with
  | [_, .For _ _ b _ _, _] => b
  | _ => []
noncomputable abbrev toldE (L : Addr) : Env := envOf (Str.ofString "_law_told") (fScope 22) L 185 (.ref 184)
noncomputable def endQ (d : Deed) : Bool := d.fin == [10, 13] || d.fin == [13, 13, 10]
noncomputable def told1 (d : Deed) (rows : List Row) : List Row := if d.kind < 2 ∧ rows ≠ [] ∧ (d.fin = [10, 13] ∨ d.fin = [13, 13, 10]) then rows ++ [⟨[], -1, []⟩] else rows
structure TL (h₀ h : Heap) (L l I : Addr) (m : Str → Option Value) (us : List Value) (k : Nat) (tu tl : List (Addr × Obj)) (rows : List Row) : Prop where
  F : Fr h₀ L h m
  N : News h₀ L h ((l, listOf us.toArray k) :: tl)
  off : OwnOff tl [l]
  sub : ∀ p ∈ tu, p ∈ tl
  ne : ∀ p ∈ tu, @Ne Nat p.1 I
  told : ToldIn tu us rows
theorem allLt_mem {d : Nat} : ∀ {l : List (Addr × Obj)}, AllLt d l → ∀ p ∈ l, @LT.lt Nat _ p.1 d
  | [], _, _, h => nomatch h
  | q :: r, a, p, h => by
    rcases List.mem_cons.mp h with rfl | h
    · exact a.1
    · exact allLt_mem a.2 p h
section
variable {h₀ h h' : Heap} {L l I : Addr} {m : Str → Option Value} {us : List Value} {k : Nat} {tu tl news' : List (Addr × Obj)} {rows : List Row} {d : Deed}
theorem TL.same (Y : TL h₀ h L l I m us k tu tl rows) (F : Fr h₀ L h' m) (N : News h₀ L h' news') (sub : ∀ p ∈ (l, listOf us.toArray k) :: tl, p ∈ news') : TL h₀ h' L l I m us k tu tl rows :=
  ⟨F, fun p hp => N p (sub p hp), Y.off, Y.sub, Y.ne, Y.told⟩
theorem TL.add (Y : TL h₀ h L l I m us k tu tl rows) (F : Fr h₀ L h' m) (N : News h₀ L h' news') {D : Addr} {o : Obj} {oI : Obj} {r : Row} {t0 t1 t2 : Tok} (sub : ∀ p ∈ (l, listOf (us.toArray.push (.ref D)) (k + 1)) :: (D, o) :: tl, p ∈ news') (hl : @LT.lt Nat _ l D) (hA : AllLt D tl) (hI : (I, oI) ∈ tl)
    (hc : o.cls = .type "tuple") (hd : ∃ n, o.data = .seq #[.str (strOf r.head) t0, .int r.count t1, .str (strOf r.name) t2] n) : TL h₀ h' L l I m (us ++ [.ref D]) (k + 1) ((D, o) :: tu) ((D, o) :: tl) (rows ++ [r]) := by
  refine ⟨F, fun p hp => N p (sub p ?_), ?_, ?_, ?_, (ToldIn.more Y.told fun p hp => .tail _ hp).snoc ⟨D, o, t0, t1, t2, rfl, .head _, hc, hd⟩⟩
  · rw [List.push_toArray]
    exact hp
  · intro p hp b hb
    rw [List.mem_singleton.mp hb]
    rcases List.mem_cons.mp hp with rfl | hp
    · exact Nat.ne_of_gt hl
    · exact Y.off p hp l (.head _)
  · intro p hp
    rcases List.mem_cons.mp hp with rfl | hp
    · exact .head _
    · exact .tail _ (Y.sub p hp)
  · intro p hp
    rcases List.mem_cons.mp hp with rfl | hp
    · exact Nat.ne_of_gt (allLt_mem hA _ hI)
    · exact Y.ne p hp
theorem told1_nil (Y : TL h₀ h L l I m us k tu tl rows) (e : us.isEmpty = true) : told1 d rows = rows := by
  have h1 := ToldIn.len Y.told
  rw [List.isEmpty_iff.mp e] at h1
  unfold told1
  rw [if_neg]
  rintro ⟨_, q, _⟩
  exact q (List.length_eq_zero_iff.mp h1.symm)
theorem told1_late (h : ¬ d.kind < 2) : told1 d rows = rows := by
  unfold told1
  rw [if_neg fun q => h q.1]
theorem two_ends : ([Str.ofString "\n\r", Str.ofString "\r\r\n"].any fun x => x == strOf d.fin) = true ↔ (d.fin = [10, 13] ∨ d.fin = [13, 13, 10]) := by
  have e1 : Str.ofString "\n\r" = strOf [10, 13] := by decide
  have e2 : Str.ofString "\r\r\n" = strOf [13, 13, 10] := by decide
  have e3 : ∀ a b : List Nat, strOf a = strOf b ↔ b = a := fun a b => ⟨fun q => by injection q with q; simpa using (congrArg Array.toList q).symm, fun q => by rw [q]⟩
  rw [e1, e2]
  simp only [List.any_cons, List.any_nil, Bool.or_false, Bool.or_eq_true, beq_iff_eq, e3]
theorem told1_one (h : ([Str.ofString "\n\r", Str.ofString "\r\r\n"].any fun x => x == strOf d.fin) = false) : told1 d rows = rows := by
  unfold told1
  rw [if_neg]
  rintro ⟨_, _, q⟩
  rw [two_ends.mpr q] at h
  cases h
theorem told1_two (Y : TL h₀ h L l I m us k tu tl rows) (h2 : d.kind < 2) (e : us.isEmpty = false) (h : ([Str.ofString "\n\r", Str.ofString "\r\r\n"].any fun x => x == strOf d.fin) = true) : told1 d rows = rows ++ [⟨[], -1, []⟩] := by
  unfold told1
  have hn : rows ≠ [] := by
    rintro rfl
    have h1 := ToldIn.len Y.told
    rw [List.length_eq_zero_iff.mp h1] at e
    cases e
  rw [if_pos ⟨h2, hn, two_ends.mp h⟩]
end
local macro_rules | `(tactic| walk_at "compareOp NotEq ref ref") => `(tactic| (k_here; k_dflt (refine' ne_nilG (by is_list) (by is_list) (by (try dsimp only [Around.deeper]); first | exact room2 hd | exact room2 hu | exact room1 hd | exact room1 hu | omega) ?_)))
theorem told_if1 {w : World} {p : Program} {loose : List Str} {mean : ExcName → Option Value} {mg mb : Str → Option Value} {dp un : Nat} {fr : Option (List Env)} {gd : Option (List Code)} {s : Shared} {h₀ : Heap} {L l I : Addr} {oI : Obj} {m : Str → Option Value} {us : List Value} {k : Nat} {tu tl : List (Addr × Obj)} {rows : List Row} {d : Deed} {t0 t4 : Tok}
    (X : (Kf w.params).In h₀) (T : Top p loose mean mg mb h₀) (hd : dp + 5 < recursionLimit) (hu : un + 60 < cLine) (Y : TL h₀ s.heap L l I m us k tu tl rows) (hI : (I, oI) ∈ tl) (hz : us.length ≤ 1000)
    (hk : m (Str.ofString "kind") = some (.int d.kind t0)) (ht : m (Str.ofString "told") = some (.ref l)) (he : m (Str.ofString "end") = some (.str (strOf d.fin) t4)) :
    wpAny (model lw.prog w) ((Ar dp un fr gd).deeper (toldE L)) (exec (toldB.getD 2 (.Pass ⟨0, 0, 0, 0⟩)) (toldE L)) (fun f s' => f = .next ∧ ∃ h' tk us' k' tu' tl', s' = { s with heap := h', toks := tk } ∧ TL h₀ h' L l I m us' k' tu' tl' (told1 d rows) ∧ (∀ p ∈ tl, p ∈ tl')) (fun _ _ => False) s := by
  have F := Y.F
  have N := Y.N
  have hoff := Y.off
  rw [at_name hk] at F
  rw [at_name ht] at F
  rw [at_name he] at F
  unfold toldE
  conv in toldB.getD _ _ => whnf
  k_fill
  k_with_none
  k_with "call builtin:list.append" => (k_dflt (refine' append_K (by k_asm) (by k_asm) (by k_upd) ?_ (Nat.le_trans (m := 1000) (by (simp only [List.size_toArray]); omega) (by decide))); intro h' F' N')
  k_with "And" => ((with_reducible show _ = Flow.next ∧ _); refine' Hold.mk ?_)
  k_steps
  all_goals (with_reducible refine' Hold.open ?_)
  all_goals ((with_reducible rename Fr _ _ _ _ => F9); (with_reducible rename News _ _ _ _ => N9); (have F8 : Fr h₀ L _ m := (by rw [at_name hk, at_name ht, at_name he]; exact F9)))
  · rw [told1_nil Y (by assumption)]
    exact ⟨rfl, _, _, us, k, tu, tl, rfl, Y.same F8 N9 (fun p hp => .tail _ hp), fun p hp => hp⟩
  · rw [told1_two Y (by assumption) (by assumption) (by assumption)]
    rename (_ ∧ _ ∧ _ ∧ AllLt _ tl) => q
    refine' ⟨rfl, _, _, _, _, _, _, rfl, Y.add F8 N9 (fun p hp => ?_) q.2.2.1 q.2.2.2 hI ?_ ?_, fun p hp => .tail _ hp⟩
    rotate_left 4
    · rcases List.mem_cons.mp hp with rfl | hp
      · exact .tail _ (.tail _ (.tail _ (.head _)))
      · rcases List.mem_cons.mp hp with rfl | hp
        · exact .head _
        · exact .tail _ (.tail _ (.tail _ (.tail _ hp)))
    · rfl
    · rw [nil_strOf]
      exact ⟨_, rfl⟩
  · rw [told1_one (by assumption)]
    exact ⟨rfl, _, _, us, k, tu, tl, rfl, Y.same F8 N9 (fun p hp => .tail _ (.tail _ hp)), fun p hp => hp⟩
  · rw [told1_late (by assumption)]
    exact ⟨rfl, _, _, us, k, tu, tl, rfl, Y.same F8 N9 (fun p hp => hp), fun p hp => hp⟩
end Mine
end
-- part WToldB
section
open PySem PySem.W PyProof.Rows PySem.Calls PySem.Spec
set_option maxRecDepth 100000
set_option maxHeartbeats 0
set_option linter.unusedVariables false
namespace Mine
noncomputable def told2 (later : List Int) (d : Deed) (rows : List Row) : List Row :=
  if d.kind = 0 then rows ++ [⟨[], (later.count 2 : Nat), if (3 : Int) ∈ later then d.folded else d.typed⟩]
  else if d.kind = 1 ∧ (3 : Int) ∈ later then rows ++ [⟨[], ((later.drop (later.idxOf 3)).count 2 : Nat), d.folded⟩]
  else if d.kind = 1 then rows ++ [⟨d.veil, 0, d.typed⟩]
  else rows
theorem told_step (later : List Int) (d : Deed) (rows : List Row) : toldStep later d rows = told2 later d (told1 d rows) := rfl
theorem any_mem {ns : List Int} {k : Int} : (ns.any (· == k)) = true ↔ k ∈ ns := by
  simp [List.any_eq_true]
theorem any_no {ns : List Int} {k : Int} (h : (ns.any (· == k)) = false) : k ∉ ns := fun q => by
  rw [any_mem.mpr q] at h
  cases h
section
variable {ns : List Int} {d : Deed} {rows : List Row}
theorem told2_a (h : d.kind = 0) (h3 : (3 : Int) ∈ ns) : told2 ns d rows = rows ++ [⟨[], (ns.count 2 : Nat), d.folded⟩] := by unfold told2; rw [if_pos h, if_pos h3]
theorem told2_b (h : d.kind = 0) (h3 : (3 : Int) ∉ ns) : told2 ns d rows = rows ++ [⟨[], (ns.count 2 : Nat), d.typed⟩] := by unfold told2; rw [if_pos h, if_neg h3]
theorem told2_c (h : d.kind ≠ 0) (h1 : d.kind = 1) (h3 : (3 : Int) ∈ ns) : told2 ns d rows = rows ++ [⟨[], ((ns.drop (ns.idxOf 3)).count 2 : Nat), d.folded⟩] := by unfold told2; rw [if_neg h, if_pos ⟨h1, h3⟩]
theorem told2_d (h : d.kind ≠ 0) (h1 : d.kind = 1) (h3 : (3 : Int) ∉ ns) : told2 ns d rows = rows ++ [⟨d.veil, 0, d.typed⟩] := by unfold told2; rw [if_neg h, if_neg fun q => h3 q.2, if_pos h1]
theorem told2_e (h : d.kind ≠ 0) (h1 : d.kind ≠ 1) : told2 ns d rows = rows := by unfold told2; rw [if_neg h, if_neg fun q => h1 q.1, if_neg h1]
end
theorem kf_of_ints {ys : List Value} {ns : List Int} (h : IntsAre ys ns) : kf_ints ys = true := by
  induction h with
  | nil => rfl
  | cons k t _ ih => exact ih
theorem kf_at_ints {ys : List Value} {ns : List Int} {k : Int} (h : IntsAre ys ns) : k ∈ ns → kf_at k ys = some (ns.idxOf k) := by
  induction h with
  | nil => intro hk; cases hk
  | cons z t h ih =>
    intro hk
    unfold kf_at
    by_cases e : z = k
    · subst e
      rw [show isInt z (Value.int z t) = true by simp [isInt], List.idxOf_cons]
      simp
    · rw [show isInt k (Value.int z t) = false by simp [isInt]; exact e, ih ((List.mem_cons.mp hk).resolve_left fun q => e q.symm), List.idxOf_cons]
      rw [show (z == k) = false by simpa using e]; rfl
section
variable {prog : Program} {w : World} {A : Around} {E : Value → Shared → Prop} {s : Shared} {h₀ : Heap} {L : Addr} {news : List (Addr × Obj)}
theorem index_ints {D : Addr} {ys : List Value} {ns : List Int} {k : Int} {t : Tok} {n : Nat} {Q : Value → Shared → Prop} (N : News h₀ L s.heap news) (hm : (D, listOf ys.toArray n) ∈ news) (hi : IntsAre ys ns) (hk : k ∈ ns) (hz : ys.length ≤ 1000)
    (h : Q (.int (ns.idxOf k : Nat) s.toks) { s with toks := s.toks + 1 }) : wpAny (model prog w) A (call (.builtin "list.index") [.ref D, .int k t]) Q E s :=
  kf_index N hm (kf_of_ints hi) (kf_at_ints hi hk) rfl (Nat.le_trans hz (by decide)) h
theorem count_slice {D : Addr} {ys : List Value} {ns : List Int} {k : Int} {t : Tok} {j n : Nat} {d : Option Addr} {sl : Array (Option Value)} {Q : Value → Shared → Prop} (N : News h₀ L s.heap news) (hm : (D, { cls := .type "list", dict := d, data := .seq (slicePick ys.toArray (some (j : Int)) none none) n, slots := sl }) ∈ news) (hi : IntsAre ys ns) (hj : j ≤ ns.length)
    (h : Q (.int ((ns.drop j).count k : Nat) s.toks) { s with toks := s.toks + 1 }) : wpAny (model prog w) A (call (.builtin "list.count") [.ref D, .int k t]) Q E s := by
  have hl := News.isList N hm
  rw [slicePick_from ys.toArray j (by simp [hi.length]; omega)] at hl
  exact count_list_ints hl (hi.drop j) h
end
theorem told_if2 {w : World} {p : Program} {loose : List Str} {mean : ExcName → Option Value} {mg mb : Str → Option Value} {dp un : Nat} {fr : Option (List Env)} {gd : Option (List Code)} {s : Shared} {h₀ : Heap} {L l I D : Addr} {oI : Obj} {m : Str → Option Value} {us ys : List Value} {ns : List Int} {k kD : Nat} {tu tl : List (Addr × Obj)} {rows : List Row} {d : Deed} {t0 t1 t2 t3 : Tok}
    (X : (Kf w.params).In h₀) (T : Top p loose mean mg mb h₀) (hd : dp + 5 < recursionLimit) (hu : un + 60 < cLine) (Y : TL h₀ s.heap L l I m us k tu tl rows) (hI : (I, oI) ∈ tl) (hz : us.length ≤ 1000) (hD : (D, listOf ys.toArray kD) ∈ tl) (hi : IntsAre ys ns) (hzn : ns.length ≤ 1000)
    (hk : m (Str.ofString "kind") = some (.int d.kind t0)) (ht : m (Str.ofString "told") = some (.ref l)) (hla : m (Str.ofString "later") = some (.ref D)) (hve : m (Str.ofString "veil") = some (.str (strOf d.veil) t1)) (hty : m (Str.ofString "typed") = some (.str (strOf d.typed) t2)) (hfo : m (Str.ofString "folded") = some (.str (strOf d.folded) t3)) :
    wpAny (model lw.prog w) ((Ar dp un fr gd).deeper (toldE L)) (exec (toldB.getD 3 (.Pass ⟨0, 0, 0, 0⟩)) (toldE L)) (fun f s' => f = .next ∧ ∃ h' tk us' k' tu' tl', s' = { s with heap := h', toks := tk } ∧ TL h₀ h' L l I m us' k' tu' tl' (told2 ns d rows) ∧ (∀ p ∈ tl, p ∈ tl')) (fun _ _ => False) s := by
  have F := Y.F
  have N0 := Y.N
  have N : News h₀ L s.heap ((D, listOf ys.toArray kD) :: (l, listOf us.toArray k) :: tl) := fun p hp => by
    rcases List.mem_cons.mp hp with rfl | hp
    · exact N0 _ (.tail _ hD)
    · exact N0 _ hp
  clear N0
  have hDl : @Ne Nat D l := Y.off _ hD l (.head _)
  have hoff := Y.off
  have hyl : ys.length ≤ 1000 := by rw [hi.length]; exact hzn
  rw [at_name hk] at F
  rw [at_name ht] at F
  rw [at_name hla] at F
  rw [at_name hve] at F
  rw [at_name hty] at F
  rw [at_name hfo] at F
  unfold toldE
  conv in toldB.getD _ _ => whnf
  k_fill
  k_with_none
  k_with "call builtin:list.append" => (k_dflt (refine' append_K (by k_asm) (by k_asm) (by k_upd) ?_ (Nat.le_trans (m := 1000) (by (simp only [List.size_toArray]); omega) (by decide))); intro h' F' N')
  k_with "call builtin:list.count" => ((with_reducible rename News _ _ _ _ => N9); k_dflt (first | refine' count_slice N9 (by k_mem) hi List.idxOf_le_length ?_ | refine' count_list_ints (by is_list) hi ?_))
  k_with "call builtin:list.index" => ((with_reducible rename News _ _ _ _ => N9); k_dflt (refine' index_ints N9 (by k_mem) hi (any_mem.mp (by assumption)) hyl ?_))
  k_with "subscriptTail Name Slice ref ref" => ((with_reducible show wpAny _ _ (subscriptTail _ (PySem.Expr.Slice _ _ none _) (Value.ref _) (Value.ref _)) _ _ _); (with_reducible rename News _ _ _ _ => N9); k_dflt (refine' kmk_slice (by k_asm) N9 (News.isList N9 (.head _)) (IsPart.int _ _) IsPart.none ?_ (by with_unfolding_all rfl) (by intro _; with_unfolding_all rfl) (Nat.le_trans (m := 1000) (by (simp only [List.size_toArray]); omega) (by decide))); intro D' h' F' N' l1; (try k_lt l1))
  k_with "compareOp In int ref" => (k_dflt (refine' in_list_ints (by is_list) hi ?_))
  k_with "And" => ((with_reducible show _ = Flow.next ∧ _); refine' Hold.mk ?_)
  k_steps
  all_goals (with_reducible refine' Hold.open ?_)
  all_goals ((with_reducible rename Fr _ _ _ _ => F9); (with_reducible rename News _ _ _ _ => N9); (have F8 : Fr h₀ L _ m := (by rw [at_name hk, at_name ht, at_name hla, at_name hve, at_name hty, at_name hfo]; exact F9)))
  · rw [told2_a (by assumption) (any_mem.mp (by assumption))]
    rename (_ ∧ _ ∧ AllLt _ tl) => q
    refine' ⟨rfl, _, _, _, _, _, _, rfl, Y.add F8 N9 (fun p hp => ?_) q.2.1 q.2.2 hI ?_ ?_, fun p hp => .tail _ hp⟩
    rotate_left 4
    · rcases List.mem_cons.mp hp with rfl | hp
      · exact .tail _ (.tail _ (.head _))
      · rcases List.mem_cons.mp hp with rfl | hp
        · exact .head _
        · exact .tail _ (.tail _ (.tail _ hp))
    · rfl
    · rw [nil_strOf]; exact ⟨_, rfl⟩
  · rw [told2_b (by assumption) (any_no (by assumption))]
    rename (_ ∧ _ ∧ AllLt _ tl) => q
    refine' ⟨rfl, _, _, _, _, _, _, rfl, Y.add F8 N9 (fun p hp => ?_) q.2.1 q.2.2 hI ?_ ?_, fun p hp => .tail _ hp⟩
    rotate_left 4
    · rcases List.mem_cons.mp hp with rfl | hp
      · exact .tail _ (.tail _ (.head _))
      · rcases List.mem_cons.mp hp with rfl | hp
        · exact .head _
        · exact .tail _ (.tail _ (.tail _ hp))
    · rfl
    · rw [nil_strOf]; exact ⟨_, rfl⟩
  · rw [told2_c (by assumption) (by assumption) (any_mem.mp (by assumption))]
    rename (_ ∧ _ ∧ _ ∧ AllLt _ tl) => q
    refine' ⟨rfl, _, _, _, _, _, _, rfl, Y.add F8 N9 (fun p hp => ?_) q.2.2.1 q.2.2.2 hI ?_ ?_, fun p hp => .tail _ hp⟩
    rotate_left 4
    · rcases List.mem_cons.mp hp with rfl | hp
      · exact .tail _ (.tail _ (.tail _ (.head _)))
      · rcases List.mem_cons.mp hp with rfl | hp
        · exact .head _
        · exact .tail _ (.tail _ (.tail _ (.tail _ hp)))
    · rfl
    · rw [nil_strOf]; exact ⟨_, rfl⟩
  · rw [told2_d (by assumption) (by assumption) (any_no (by assumption))]
    rename (_ ∧ _ ∧ AllLt _ tl) => q
    refine' ⟨rfl, _, _, _, _, _, _, rfl, Y.add F8 N9 (fun p hp => ?_) q.2.1 q.2.2 hI ?_ ?_, fun p hp => .tail _ hp⟩
    rotate_left 4
    · rcases List.mem_cons.mp hp with rfl | hp
      · exact .tail _ (.tail _ (.head _))
      · rcases List.mem_cons.mp hp with rfl | hp
        · exact .head _
        · exact .tail _ (.tail _ (.tail _ hp))
    · rfl
    · exact ⟨_, rfl⟩
  · exfalso; omega
  · exfalso; omega
  · rw [told2_e (by assumption) (by assumption)]
    exact ⟨rfl, _, _, us, k, tu, tl, rfl, Y.same F8 N9 (fun p hp => .tail _ hp), fun p hp => hp⟩
end Mine
end
-- part WToldC
section
open PySem PySem.W PyProof.Rows PySem.Calls PySem.Spec
set_option maxRecDepth 100000
set_option maxHeartbeats 0
set_option linter.unusedVariables false
namespace Mine
theorem toldF_len (ds : List Deed) : ∀ i : Nat, (toldF ds i).length ≤ 2 * i
  | 0 => Nat.le_refl _
  | i + 1 => by
    have h := toldF_len ds i
    unfold toldF
    cases ds[i]? with
    | none => simp only; omega
    | some d =>
      simp only
      rw [told_step]
      have h1 : (told1 d (toldF ds i)).length ≤ (toldF ds i).length + 1 := by
        unfold told1
        split
        · simp
        · omega
      have h2 : (told2 (laterOf ds i) d (told1 d (toldF ds i))).length ≤ (told1 d (toldF ds i)).length + 1 := by
        unfold told2
        split
        · simp
        · split
          · simp
          · split
            · simp
            · omega
      omega
theorem told_turn {w : World} {p : Program} {loose : List Str} {mean : ExcName → Option Value} {mg mb : Str → Option Value} {dp un : Nat} {fr : Option (List Env)} {gd : Option (List Code)} {s s₀ : Shared} {h₀ : Heap} {L l fl I D Ds : Addr} {oI os : Obj} {m : Str → Option Value} {us ys : List Value} {k kD : Nat} {tl : List (Addr × Obj)} {ds : List Deed} {d : Deed} {i : Nat} {t0 t1 t2 t3 t4 : Tok} {Q : Flow → Shared → Prop}
    (X : (Kf w.params).In h₀) (T : Top p loose mean mg mb h₀) (hd : dp + 5 < recursionLimit) (hu : un + 60 < cLine) (hs : ∃ h tk, s = { s₀ with heap := h, toks := tk })
    (F : Fr h₀ L s.heap m) (N : News h₀ L s.heap ((D, listOf ys.toArray kD) :: (Ds, os) :: (I, oI) :: (fl, listOf us.toArray k) :: tl)) (hDf : @Ne Nat D fl) (hsf : @Ne Nat Ds fl) (hIf : @Ne Nat fl I) (htI : ∀ p ∈ tl, @Ne Nat p.1 I) (hoff : OwnOff tl [fl])
    (hT : ToldIn tl us (toldF ds i)) (hdi : ds[i]? = some d) (hn : ds.length ≤ 20) (hi : IntsAre ys (laterOf ds i))
    (hk : m (Str.ofString "kind") = some (.int d.kind t0)) (ht : m (Str.ofString "told") = some (.ref fl)) (hde : m (Str.ofString "deeds") = some (.ref l)) (he : m (Str.ofString "end") = some (.str (strOf d.fin) t4)) (hla : m (Str.ofString "later") = some (.ref D)) (hve : m (Str.ofString "veil") = some (.str (strOf d.veil) t1)) (hty : m (Str.ofString "typed") = some (.str (strOf d.typed) t2)) (hfo : m (Str.ofString "folded") = some (.str (strOf d.folded) t3)) :
    wpAny (model lw.prog w) ((Ar dp un fr gd).deeper (toldE L)) (execs [toldB.getD 2 (.Pass ⟨0, 0, 0, 0⟩), toldB.getD 3 (.Pass ⟨0, 0, 0, 0⟩)] (toldE L)) (HStep h₀ L s₀ (TJ ds l fl (i + 1)) I oI Q) (fun _ _ => False) s := by
  have hil : i < ds.length := by
    obtain ⟨q, _⟩ := List.getElem?_eq_some_iff.mp hdi
    exact q
  have hzl := toldF_len ds i
  have hus := ToldIn.len hT
  have hln : (laterOf ds i).length ≤ 1000 := by
    unfold laterOf
    rw [List.length_map, List.length_drop]
    omega
  have Y : TL h₀ s.heap L fl I m us k tl ((D, listOf ys.toArray kD) :: (Ds, os) :: (I, oI) :: tl) (toldF ds i) := by
    refine ⟨F, fun p hp => N p ?_, ?_, fun p hp => .tail _ (.tail _ (.tail _ hp)), htI, hT⟩
    · rcases List.mem_cons.mp hp with rfl | hp
      · exact .tail _ (.tail _ (.tail _ (.head _)))
      · rcases List.mem_cons.mp hp with rfl | hp
        · exact .head _
        · rcases List.mem_cons.mp hp with rfl | hp
          · exact .tail _ (.head _)
          · rcases List.mem_cons.mp hp with rfl | hp
            · exact .tail _ (.tail _ (.head _))
            · exact .tail _ (.tail _ (.tail _ (.tail _ hp)))
    · intro p hp b hb
      rw [List.mem_singleton.mp hb]
      rcases List.mem_cons.mp hp with rfl | hp
      · exact hDf
      · rcases List.mem_cons.mp hp with rfl | hp
        · exact hsf
        · rcases List.mem_cons.mp hp with rfl | hp
          · exact fun q => hIf q.symm
          · exact hoff p hp fl (.head _)
  refine wpAny_execs_cons (wpAny_mono (told_if1 (oI := oI) X T hd hu Y (.tail _ (.tail _ (.head _))) (by omega) hk ht he) (fun f s₁ h₁ => ?_) fun _ _ e => e)
  obtain ⟨rfl, h1, tk1, us1, k1, tu1, tl1, rfl, Y1, hsub1⟩ := h₁
  have hus1 := ToldIn.len Y1.told
  have hz1 : (told1 d (toldF ds i)).length ≤ (toldF ds i).length + 1 := by
    unfold told1
    split
    · simp
    · omega
  refine wpAny_execs_cons (wpAny_mono (told_if2 (oI := oI) X T hd hu Y1 (hsub1 _ (.tail _ (.tail _ (.head _)))) (by omega) (hsub1 _ (.head _)) hi hln hk ht hla hve hty hfo) (fun f s₂ h₂ => ?_) fun _ _ e => e)
  obtain ⟨rfl, h2, tk2, us2, k2, tu2, tl2, rfl, Y2, hsub2⟩ := h₂
  refine wpAny_execs_nil ?_
  obtain ⟨hx, tkx, rfl⟩ := hs
  have hIn2 : (I, oI) ∈ tl2 := hsub2 _ (hsub1 _ (.tail _ (.tail _ (.head _))))
  refine hnext (nx := (fl, listOf us2.toArray k2) :: tu2) Y2.F Y2.N (.tail _ hIn2) (fun p hp => ?_) (fun p hp => ?_) ⟨us2, k2, tu2, ht, hde, rfl, fun p hp b hb => ?_, ?_⟩
  · rcases List.mem_cons.mp hp with rfl | hp
    · exact .head _
    · exact .tail _ (Y2.sub p hp)
  · rcases List.mem_cons.mp hp with rfl | hp
    · exact hIf
    · exact Y2.ne p hp
  · exact Y2.off p (Y2.sub p hp) b hb
  · have e : toldF ds (i + 1) = told2 (laterOf ds i) d (told1 d (toldF ds i)) := by
      conv => lhs; unfold toldF
      rw [hdi]
      rfl
    rw [e]
    exact Y2.told
end Mine
end
-- part WTold
section
open PySem PySem.W PyProof.Rows PySem.Calls PySem.Spec
set_option maxRecDepth 100000
set_option maxHeartbeats 0
set_option linter.unusedVariables false
namespace Mine
theorem told_end {s : Shared} {Q : Value → Shared → Prop} {ds : List Deed} {h' : Heap} {L a : Addr} {mp : Str → Option Value} {news' tl : List (Addr × Obj)} {us : List Value} {k tk : Nat} {rows : List Row}
    (hret : ∀ r h' tk', Keeps s.heap h' → (∃ a us k tl, r = .ref a ∧ s.heap.get? a = none ∧ h'.get? a = some (listOf us.toArray k) ∧ ToldIn tl us (toldAll ds) ∧ ∀ p ∈ tl, h'.get? p.1 = some p.2 ∧ s.heap.get? p.1 = none) → Q r { s with heap := h', toks := tk' })
    (F : Fr s.heap L h' mp) (N : News s.heap L h' news') (hm : (a, listOf us.toArray k) ∈ news') (hT : ToldIn tl us rows) (sub : ∀ p ∈ tl, p ∈ news') (e : rows = toldAll ds) : Q (.ref a) { s with heap := h', toks := tk } := by
  subst e
  exact hret _ _ _ F.keep ⟨a, us, k, tl, rfl, (N _ hm).2.2, (N _ hm).1, hT, fun p hp => ⟨(N _ (sub p hp)).1, (N _ (sub p hp)).2.2⟩⟩
theorem told_none {tl : List (Addr × Obj)} {us : List Value} {ds : List Deed} (hT : ToldIn tl us (toldF ds ds.length)) (e : us.isEmpty = true) : toldAll ds = [⟨[], -1, []⟩] := by
  have h1 := ToldIn.len hT
  rw [List.isEmpty_iff.mp e] at h1
  unfold toldAll
  rw [if_neg (fun q => q (List.length_eq_zero_iff.mp h1.symm))]
theorem told_end0 {s : Shared} {Q : Value → Shared → Prop} {ds : List Deed} {h' : Heap} {L a D : Addr} {mp : Str → Option Value} {rest tl : List (Addr × Obj)} {us : List Value} {k tk : Nat} {t0 t1 t2 : Tok} {dd : Option Addr} {sl : Array (Option Value)} {nn : Nat}
    (hret : ∀ r h' tk', Keeps s.heap h' → (∃ a us k tl, r = .ref a ∧ s.heap.get? a = none ∧ h'.get? a = some (listOf us.toArray k) ∧ ToldIn tl us (toldAll ds) ∧ ∀ p ∈ tl, h'.get? p.1 = some p.2 ∧ s.heap.get? p.1 = none) → Q r { s with heap := h', toks := tk' })
    (F : Fr s.heap L h' mp) (N : News s.heap L h' ((a, listOf #[.ref D] k) :: (D, { cls := .type "tuple", dict := dd, data := .seq #[.str (Str.ofString "") t0, .int (-1) t1, .str (Str.ofString "") t2] nn, slots := sl }) :: rest)) (hT : ToldIn tl us (toldF ds ds.length)) (e : us.isEmpty = true) : Q (.ref a) { s with heap := h', toks := tk } := by
  have e0 : Str.ofString "" = strOf [] := nil_strOf
  rw [e0] at N
  exact told_end (us := [.ref D]) (k := k) hret F N (.head _) (tl := [(D, { cls := .type "tuple", dict := dd, data := .seq #[.str (strOf []) t0, .int (-1) t1, .str (strOf []) t2] nn, slots := sl })]) (.cons ⟨D, _, t0, t1, t2, rfl, .head _, rfl, nn, rfl⟩ .nil) (fun p hp => by rw [List.mem_singleton.mp hp]; exact .tail _ (.head _)) (told_none hT e).symm
theorem told_some {tl : List (Addr × Obj)} {us : List Value} {ds : List Deed} (hT : ToldIn tl us (toldF ds ds.length)) (e : us.isEmpty = false) : toldAll ds = toldF ds ds.length := by
  unfold toldAll
  rw [if_pos]
  intro q
  rw [q] at hT
  have h1 := ToldIn.len hT
  rw [List.length_eq_zero_iff.mp h1] at e
  cases e
local macro_rules | `(tactic| walk_at "call builtin:len") => `(tactic| (k_here; (with_reducible show wpAny _ _ (call (Value.builtin _) [Value.ref _]) _ _ _); k_dflt (refine' call_len_list ?k1 ?k2 ?_); (case k1 => is_list); (case k2 => (rw [List.size_toArray]; omega)); (try dsimp only [List.size_toArray])))
local macro_rules | `(tactic| walk_at "compareOp NotEq ref ref") => `(tactic| (k_here; k_dflt (refine' ne_nilG (by is_list) (by is_list) (by (try dsimp only [Around.deeper]); first | exact room2 hd | exact room2 hu | exact room1 hd | exact room1 hu | omega) ?_)))
noncomputable def tupKind (h : Heap) : ItemKind Int where
  is := fun k v => ∃ a t its, v = .ref a ∧ IsTup h a its ∧ its[0]? = some (Value.int k t)
  un := fun v => match v with
    | .ref a => match h.get? a with
      | some o => match o.data with
        | .seq its _ => match its[0]? with
          | some (Value.int k _) => some k
          | _ => none
        | _ => none
      | none => none
    | _ => none
  ok := by
    rintro k v ⟨a, t, its, rfl, ⟨o, ho, hc, n, hd⟩, h0⟩
    simp only [ho, hd, h0]
theorem DeedsAre.kinds {h : Heap} {vs : List Value} {ds : List Deed} (D : DeedsAre h vs ds) : AreOf (tupKind h) vs (ds.map (·.kind)) := by
  induction D with
  | nil => exact .nil
  | cons a _ ih =>
    obtain ⟨a, t0, t1, t2, t3, t4, e, T⟩ := a
    exact .cons ⟨a, t0, _, e, T, rfl⟩ ih
theorem DeedsAre.drop {h : Heap} {vs : List Value} {ds : List Deed} (D : DeedsAre h vs ds) : ∀ k : Nat, DeedsAre h (vs.drop k) (ds.drop k) := by
  induction D with
  | nil => intro k; simp; exact .nil
  | cons a b ih =>
    intro k
    cases k with
    | zero => exact .cons a b
    | succ k => exact ih k
theorem slice_from {vs : List Value} {i : Nat} (h : i < vs.length) : slicePick vs.toArray (some ((i : Nat) + 1 : Int)) none none = (vs.drop (i + 1)).toArray :=
  slicePick_from vs.toArray (i + 1) (by simp; omega)
theorem seqIdx0 {its : Array Value} {x : Value} (h : its[0]? = some x) : seqIndex? (0 : Int) its.size = some 0 := by
  have h0 : 0 < its.size := by
    obtain ⟨q, _⟩ := Array.getElem?_eq_some_iff.mp h
    exact q
  simp [seqIndex?, h0]
theorem told_does (w : World) (l : Addr) (vs : List Value) (ds : List Deed) (hn : ds.length ≤ 20) :
    Does w 185 12 150 [.ref l] (fun h => h.IsList l vs.toArray ∧ DeedsAre h vs ds) (fun h r h' => ∃ a us k tl, r = .ref a ∧ h.get? a = none ∧ h'.get? a = some (listOf us.toArray k) ∧ ToldIn tl us (toldAll ds) ∧ ∀ p ∈ tl, h'.get? p.1 = some p.2 ∧ h.get? p.1 = none) := by
  constructor
  k_fill
  intro p loose mean mg mb dp un fr gd s Q X T hd hu hp hret
  refine' enterF (binds := [(Str.ofString "deeds", .ref l)]) ?k1 ?k2 ?k3 ?k4 ?k5 ?k6 ?k7 ?_ ?c1 ?c2 ?c3 ?c4
  case k1 => exact X
  case k2 => exact T
  case k3 => k_is
  case k4 => k_is
  case k5 => (show dp < recursionLimit; first | exact Nat.lt_of_le_of_lt (Nat.le_add_right _ _) hd | omega)
  case k6 => exact BindsTo.of_eq rfl
  case k7 => exact locs rfl
  case c1 => rfl
  case c2 => rfl
  case c3 => rfl
  case c4 => decide
  intro L h tk F N
  conv in fBody _ => whnf
  have hlv := DeedsAre.len hp.2
  have hpl := hp.1
  k_with_none
  k_with "exec For Name Call cons nil" => (with_reducible refine wpAny_For ?_ (fun _ => rfl))
  k_with "subscriptTail" => (k_dflt (first | refine' item_tuple T9 (by decide) (by decide) (seqIdx0 h8) h8 ?_ | refine' item_listR (by is_list) (by omega) (by omega) hget ?_))
  k_with "exec Assign cons ListComp" => (k_dflt (refine' acomp (tupKind s.heap) PyData.int (by k_asm) rfl rfl rfl rfl (by decide) rfl (by decide) rfl rfl rfl ?_ (fun _ => rfl)))
  k_with "subscriptTail Name Slice ref ref" => ((with_reducible show wpAny _ _ (subscriptTail _ (PySem.Expr.Slice _ _ none _) (Value.ref _) (Value.ref _)) _ _ _); (with_reducible rename News _ _ _ _ => N9); k_dflt (refine' kmk_slice (by k_asm) N9 (by is_list) (IsPart.int _ _) IsPart.none ?_ (by with_unfolding_all rfl) (by intro _; with_unfolding_all rfl) (Nat.le_trans (m := 1000) (by (simp only [List.size_toArray]); omega) (by decide))); intro D' h' F' N' l1; (try k_lt l1))
  k_with "CompPack" => ((with_reducible show CompPack _); (with_reducible rename Fr _ _ _ _ => F6); (with_reducible rename News _ _ _ _ => N6); k_dflt (refine' CompPack.intro ⟨_, _, vs.drop (i9 + 1), _, rfl, (by rw [← slice_from hlen9]; exact News.isList N6 (.head _)), DeedsAre.kinds (DeedsAre.drop hp.2 (i9 + 1)), le_sizeLine (n := _) (by rw [List.length_map, List.length_drop]; omega), F6, N6, ?_, ?_⟩); (focus (rintro C7 a7 v7 s7 m7 E7 hC7 ha7 ⟨a8, t8, its8, e8, T8, h8⟩ hns7 hm7 hk7; subst e8; (have F7 := Fr.keeps F6 hk7); (have N7 := News.grown N6 hk7); (have T9 := IsTup.keepK T8 F7.keep); clear F6 N6)); (rotate_left; focus (intro D7 ys7 h7 tk7 F7 N7 hD7 hl7 hp7 hc7; (obtain ⟨k7, N5, hne7⟩ := newPlain_news F7 N7 hD7 hp7); (have hi7 := carried_ints hc7); clear N7 F6 N6; refine' Hold.mk ?_)); rotate_right)
  k_with "pyIter ref" => (k_dflt (refine' for_rangeG (n := ds.length) (TJ ds l _) rfl rfl rfl (by assumption) (by rw [List.size_toArray, hlv]) (by omega) (by k_asm) (by k_asm) ?_ ?_ ?_ PassesOwn.never); ((with_reducible rename Fr _ _ _ _ => F9); (with_reducible rename News _ _ _ _ => N9)); all_goals (first | refine' Hold.mk ?_ | skip))
  k_steps
  all_goals try (with_reducible refine' Hold.open ?_)
  rotate_left
  · refine tj_start ?_ ?_ <;> rfl
  · rename_i h9 F9 N9; clear F9 N9
    rintro i m₁ news₁ h₁ tk₁ I oI t hi ⟨us, k, tl, hm, hm2, rfl, hoff, hT⟩ hlt hne F0 N
    have F := F0
    rw [at_name hm] at F
    rw [at_name hm2] at F
    clear F0
    have hlen : i < vs.length := by omega
    obtain ⟨d, hd, a, t0, t1, t2, t3, t4, hva, T5⟩ := DeedsAre.get hp.2 (List.getElem?_eq_getElem hlen)
    have hget : vs.toArray[((i : Nat) : Int).toNat]? = some (.ref a) := by rw [Int.toNat_natCast, List.getElem?_toArray, List.getElem?_eq_getElem hlen, hva]
    let i9 := i
    have hlen9 : i9 < vs.length := hlen
    k_steps
    all_goals try exact Carried.int _ _
    all_goals try exact ⟨_, _, rfl, fun _ _ e => e⟩
    refine' Hold.open ?_
    refine told_turn (ds := ds) (d := d) (i := i) (l := l) (t0 := t0) (t1 := t1) (t2 := t2) (t3 := t3) (t4 := t4) X T (by omega) (by omega) ⟨_, _, rfl⟩ F7 N5 (fun q => hne7 _ (.tail _ (.tail _ (.head _))) q.symm) (by omega) (hne _ (.head _)) (fun p hp => hne p (.tail _ hp)) hoff hT hd hn hi7 ?_ ?_ ?_ ?_ ?_ ?_ ?_ ?_ <;> rfl
  · rename_i h9 F9 N9; clear F9 N9
    rintro m₁ news₁ h₁ tk₁ ⟨us, k, tl, hm, hm2, rfl, hoff, hT⟩ F0 N
    have F := F0
    rw [at_name hm] at F
    rw [at_name hm2] at F
    clear F0
    k_steps
    all_goals ((with_reducible rename Fr _ _ _ _ => F9); (with_reducible rename News _ _ _ _ => N9))
    · exact told_end0 (s := s) hret F9 N9 hT (by assumption)
    · exact told_end (s := s) hret F9 N9 (.tail _ (.head _)) hT (fun p hp => .tail _ (.tail _ hp)) (told_some hT (by assumption)).symm
end Mine
end
-- part WRow
section
open PySem PySem.W PyProof.Rows PySem.Calls PySem.Spec
set_option maxRecDepth 100000
set_option maxHeartbeats 0
set_option linter.unusedVariables false
namespace Mine
local macro_rules | `(tactic| walk_at "PAD") => `(tactic| fail "pad")
local macro_rules | `(tactic| walk_at "binaryOp Add ref ref") => `(tactic| (k_here; (with_reducible rename CarriedAll _ _ => hc9); (have hI9 := carried_ints hc9); clear hc9; (refine' kmk_add_ints ?F ?N ?a ?b ?i ?j ?_ ?z; (case F => k_asm); (case N => k_asm); (case a => kmk_list); (case b => kmk_list); (case i => l_ints); (case j => l_ints); (case z => kmk_sum)); intro D' ws' h' F' N' l1 hI'; (try k_lt l1); (try k_sweep)))
theorem menuB {l : List Int} {i : Nat} (h : (0 :: l).all (fun k => decide ((0 : Int) ≤ k) && decide (k ≤ 1114111)) = true) : 0 ≤ l.getD i 0 ∧ l.getD i 0 ≤ 1114111 := kmn_any h
local macro_rules | `(tactic| walk_at "call builtin:chr") => `(tactic| (k_here; refine' chr_of_range ?a9 ?b9 ?_; (case a9 => first | exact (chrM _ _).1 | exact (menuB (by decide)).1); (case b9 => first | exact (chrM _ _).2 | exact (menuB (by decide)).2); k_whole))
noncomputable def RowPost (h : Heap) (r : Value) (h' : Heap) : Prop := ∃ l, r = .ref l ∧ h.get? l = none ∧ ∃ a b c d t1 t2 t3 t4, h'.get? l = some (tupO [.str a t1, .str b t2, .str c t3, .str d t4]) ∧ RowOk a b c d
theorem row_end {s : Shared} {Q : Value → Shared → Prop} {h' : Heap} {L l : Addr} {m : Str → Option Value} {a b c d : Str} {t1 t2 t3 t4 : Tok} {rest : List (Addr × Obj)} {tk' : Nat}
    (hret : ∀ r h' tk', Keeps s.heap h' → RowPost s.heap r h' → Q r { s with heap := h', toks := tk' }) (F : Fr s.heap L h' m) (N : News s.heap L h' ((l, tupO [.str a t1, .str b t2, .str c t3, .str d t4]) :: rest)) (hr : RowOk a b c d) :
    Q (.ref l) { s with heap := h', toks := tk' } := hret _ _ _ F.keep ⟨l, rfl, (N _ (.head _)).2.2, a, b, c, d, t1, t2, t3, t4, (N _ (.head _)).1, hr⟩
theorem row_does (w : World) (x y : Int) (t1 t2 : Tok) (h0 : 0 ≤ x) (h1 : x < 8) (h2 : 0 ≤ y) :
    Does w 161 5 50 [.int x t1, .int y t2] (fun _ => True) RowPost := by
  constructor
  k_fill
  intro p loose mean mg mb dp un fr gd s Q X T hd hu hp hret
  refine' enterF (binds := [(Str.ofString "place", .int x t1), (Str.ofString "rest", .int y t2)]) ?k1 ?k2 ?k3 ?k4 ?k5 ?k6 ?k7 ?_ ?c1 ?c2 ?c3 ?c4
  case k1 => exact X
  case k2 => exact T
  case k3 => k_is
  case k4 => k_is
  case k5 => (show dp < recursionLimit; first | exact Nat.lt_of_le_of_lt (Nat.le_add_right _ _) hd | omega)
  case k6 => exact BindsTo.of_eq rfl
  case k7 => exact locs rfl
  case c1 => rfl
  case c2 => rfl
  case c3 => rfl
  case c4 => decide
  intro L h tk F N
  conv in fBody _ => whnf
  k_with_none
  k_with "table" => skip
  k_steps
  all_goals (refine row_end (s := s) hret (by k_asm) (by k_asm) ?_)
  all_goals first
    | exact row0 _ _ 0
    | exact row1 _ _ _ _
    | exact row2 _ _ _ _
    | (refine row3 _ _ _ _ _ ?_; (have q9 : ((y.fdiv 27).fmod 13).toNat < 13 := fm _ (n := 13)); omega)
    | trace_state
end Mine
end
-- part WDeeds
section
open PySem PySem.W PyProof.Rows PySem.Calls PySem.Spec
set_option maxRecDepth 100000
set_option maxHeartbeats 0
set_option linter.unusedVariables false
namespace Mine
open LCg in
theorem compRest_inv {prog : Program} {w : World} {A : Around} {s : Shared} {h₀ : Heap} {L : Addr} {m : Str → Option Value} {env : Env} {elt : Expr} {x : Str} {scope : Scope} {cl : List (Str × Addr)} {S : List (Addr × Obj) → Prop} {P : Nat → Value → Prop} {Fin : List Value → List (Addr × Obj) → Prop}
    (Inv : Nat → List Value → List (Addr × Obj) → Prop) (n : Nat)
    (step : ∀ i ys news v I oI C oC D m₂ h tk (E' : Value → Shared → Prop), i < n → Inv i ys news → P i v → NsObj oC m₂ → m₂ x = some v → Fr h₀ L h m → News h₀ L h ((I, oI) :: (C, oC) :: (D, lst ys) :: news) → Off3 I C D news → ((@Ne Nat I C) ∧ (@Ne Nat I D) ∧ (@Ne Nat C D)) →
      wpAny (model prog w) A (eval elt (compEnvC scope cl C env)) (CompEnd h₀ L m { s with heap := h, toks := tk } I oI C oC D (lst ys) S (fun y news' => Inv (i + 1) (ys ++ [y]) news')) E' { s with heap := h, toks := tk })
    (fin : ∀ ys news, Inv n ys news → Fin ys news) : ∀ (k i : Nat) (ys : List Value) (news : List (Addr × Obj)), i + k = n → Inv i ys news → CompRest prog w A h₀ L m env elt x scope cl s S P Fin k i ys news
  | 0, i, ys, news, e, hi => CompRest.zero (fin ys news (by rw [← e]; exact hi))
  | k + 1, i, ys, news, e, hi => CompRest.succ fun v I oI C oC D m₂ h tk E' hP hC hx F N off ne => by
    refine wpAny_mono (step i ys news v I oI C oC D m₂ h tk E' (by omega) hi hP hC hx F N off ne) (fun y s₂ h₂ => ?_) fun _ _ q => q
    obtain ⟨h', tk', news', e', F', N', off', hS, hInv⟩ := h₂
    exact ⟨h', tk', news', e', F', N', off', hS, compRest_inv Inv n step fin k (i + 1) (ys ++ [y]) news' (by omega) hInv⟩
inductive NatsAre : List Value → Prop
  | nil : NatsAre []
  | cons (n : Int) (t : Tok) {vs} : 0 ≤ n → NatsAre vs → NatsAre (.int n t :: vs)
theorem NatsAre.snoc {vs : List Value} {n : Int} {t : Tok} (h : NatsAre vs) (hn : 0 ≤ n) : NatsAre (vs ++ [.int n t]) := by
  induction h with
  | nil => exact .cons n t hn .nil
  | cons k u hk _ ih => exact .cons k u hk ih
theorem ints_nth {vs : List Value} {ns : List Int} (h : IntsAre vs ns) : ∀ j : Nat, (vs[j]? = none ∧ ns[j]? = none) ∨ ∃ n t, vs[j]? = some (.int n t) ∧ ns[j]? = some n := by
  induction h with
  | nil => intro j; exact .inl ⟨rfl, rfl⟩
  | cons n t _ ih =>
    intro j
    cases j with
    | zero => exact .inr ⟨n, t, rfl, rfl⟩
    | succ j => exact ih j
theorem ints_pick {vs : List Value} {ns : List Int} (h : IntsAre vs ns) : ∀ js : List Nat, IntsAre (js.filterMap (vs.toArray[·]?)) (js.filterMap (ns[·]?))
  | [] => .nil
  | j :: js => by
    rcases ints_nth h j with ⟨a, b⟩ | ⟨n, t, a, b⟩
    · rw [List.filterMap_cons_none (by simpa using a), List.filterMap_cons_none b]
      exact ints_pick h js
    · rw [List.filterMap_cons_some (by simpa using a), List.filterMap_cons_some b]
      exact .cons n t (ints_pick h js)
theorem ints_slice {vs : List Value} {ns : List Int} (h : IntsAre vs ns) (lo hi st : Option Int) : ∃ ms, IntsAre (slicePick vs.toArray lo hi st).toList ms ∧ ms.length ≤ ns.length := by
  refine ⟨_, ints_pick h _, ?_⟩
  have h1 := slicePick_size_le vs.toArray lo hi st
  have h2 := (ints_pick h (sliceRange (sliceBounds lo hi st vs.toArray.size).1 (sliceBounds lo hi st vs.toArray.size).2.1 (sliceBounds lo hi st vs.toArray.size).2.2)).length
  rw [← h2, ← h.length]
  unfold slicePick at h1
  rw [List.size_toArray, List.size_toArray] at h1
  exact h1
theorem carried_mods {ys : List Value} {ms : List Int} (h : CarriedAll ys (ms.map fun x => PyData.int (x.fmod 1000000))) : IntsAre ys (ms.map fun x => x.fmod 1000000) :=
  carried_ints (by rw [List.map_map]; exact h)
theorem base_nonneg (k : Nat) : (0 : Int) ≤ [1293, 1312, 2, 3, 2, 4644, 5309, 2].getD k 0 := by
  by_cases h : k < 8
  · have h1 : ∀ k < 8, (0 : Int) ≤ [1293, 1312, 2, 3, 2, 4644, 5309, 2].getD k 0 := by decide
    exact h1 k h
  · rw [List.getD_eq_getElem?_getD, List.getElem?_eq_none (by simp; omega)]
    exact Int.le_refl _
theorem NatsAre.get {vs : List Value} (h : NatsAre vs) : ∀ {i : Nat}, i < vs.length → ∃ n t, vs[i]? = some (.int n t) ∧ 0 ≤ n := by
  induction h with
  | nil => intro i hi; cases hi
  | cons n t hn _ ih =>
    intro i hi
    cases i with
    | zero => exact ⟨n, t, rfl, hn⟩
    | succ i => exact ih (by simpa using hi)
structure DeedOk (d : Deed) : Prop where
  lo : 0 ≤ d.kind
  hi : d.kind < 4
  row : RowOk (strOf d.veil) (strOf d.typed) (strOf d.folded) (strOf d.fin)
noncomputable def DeedIn (tl : List (Addr × Obj)) (v : Value) (d : Deed) : Prop :=
  ∃ a o t0 t1 t2 t3 t4, v = .ref a ∧ (a, o) ∈ tl ∧ o.cls = .type "tuple" ∧ ∃ n, o.data = .seq #[.int d.kind t0, .str (strOf d.veil) t1, .str (strOf d.typed) t2, .str (strOf d.folded) t3, .str (strOf d.fin) t4] n
inductive DeedsIn (tl : List (Addr × Obj)) : List Value → List Deed → Prop
  | nil : DeedsIn tl [] []
  | cons {v d vs ds} : DeedIn tl v d → DeedsIn tl vs ds → DeedsIn tl (v :: vs) (d :: ds)
theorem DeedsIn.more {tl tl' : List (Addr × Obj)} {vs : List Value} {ds : List Deed} (R : DeedsIn tl vs ds) (k : ∀ p ∈ tl, p ∈ tl') : DeedsIn tl' vs ds := by
  induction R with
  | nil => exact .nil
  | cons a _ ih =>
    obtain ⟨a, o, t0, t1, t2, t3, t4, e, m, c⟩ := a
    exact .cons ⟨a, o, t0, t1, t2, t3, t4, e, k _ m, c⟩ ih
theorem DeedsIn.len {tl : List (Addr × Obj)} {vs : List Value} {ds : List Deed} (R : DeedsIn tl vs ds) : vs.length = ds.length := by
  induction R with
  | nil => rfl
  | cons _ _ ih => simp [ih]
theorem DeedsIn.snoc {tl : List (Addr × Obj)} {vs : List Value} {ds : List Deed} {v : Value} {d : Deed} (R : DeedsIn tl vs ds) (k : DeedIn tl v d) : DeedsIn tl (vs ++ [v]) (ds ++ [d]) := by
  induction R with
  | nil => exact .cons k .nil
  | cons a _ ih => exact .cons a ih
theorem DeedsIn.are {h₀ h : Heap} {L : Addr} {tl : List (Addr × Obj)} {vs : List Value} {ds : List Deed} (R : DeedsIn tl vs ds) (N : News h₀ L h tl) : DeedsAre h vs ds := by
  induction R with
  | nil => exact .nil
  | cons a _ ih =>
    obtain ⟨a, o, t0, t1, t2, t3, t4, e, m, c, n, d⟩ := a
    exact .cons ⟨a, t0, t1, t2, t3, t4, e, o, (N _ m).1, c, n, d⟩ ih
theorem sum_nonneg : ∀ ns : List Int, (∀ n ∈ ns, 0 ≤ n) → 0 ≤ ns.sum
  | [], _ => Int.le_refl _
  | n :: r, h => by
    have h1 := h n (.head _)
    have h2 := sum_nonneg r fun k hk => h k (.tail _ hk)
    rw [List.sum_cons]
    omega
theorem mods_nonneg (ns : List Int) : 0 ≤ (ns.map fun x => x.fmod 1000000).sum := sum_nonneg _ fun n hn => by
  obtain ⟨x, _, rfl⟩ := List.mem_map.mp hn
  exact Int.fmod_nonneg_of_pos x (by decide)
theorem fmod4 (n : Int) : 0 ≤ n.fmod 4 ∧ n.fmod 4 < 4 := ⟨Int.fmod_nonneg_of_pos n (by decide), Int.fmod_lt_of_pos n (by decide)⟩
theorem deed_cend {h₀ h' : Heap} {L I C D3 D9 : Addr} {oI oC oD : Obj} {m : Str → Option Value} {s₁ : Shared} {tk i nn : Nat} {us : List Value} {ds : List Deed} {n0 tl : List (Addr × Obj)} {x1 x2 : Addr × Obj} {zs : Array Value} {dd : Option Addr} {sl : Array (Option Value)} {k : Int} {a b c d : Str} {t0 t1 t2 t3 t4 : Tok}
    (F : Fr h₀ L h' m) (N : News h₀ L h' ((D9, { cls := .type "tuple", dict := dd, data := .seq zs nn, slots := sl }) :: x1 :: x2 :: (I, oI) :: (C, oC) :: (D3, oD) :: (n0 ++ tl))) (hz : zs = #[.int k t0, .str a t1, .str b t2, .str c t3, .str d t4])
    (hl : ∀ p ∈ x1 :: x2 :: (I, oI) :: (C, oC) :: (D3, oD) :: (n0 ++ tl), p.1 < D9) (off0 : LCg.Off3 I C D3 (n0 ++ tl)) (hD : DeedsIn tl us ds) (hdl : ds.length = i) (hok : ∀ d ∈ ds, DeedOk d) (hk : 0 ≤ k ∧ k < 4) (hrow : RowOk a b c d) :
    LCg.CompEnd h₀ L m s₁ I oI C oC D3 oD (fun _ => True) (fun y news' => ∃ tl ds, news' = n0 ++ tl ∧ DeedsIn tl (us ++ [y]) ds ∧ ds.length = i + 1 ∧ ∀ d ∈ ds, DeedOk d) (.ref D9) { s₁ with heap := h', toks := tk } := by
  subst hz
  have hdi : DeedIn ((D9, ({ cls := .type "tuple", dict := dd, data := .seq #[.int k t0, .str a t1, .str b t2, .str c t3, .str d t4] nn, slots := sl } : Obj)) :: tl) (.ref D9) ⟨k, a.cps.toList, b.cps.toList, c.cps.toList, d.cps.toList⟩ := ⟨D9, _, t0, t1, t2, t3, t4, rfl, .head _, rfl, nn, rfl⟩
  refine LCg.CompEnd.intro F N (n0 ++ (D9, _) :: tl) (fun p hp => ?_) (LCg.Off3.of fun p hp => ?_) trivial ⟨_ :: tl, ds ++ [⟨k, a.cps.toList, b.cps.toList, c.cps.toList, d.cps.toList⟩], rfl, DeedsIn.snoc (DeedsIn.more hD fun p hp => .tail _ hp) hdi, by simp [hdl], fun d' hd' => ?_⟩
  · rcases List.mem_cons.mp hp with rfl | hp
    · exact .tail _ (.tail _ (.tail _ (.head _)))
    · rcases List.mem_cons.mp hp with rfl | hp
      · exact .tail _ (.tail _ (.tail _ (.tail _ (.head _))))
      · rcases List.mem_cons.mp hp with rfl | hp
        · exact .tail _ (.tail _ (.tail _ (.tail _ (.tail _ (.head _)))))
        · rcases List.mem_append.mp hp with hp | hp
          · exact .tail _ (.tail _ (.tail _ (.tail _ (.tail _ (.tail _ (List.mem_append_left _ hp))))))
          · rcases List.mem_cons.mp hp with rfl | hp
            · exact .head _
            · exact .tail _ (.tail _ (.tail _ (.tail _ (.tail _ (.tail _ (List.mem_append_right _ hp))))))
  · rcases List.mem_append.mp hp with hp | hp
    · exact LCg.Off3.mem off0 p (List.mem_append_left _ hp)
    · rcases List.mem_cons.mp hp with rfl | hp
      · exact ⟨Nat.ne_of_gt (hl (I, oI) (.tail _ (.tail _ (.head _)))), Nat.ne_of_gt (hl (C, oC) (.tail _ (.tail _ (.tail _ (.head _))))), Nat.ne_of_gt (hl (D3, oD) (.tail _ (.tail _ (.tail _ (.tail _ (.head _))))))⟩
      · exact LCg.Off3.mem off0 p (List.mem_append_right _ hp)
  · rcases List.mem_append.mp hd' with h | h
    · exact hok d' h
    · rw [List.mem_singleton.mp h]
      exact ⟨hk.1, hk.2, hrow⟩
noncomputable def lastDeed : Deed := ⟨2, [], [], [], []⟩
noncomputable def DeedsPost (h : Heap) (r : Value) (h' : Heap) : Prop := ∃ a us k tl ds, r = .ref a ∧ h.get? a = none ∧ h'.get? a = some (listOf us.toArray k) ∧ DeedsIn tl us (ds ++ [lastDeed]) ∧ (∀ p ∈ tl, h'.get? p.1 = some p.2 ∧ h.get? p.1 = none) ∧ ds.length = 8 ∧ ∀ d ∈ ds, DeedOk d
theorem DeedsAre.append {h : Heap} {a b : List Value} {x y : List Deed} (p : DeedsAre h a x) (q : DeedsAre h b y) : DeedsAre h (a ++ b) (x ++ y) := by
  induction p with
  | nil => exact q
  | cons d _ ih => exact .cons d ih
theorem deeds_end {s : Shared} {Q : Value → Shared → Prop} {h' : Heap} {L D9 t : Addr} {m : Str → Option Value} {tk nn k : Nat} {us : List Value} {ds : List Deed} {n0 tl : List (Addr × Obj)} {x1 x2 : Addr × Obj} {dd : Option Addr} {sl : Array (Option Value)} {t0 t1 t2 t3 t4 : Tok}
    (hret : ∀ r h' tk', Keeps s.heap h' → DeedsPost s.heap r h' → Q r { s with heap := h', toks := tk' }) (F : Fr s.heap L h' m)
    (N : News s.heap L h' ((D9, listOf (us.toArray.toList ++ #[Value.ref t].toList).toArray k) :: x1 :: (t, { cls := .type "tuple", dict := dd, data := .seq #[.int 2 t0, .str (Str.ofString "") t1, .str (Str.ofString "") t2, .str (Str.ofString "") t3, .str (Str.ofString "") t4] nn, slots := sl }) :: x2 :: (n0 ++ tl)))
    (hD : DeedsIn tl us ds) (hdl : ds.length = 8) (hok : ∀ d ∈ ds, DeedOk d) : Q (.ref D9) { s with heap := h', toks := tk } := by
  have e0 : Str.ofString "" = strOf [] := nil_strOf
  rw [e0] at N
  have hN := N _ (.tail _ (.tail _ (.head _)))
  exact hret _ _ _ F.keep ⟨D9, us ++ [.ref t], k, _ :: tl, ds, rfl, (N _ (.head _)).2.2, (N _ (.head _)).1,
    DeedsIn.snoc (DeedsIn.more hD fun p hp => .tail _ hp) ⟨t, _, t0, t1, t2, t3, t4, rfl, .head _, rfl, nn, rfl⟩, fun p hp => by
      rcases List.mem_cons.mp hp with rfl | hp
      · exact ⟨hN.1, hN.2.2⟩
      · have q := N p (.tail _ (.tail _ (.tail _ (.tail _ (List.mem_append_right _ hp)))))
        exact ⟨q.1, q.2.2⟩, hdl, hok⟩
theorem fdiv_nn {n : Int} (h : 0 ≤ n) : 0 ≤ n.fdiv 4 := Int.fdiv_nonneg h (by decide)
theorem deeds_does (w : World) (l : Addr) (vs : List Value) (zs : List Int) (hv : IntsAre vs zs) (hz : zs.length ≤ 63) :
    Does w 166 12 150 [.ref l] (fun h => h.IsList l vs.toArray) DeedsPost := by
  constructor
  k_fill
  intro p loose mean mg mb dp un fr gd s Q X T hd hu hp hret
  refine' enterC (binds := [(Str.ofString "script", .ref l)]) ?k1 ?k2 ?k3 ?k4 ?k5 ?k6 ?k7 ?k8 ?_ ?c1 ?c2 ?c3
  case k1 => exact X
  case k2 => exact T
  case k3 => k_is
  case k4 => k_is
  case k5 => (show dp < recursionLimit; first | exact Nat.lt_of_le_of_lt (Nat.le_add_right _ _) hd | omega)
  case k6 => exact BindsTo.of_eq rfl
  case k7 =>
    intro n x hx
    rcases List.mem_cons.mp hx with rfl | hx
    · first | exact .inl rfl | exact .inr ⟨rfl, rfl⟩
    exact nomatch hx
  case k8 => decide
  case c1 => rfl
  case c2 => rfl
  case c3 => rfl
  intro L h tk cells F0 N Y
  have F : Fr s.heap L h (fun _ => none) := F0
  clear F0
  have Y2 : CellsAre _ [(Str.ofString "cells", L + 1 + 1 + 1), (Str.ofString "base", L + 1 + 1), (Str.ofString "script", L + 1)] cells := Y
  clear Y
  obtain ⟨oc1, oc2, oc3, hE, dc1, dc2, dc3⟩ := CellsAre.three Y2
  subst hE
  clear Y2
  have dd1 : oc1.data = .cell (none) := dc1
  clear dc1
  have dd2 : oc2.data = .cell (none) := dc2
  clear dc2
  have dd3 : oc3.data = .cell (some (.ref l)) := dc3
  clear dc3
  conv in fBody _ => whnf
  k_with_none
  k_with "eval ListComp" => (k_dflt (first | (with_reducible show wpAny _ _ (eval (Expr.ListComp _ [⟨_, Expr.Call _ _ _ _, _, _⟩] _ _) _) _ _ _); refine LCg.ListComp_U (F₀ := by k_asm) (by with_unfolding_all rfl) (by decide) (by rfl) (by decide) (by rfl) ?_ | refine' vcomp .int (fun x => PyData.int (x.fmod 1000000)) (by k_asm) rfl rfl (by decide) rfl (by decide) rfl ?_ (fun _ => rfl)))
  k_with "subscriptTail Name Slice ref ref" => ((with_reducible show wpAny _ _ (subscriptTail _ (PySem.Expr.Slice _ _ (some _) _) (Value.ref _) (Value.ref _)) _ _ _); (with_reducible rename News _ _ _ _ => N9); k_dflt (refine' kmk_slice3_lit (by k_asm) N9 (by is_list) (IsPart.int _ _) IsPart.none (IsPart.int _ _) (by decide) rfl ?_ (by with_unfolding_all rfl) (by intro _; with_unfolding_all rfl) (Nat.le_trans (m := 1000) (by (simp only [List.size_toArray]); omega) (by decide))); intro D' h' F' N' l1; (try k_lt l1))
  k_with "CompPack" => ((with_reducible show CompPack _); (with_reducible rename Fr _ _ _ _ => F6); (with_reducible rename News _ _ _ _ => N6); (obtain ⟨ms6, hm6, hl6⟩ := ints_slice hv (some ((i : Nat) : Int)) none (some 8)); k_dflt (refine' CompPack.intro ⟨_, _, _, ms6, rfl, News.isList N6 (.head _), IntsAre.areOf hm6, le_sizeLine (n := _) (by omega), F6, N6, ?_, ?_⟩); (focus (rintro C7 a7 v7 s7 m7 E7 hC7 ha7 ⟨t7, rfl⟩ hns7 hm7 hk7; (have F7 := Fr.keeps F6 hk7); (have N7 := News.grown N6 hk7); clear F6 N6)); (rotate_left; focus (intro D7 ys7 h7 tk7 F7 N7 hD7 hl7 hp7 hc7; (have hi7 := carried_mods hc7); (obtain ⟨k7, N5, hne7⟩ := newPlain_news F7 N7 hD7 hp7); clear N7 F6 N6)); rotate_right)
  k_with "subscriptTail" => ((with_reducible rename News _ _ _ _ => N4); k_dflt (refine' item_listR (News.isList N4 (by k_mem)) (by omega) (by omega) hget ?_))
  k_with "call ref" => ((with_reducible rename Fr _ _ _ _ => F4); k_dflt (refine' Does.use (row_does w _ _ _ _ (by omega) (by omega) (fdiv_nn hn8)) (by k_asm) (by k_asm) X T (by (try dsimp only [Around.deeper]); first | exact room2 hd | exact room2 hu | exact room1 hd | exact room1 hu | omega) (by (try dsimp only [Around.deeper]); first | exact room2 hd | exact room2 hu | exact room1 hd | exact room1 hu | omega) trivial ?_); rintro r4 h4 tk4 K4 F5 N5 ⟨lr, e4, hno4, a4, b4, c4, d4, t41, t42, t43, t44, hg4, hrow4⟩; subst e4; (have N6 := News.more' F4 N5 hg4 hno4); clear N5; (have T6 : IsTup h4 lr #[.str a4 t41, .str b4 t42, .str c4 t43, .str d4 t44] := ⟨_, hg4, rfl, _, rfl⟩))
  k_with "binaryOp Add ref ref" => ((with_reducible rename News _ _ _ _ => N4); k_dflt (first | refine' kde_addT (by k_asm) N4 (News.isTup N4 (.tail _ (.head _))) T6 (List.cons_ne_nil _ _) (List.cons_ne_nil _ _) (Nat.le_of_ble_eq_true rfl) rfl ?_ | refine' kmk_add_lit (by k_asm) N4 (News.isList N4 (.tail _ (.tail _ (.head _)))) (News.isList N4 (.head _)) rfl ?_ (Nat.le_trans (m := 1000) (by (simp only [List.length_cons, List.length_nil]); omega) (by decide))); intro D9 h9' F9' N9' l9)
  k_with "call builtin:sum" => (k_dflt (refine' sumK rfl (by k_asm) (by k_asm) (by is_list) hi7 ?_); intro h' tk' t' F' N')
  k_with "CompSrc" => (k_dflt (refine LCg.CompSrc.range (n := 8) (by rfl) (by k_asm) (by k_asm) (by assumption) (by decide) (by rfl) (by decide) ?_; intro g9); refine' Hold.mk ?_)
  k_steps
  refine' Hold.open ?_
  refine compRest_inv (fun i ys nw => nw = _ ∧ NatsAre ys ∧ ys.length = i) 8 ?_ ?_ 8 0 [] _ rfl ⟨rfl, .nil, rfl⟩
  · rintro i ys news v I oI C oC D m₂ h8 tk8 E8 hi ⟨rfl, hn, hl⟩ ⟨t8, rfl⟩ hC hx8 F8 N8 off ne8
    rw [Int.zero_add] at hx8
    have off0 := off
    simp only [LCg.Off3, and_true] at off
    k_steps
    all_goals try exact Carried.int _ _
    all_goals try exact ⟨_, _, rfl, fun _ _ e => e⟩
    (with_reducible rename Fr _ _ _ _ => F9)
    (with_reducible rename News _ _ _ _ => N9)
    refine LCg.CompEnd.intro F9 N9 _ (fun p hp => .tail _ (.tail _ hp)) off0 trivial ⟨rfl, NatsAre.snoc hn ?_, by rw [List.length_append, hl]; rfl⟩
    exact Int.add_nonneg (base_nonneg _) (mods_nonneg _)
  · rintro ys news ⟨rfl, hn, hl⟩
    (with_reducible rename Fr _ _ _ _ => F9); clear F9
    (with_reducible rename News _ _ _ _ => N9); clear N9
    unfold LCg.FinE
    intro D h8 tk8 F8 N8 off
    simp only [LCg.Off1, and_true] at off
    k_steps
    refine' Hold.open ?_
    refine compRest_inv (fun i us nw => ∃ tl ds, nw = _ ++ tl ∧ DeedsIn tl us ds ∧ ds.length = i ∧ ∀ d ∈ ds, DeedOk d) 8 ?_ ?_ 8 0 [] _ rfl ⟨[], [], (List.append_nil _).symm, .nil, rfl, fun d hd => nomatch hd⟩
    · rintro i us news v I oI C oC D3 m₂ h9 tk9 E9 hi ⟨tl, ds, rfl, hD, hdl, hok⟩ ⟨t9, rfl⟩ hC hx9 F9 N9 off9 ne9
      rw [Int.zero_add] at hx9
      have off0 := off9
      simp only [List.cons_append, List.nil_append, LCg.Off3] at N9 off9
      obtain ⟨n8, t8, hg8, hn8⟩ := NatsAre.get hn (by rw [hl]; exact hi)
      have hget : ys.toArray[((i : Nat) : Int).toNat]? = some (.int n8 t8) := by rw [Int.toNat_natCast, List.getElem?_toArray, hg8]
      k_steps
      exact deed_cend F9' N9' rfl l9 off0 hD hdl hok (fmod4 n8) hrow4
    · rintro us news ⟨tl, ds, rfl, hD, hdl, hok⟩
      (with_reducible rename Fr _ _ _ _ => F9); clear F9
      (with_reducible rename News _ _ _ _ => N9); clear N9
      unfold LCg.FinE
      intro D3 h9 tk9 F9 N9 off9
      have hul : us.length = 8 := by rw [DeedsIn.len hD, hdl]
      k_steps
      exact deeds_end (s := s) hret F9' N9' hD hdl hok
end Mine
end
-- part WRooks
section
open PySem PySem.W PyProof.Rows PySem.Calls PySem.Spec
set_option maxRecDepth 100000
set_option maxHeartbeats 0
set_option linter.unusedVariables false
namespace Mine
noncomputable def PlJ (w : World) (L : Addr) (ps : List Int) (i : Nat) (m : Str → Option Value) (nx : List (Addr × Obj)) : Prop :=
  ∃ dW oW kW oc cv, nx = [(dW, oW), (L + 1, oc)] ∧ oc.data = .cell cv ∧ oW.IsDictOf (PySem.intKind lw.prog w) kW ∧ KVs kW (waysF (ps.take i)) ∧ (dW == sysModules) = false ∧ @LT.lt Nat _ (L + 1) dW ∧ m (Str.ofString "ways") = some (.ref dW)
local macro_rules | `(tactic| walk_at "pyIter ref") => `(tactic| first | k_extra "list" | k_extra "dict")
noncomputable def bitsZ (t : Int) : List Int := List.map (fun c => Builtin.bitAnd (t.fdiv (2 ^ c.toNat)) 1) (rangeKs 0 ((9 : Int) - 0).toNat)
theorem keep4 {a b c d p : Addr × Obj} (h : p ∈ [a, c, d]) : p ∈ [a, b, c, d] := by
  rcases List.mem_cons.mp h with rfl | h
  · exact .head _
  · exact .tail _ (.tail _ h)
theorem sub2 {a b : Addr × Obj} {l : List (Addr × Obj)} : ∀ p ∈ l, p ∈ a :: b :: l := fun p hp => .tail _ (.tail _ hp)
noncomputable def popc (t : Int) : Nat := (bitsZ t).sum.toNat
noncomputable def rookAdd (rs : List Int) (p : Int × Int) : List Int := rs.set (popc p.1) (rs.getD (popc p.1) 0 + p.2)
noncomputable def rookL (W : List (Int × Int)) (i : Nat) : List Int := (W.take i).foldl rookAdd [0, 0, 0, 0, 0, 0, 0, 0, 0, 0]
theorem rook_succ {W : List (Int × Int)} {i : Nat} {p : Int × Int} (h : W[i]? = some p) : rookL W (i + 1) = rookAdd (rookL W i) p := by
  unfold rookL
  rw [List.take_add_one, h, List.foldl_append]
  rfl
theorem rookL_len (W : List (Int × Int)) : ∀ i, (rookL W i).length = 10
  | 0 => rfl
  | i + 1 => by
    cases e : W[i]? with
    | none =>
      have : W.take (i + 1) = W.take i := by rw [List.take_add_one, e]; simp
      unfold rookL
      rw [this]
      exact rookL_len W i
    | some p =>
      rw [rook_succ e]
      unfold rookAdd
      rw [List.length_set]
      exact rookL_len W i
theorem popc_lt : ∀ n < 512, 0 ≤ (bitsZ ((n : Nat) : Int)).sum ∧ (bitsZ ((n : Nat) : Int)).sum < 10 := by decide +kernel
theorem ki_setL_some {v : Value} : ∀ {l : List Value} {k : Nat}, k < l.length → ki_setL l k v = some (l.set k v)
  | [], k, h => absurd h (Nat.not_lt_zero _)
  | a :: r, 0, _ => rfl
  | a :: r, k + 1, h => by
    unfold ki_setL
    rw [ki_setL_some (by simpa using h)]
    rfl
theorem ints_set {vs : List Value} {ns : List Int} (h : IntsAre vs ns) (x : Int) (t : Tok) : ∀ k, IntsAre (vs.set k (.int x t)) (ns.set k x) := by
  induction h with
  | nil => intro k; exact .nil
  | cons n u h ih =>
    intro k
    cases k with
    | zero => exact .cons x t h
    | succ k => exact .cons n u (ih k)
noncomputable def LastJ (w : World) (L dW : Addr) (oW : Obj) (W : List (Int × Int)) (i : Nat) (m : Str → Option Value) (nx : List (Addr × Obj)) : Prop :=
  ∃ r us k oc cv, @LT.lt Nat _ dW r ∧ @LT.lt Nat _ (L + 1) r ∧ nx = [(r, listOf us.toArray k), (dW, oW), (L + 1, oc)] ∧ oc.data = .cell cv ∧ IntsAre us (rookL W i) ∧ m (Str.ofString "rooks") = some (.ref r) ∧ m (Str.ofString "ways") = some (.ref dW)
theorem rooks_does (w : World) (l : Addr) (vs : List Value) (ps : List Int) (hv : IntsAre vs ps) (hz : ps.length ≤ 100) (hp9 : ∀ n ∈ ps, -1 ≤ n ∧ n ≤ 9) :
    Does w 197 12 150 [.ref l] (fun h => h.IsList l vs.toArray) (fun h r h' => ∃ a us k, r = .ref a ∧ h.get? a = none ∧ h'.get? a = some (listOf us.toArray k) ∧ IntsAre us (rookL (waysF ps) (waysF ps).length)) := by
  constructor
  k_fill
  intro p loose mean mg mb dp un fr gd s Q X T hd hu hp hret
  refine' enterC (binds := [(Str.ofString "places", .ref l)]) ?k1 ?k2 ?k3 ?k4 ?k5 ?k6 ?k7 ?k8 ?_ ?c1 ?c2 ?c3
  case k1 => exact X
  case k2 => exact T
  case k3 => k_is
  case k4 => k_is
  case k5 => (show dp < recursionLimit; first | exact Nat.lt_of_le_of_lt (Nat.le_add_right _ _) hd | omega)
  case k6 => exact BindsTo.of_eq rfl
  case k7 =>
    intro n x hx
    rcases List.mem_cons.mp hx with rfl | hx
    · first | exact .inl rfl | exact .inr ⟨rfl, rfl⟩
    exact nomatch hx
  case k8 => decide
  case c1 => rfl
  case c2 => rfl
  case c3 => rfl
  intro L h tk cells F0 N Y
  have F : Fr s.heap L h (fun y => if y = Str.ofString "places" then some (.ref l) else none) := F0
  clear F0
  have Y2 : CellsAre _ [(Str.ofString "taken", L + 1)] cells := Y
  clear Y
  obtain ⟨oc1, hE, dc1⟩ := CellsAre.one Y2
  subst hE
  clear Y2
  have dd1 : oc1.data = .cell (none) := dc1
  clear dc1
  conv in fBody _ => whnf
  k_with_none
  k_with "list" => (k_dflt (refine' for_listH (vs := vs) (PlJ w L ps) rfl (fun _ _ _ h _ F _ => ⟨_, F.keep _ _ hp.choose_spec.1, hp.choose_spec.2⟩) (by k_asm) (by k_asm) ?_ ?_ ?_ PassesOwn.never); (all_goals (first | refine' Hold.mk ?_ | skip)))
  k_with "exec For Name Name cons nil" => (with_reducible refine wpAny_For ?_ (fun _ => rfl))
  k_with "execs cons For cons" => ((with_reducible show wpAny _ _ (execs (Stmt.For _ _ _ _ _ :: Stmt.Assign _ _ _ :: []) _) _ _ _); refine' Hold.mk ?_)
  k_with "execs cons" => ((with_reducible show wpAny _ _ (execs (Stmt.For _ _ _ _ _ :: Stmt.Assign _ _ _ :: []) _) _ _ _); refine' Hold.mk ?_)
  k_steps
  all_goals ((with_reducible refine' Hold.open ?_); (try dsimp only))
  · exact ⟨_, _, _, _, _, rfl, dd1, by assumption, .cons 0 1 _ .nil, by assumption, by assumption, rfl⟩
  · rintro i v m₁ news₁ h₁ tk₁ I oI hvi ⟨dW, oW, kW, oc, cv, rfl, hc1, hW1, kv1, lo1, hlt1, hm1⟩ hlt hne F0 N1
    have F1 := F0
    rw [at_name hm1] at F1
    clear F0
    obtain ⟨n, tn, rfl, hpi⟩ : ∃ n tn, v = .int n tn ∧ ps[i]? = some n := by
      rcases ints_nth hv i with ⟨a, b⟩ | ⟨n, t, a, b⟩
      · rw [a] at hvi; cases hvi
      · rw [a] at hvi; cases hvi; exact ⟨n, t, rfl, b⟩
    have hkW := ways_keys (ps.take i) fun k hk => (hp9 k (List.mem_of_mem_take hk)).2
    have hzW : (waysF (ps.take i)).length ≤ 1000 := by
      obtain ⟨_, _, _, _, _, _, hnd⟩ := id hW1
      have := keys_len hkW (by rw [← kv1.keys]; exact hnd)
      omega
    k_with "call type:dict" => ((with_reducible rename News _ _ _ _ => N9); k_dflt (refine' dcopy (by k_asm) N9 (Top.nolimit T) (.tail _ (.head _)) hW1 lo1 kv1 hzW ?_); intro d9 h9 o9 k9 F9 N8 l9 lo9 hd9 kv9; (try k_lt l9))
    k_steps
    ((with_reducible refine' Hold.open ?_); (try dsimp only))
    (with_reducible rename Fr _ _ _ _ => F7)
    (with_reducible rename News _ _ _ _ => N7)
    have hIc := hne (L + 1, oc) (.tail _ (.head _))
    refine wpAny_execs_cons (wpAny_mono (rook_place (tn := tn) (tl := [(I, oI)]) X T (by omega) (by omega) F7 (fun p hp => N7 p ?_) (fun p hp b hb => ?_) (fun p hp b hb => ?_) (by omega) (by omega) (by omega) hc1 hd9 hW1 kv9 kv1 hkW (hp9 n (List.mem_of_getElem? hpi)).1 (hp9 n (List.mem_of_getElem? hpi)).2 lo9 lo1 rfl rfl rfl) (fun f s₂ h₂ => ?_) fun _ _ e => e)
    · rcases List.mem_cons.mp hp with rfl | hp
      · exact .head _
      · rcases List.mem_cons.mp hp with rfl | hp
        · exact .tail _ (.tail _ (.head _))
        · rcases List.mem_cons.mp hp with rfl | hp
          · exact .tail _ (.tail _ (.tail _ (.head _)))
          · rw [List.mem_singleton.mp hp]
            exact .tail _ (.head _)
    · rw [List.mem_singleton.mp hb, List.mem_singleton.mp hp]
      exact Nat.ne_of_lt l9.1
    · rw [List.mem_singleton.mp hb, List.mem_singleton.mp hp]
      exact fun q => hIc q.symm
    · obtain ⟨rfl, h2, tk2, m2, oF2, kF2, oc2, cv2, rfl, F2, N2, hc2, hF2, kv2, hm2⟩ := h₂
      have hfr : m2 (Str.ofString "fresh") = some (.ref d9) := (hm2 _ (by decide) (by decide)).trans rfl
      rw [at_name hfr] at F2
      clear F7 N7
      k_with "HStep" => ((with_reducible show HStep _ _ _ _ _ _ _ _ _); refine' Hold.mk ?_)
      k_steps
      ((with_reducible refine' Hold.open ?_); (try dsimp only))
      (with_reducible rename Fr _ _ _ _ => F7)
      (with_reducible rename News _ _ _ _ => N7)
      refine hnext (nx := [(d9, oF2), (L + 1, oc2)]) F7 N7 (.tail _ (.tail _ (.tail _ (.head _)))) (fun p hp => ?_) (fun p hp => ?_) ⟨d9, oF2, kF2, oc2, cv2, rfl, hc2, hF2, by rw [ways_take hpi]; exact kv2, lo9, by omega, rfl⟩
      · rcases List.mem_cons.mp hp with rfl | hp
        · exact .head _
        · rw [List.mem_singleton.mp hp]
          exact .tail _ (.tail _ (.head _))
      · rcases List.mem_cons.mp hp with rfl | hp
        · exact Nat.ne_of_gt l9.1
        · rw [List.mem_singleton.mp hp]
          exact hIc
  · rintro m₁ news₁ h₁ tk₁ ⟨dW, oW, kW, oc, cv, rfl, hc1, hW1, kv1, lo1, hlt1, hm1⟩ F0 N1
    have F1 := F0
    rw [at_name hm1] at F1
    clear F0
    have hkW := ways_keys ps fun k hk => (hp9 k hk).2
    rw [hv.length, List.take_length] at kv1
    k_with "dict" => ((with_reducible rename News _ _ _ _ => N4); k_dflt (refine' for_dictG (LastJ w L dW oW (waysF ps)) rfl lo1 hW1 ?_ (by k_asm) (fun p hp => N4 p (keep4 hp)) ?_ ?_ ?_ PassesOwn.never); (all_goals (first | refine' Hold.mk ?_ | skip)))
    k_steps
    all_goals try ((with_reducible refine' Hold.open ?_); (try dsimp only))
    · rintro i m₂ news₂ ⟨r, us, kk, oc2, cv2, _, _, rfl, _⟩
      exact .tail _ (.head _)
    · refine ⟨_, _, _, oc, cv, ?_, ?_, rfl, hc1, ?_, rfl, rfl⟩
      · omega
      · omega
      · exact .cons 0 _ (.cons 0 _ (.cons 0 _ (.cons 0 _ (.cons 0 _ (.cons 0 _ (.cons 0 _ (.cons 0 _ (.cons 0 _ (.cons 0 _ .nil)))))))))
    · rintro i k x v m₂ news₂ h₂ tk₂ I oI hx hk ⟨r, us, kk, oc2, cv2, hrw, hrc, rfl, hc2, hi2, hr2, hw2⟩ hlt hne F0 N2
      have F2 := F0
      rw [at_name hr2] at F2
      rw [at_name hw2] at F2
      clear F0
      obtain ⟨tv, rfl⟩ := Value.isInt_shape hk
      obtain ⟨vv, tvv, rfl, hWi⟩ := kv1.get hx
      have hIr := hne _ (.head _)
      dsimp only at hIr
      have hIw := hne (dW, oW) (.tail _ (.head _))
      have hIc := hne (L + 1, oc2) (.tail _ (.tail _ (.head _)))
      have hkk := hkW _ (List.mem_of_getElem? hWi)
      have hb0 := popc_lt k.toNat (by omega)
      rw [show ((k.toNat : Nat) : Int) = k by omega] at hb0
      obtain ⟨tg, hgx⟩ := hi2.get (popc k) ((rookL (waysF ps) i).getD (popc k) 0) (by rw [List.getD_eq_getElem?_getD, List.getElem?_eq_getElem (by rw [rookL_len]; unfold popc; omega)]; rfl)
      have hgx2 : us.toArray[(bitsZ k).sum.toNat]? = some (.int ((rookL (waysF ps) i).getD (popc k) 0) tg) := by rw [List.getElem?_toArray]; exact hgx
      have hnd : ((waysF ps).map (·.1)).Nodup := by
        obtain ⟨_, _, _, _, _, _, q⟩ := id hW1
        rw [← kv1.keys]; exact q
      have hg := getZ_of hnd hWi
      have hpl : (bitsZ k).sum.toNat < us.toArray.toList.length := by
        show _ < us.length
        rw [hi2.length, rookL_len]; omega
      k_with "subscriptTail" => ((with_reducible rename News _ _ _ _ => N4); k_dflt (refine' ditem N4 (by k_mem) hW1 kv1 hg ?_ (by with_unfolding_all rfl) (by intro _; with_unfolding_all rfl)); intro t4)
      k_with "setItem ref int int" => (k_dflt (refine' ki_set (by k_asm) (by k_asm) hb0.1 (Int.lt_trans hb0.2 (by decide)) (ki_setL_some hpl) (by k_upd) ?_); intro h4 F4 N4)
      k_with "HStep" => ((with_reducible show HStep _ _ _ _ _ _ _ _ _); refine' Hold.mk ?_)
      k_with "getItem ref int" => ((with_reducible rename News _ _ _ _ => N4); k_dflt (refine' wpAny_getItem_list (News.isList N4 (by k_mem)) hb0.1 (Int.lt_trans hb0.2 (by decide)) hgx2 ?_))
      k_steps
      ((with_reducible refine' Hold.open ?_); (try dsimp only))
      (with_reducible rename Fr _ _ _ _ => F7)
      (with_reducible rename News _ _ _ _ => N7)
      (with_reducible rename _ = Data.cell (some (Value.int k tv)) => hoc)
      refine hnext F7 N7 (.tail _ (.head _)) sub2 (fun p hp => ?_) ⟨r, _, kk, _, _, hrw, hrc, rfl, hoc, by rw [rook_succ hWi]; exact ints_set hi2 _ _ _, rfl, rfl⟩
      · rcases List.mem_cons.mp hp with rfl | hp
        · exact hIr
        · rcases List.mem_cons.mp hp with rfl | hp
          · exact hIw
          · rw [List.mem_singleton.mp hp]
            exact hIc
    · rintro m₂ news₂ h₂ tk₂ ⟨r, us, kk, oc2, cv2, hrw, hrc, rfl, hc2, hi2, hr2, hw2⟩ F0 N2
      have F2 := F0
      rw [at_name hr2] at F2
      clear F0
      k_steps
      exact hret _ _ _ F2.keep ⟨r, us, _, rfl, (N2 _ (.head _)).2.2, (N2 _ (.head _)).1, by rw [← kv1.len]; exact hi2⟩
end Mine
end
-- part WCount
section
open PySem PySem.W PyProof.Rows PySem.Calls PySem.Spec
set_option maxRecDepth 100000
set_option maxHeartbeats 0
set_option linter.unusedVariables false
namespace Mine
noncomputable def dotsN (cs : List Nat) : Nat := cs.countP (fun c => c == 46)
section
variable {prog : Program} {w : World} {A : Around} {s : Shared}
theorem is_strK {y z : Str} {u v : Tok} {Q : Value → Shared → Prop} {E : Value → Shared → Prop} (h0 : (u == 0 || v == 0) = false) (hb : NoneBooked s.heap) (huv : (u == v) = false)
    (h1 : y = z → ∀ b, Q (.bool b) s) (h2 : y ≠ z → Q (.bool false) s) : wpAny (model prog w) A (compareOp .Is (.str y u) (.str z v)) Q E s := by
  show wpAny _ _ (isSame (.str y u) (.str z v) >>= fun b => pure (.bool b)) Q E s
  by_cases e : y = z
  · exact wpAny_bind (wpAny_isSame_str h0 hb fun b => wpAny_pure (h1 e b))
  · exact wpAny_bind (wpAny_of_eq (isSame_str_other y z u v h0 huv (by simpa using e)) (wpAny_pure (h2 e)))
end
end Mine
namespace Mine
noncomputable def strKey : Value → Bool
  | .str _ _ => true
  | _ => false
theorem strKeys_of {es : List DictEntry} (h : (es.all fun e => strKey e.key) = true) : StrKeys es.toArray := by
  intro e he
  have h1 := List.all_eq_true.mp h e (by simpa using he)
  cases hk : e.key with
  | str n t => exact ⟨n, t, rfl⟩
  | _ => rw [hk] at h1; cases h1
theorem noneBooked {P : Params} {h : Heap} (X : (Kf P).In h) : NoneBooked h := by
  have e := X 2 _ (show (Kf P).lookup 2 = some (o_2_0 P) from rfl)
  exact ⟨_, ⟨_, _, _, e, rfl, strKeys_of rfl, fun _ => rfl⟩, rfl⟩
end Mine
-- THE CONTRACT
namespace Mine
structure DoesT (w : World) (f : Addr) (D U : Nat) (args : List Value) (Pre : Shared → Prop) (Post : Heap → Value → Heap → Nat → Prop) : Prop where
  run : ∀ {p : Program} {loose : List Str} {mean : ExcName → Option Value} {mg mb : Str → Option Value} (dp un : Nat) (fr : Option (List Env)) (gd : Option (List Code)) (s : Shared) (Q : Value → Shared → Prop),
    (Kf w.params).In s.heap → Top p loose mean mg mb s.heap → dp + D < recursionLimit → un + U < cLine → Pre s →
    (∀ r h' tk', Keeps s.heap h' → Post s.heap r h' tk' → Q r { s with heap := h', toks := tk' }) → wpAny (model lw.prog w) (Ar dp un fr gd) (call (.ref f) args) Q (fun _ _ => False) s
theorem enterFT {w : World} {A : Around} {s : Shared} {Q : Value → Shared → Prop} {p : Program} {loose : List Str} {mean : ExcName → Option Value} {mg mb : Str → Option Value}
    {name qual : Str} {params : Arguments} {body : List Stmt} {scope : Scope} {dV kV doc pm cdv ct oc : Value} {an od : Option Addr} {osl : Array (Option Value)} {f : Addr} {args : List Value} (binds : List (Str × Value))
    (X : (Kf w.params).In s.heap) (T : Top p loose mean mg mb s.heap)
    (ho : (Kf w.params).lookup f = some ⟨oc, od, .func (fnOf name qual params body scope dV kV doc pm an cdv ct), osl⟩) (hcd : codeIn (Kf w.params) cdv qual = true) (hroom : A.depth < recursionLimit)
    (hbind : BindsTo s (fnOf name qual params body scope dV kV doc pm an cdv ct) ⟨args, []⟩ binds) (hloc : ∀ y ∈ binds, scope.names.lookup y.1 = some .local)
    (h : ∀ L h₁ tk, s.toks ≤ tk → Fr s.heap L h₁ (fun y => binds.reverse.lookup y) → News s.heap L h₁ [] →
      wpAny (model lw.prog w) (A.deeper (envOf qual scope L f cdv)) (execs body (envOf qual scope L f cdv)) (fun fl s' => Q (match fl with | .ret v => v | _ => .none) s') (fun _ _ => False) { s with heap := h₁, toks := tk })
    (hco : scope.isCoroutine = false := by rfl) (hgen : scope.isGenerator = false := by rfl) (hk : scope.kind = .function := by rfl)
    (hcell : ∀ x ∈ scope.names, x.2 ≠ .cell := by decide) : wpAny (model lw.prog w) A (call (.ref f) args) Q (fun _ _ => False) s := by
  refine wpAny_call (codeAny_call_def (fd := fnOf name qual params body scope dV kV doc pm an cdv ct) (body := body) (binds := binds) hroom (X _ _ ho) rfl T.nolimit (codeRec_of X hcd) rfl hbind hcell hloc (fun h₁ hns hk₁ => ?_) hco hgen hk)
  refine wpAny_mono (h s.heap.objs.size h₁ _ (Nat.le_add_right _ _) ⟨hns, hk₁, Nat.le_refl _⟩ News.nil) (fun _ _ x => x) (fun _ _ x => x.elim)

noncomputable def CJ (x : Str) (m₀ : Str → Option Value) (tb : Nat) (i : Nat) (m : Str → Option Value) (tk : Nat) : Prop :=
  tb < tk ∧ ∃ c t u, c = ((dotsN (x.cps.toList.take i) : Nat) : Int) ∧ m = fun y => if y = Str.ofString "i" then u else if y = Str.ofString "count" then some (.int c t) else m₀ y
theorem cj_start {x : Str} {m₀ m : Str → Option Value} {tb tk : Nat} {t : Tok} (h : tb < tk) (h0 : m₀ (Str.ofString "i") = none) (hm : m = fun y => if y = Str.ofString "count" then some (.int 0 t) else m₀ y) : CJ x m₀ tb 0 m tk := by
  subst hm
  refine ⟨h, 0, t, none, rfl, funext fun y => ?_⟩
  by_cases e : y = Str.ofString "i"
  · subst e
    rw [if_neg (by decide), if_pos rfl, h0]
  · rw [if_neg e]
theorem dotsN_take {l : List Nat} {i c : Nat} (h : l[i]? = some c) : dotsN (l.take (i + 1)) = dotsN (l.take i) + (if c = 46 then 1 else 0) := by
  rw [List.take_add_one, h]
  unfold dotsN
  rw [List.countP_append]
  congr 1
  by_cases e : c = 46
  · subst e; rfl
  · simp [e]
theorem dot_code {c : Nat} : ((⟨#[c]⟩ : Str) = Str.ofString ".") ↔ c = 46 := by
  have e : Str.ofString "." = ⟨#[46]⟩ := by decide
  rw [e]
  constructor
  · intro h
    injection h with h
    simpa using h
  · rintro rfl; rfl
theorem cj_hit {x : Str} {m₀ : Str → Option Value} {tb i tk c : Nat} {c0 : Int} {t t0 : Tok} {u0 v : Option Value} (h : tb < tk) (hc : x.cps[i]? = some c) (e1 : c0 = ((dotsN (x.cps.toList.take i) : Nat) : Int)) (e : (⟨#[c]⟩ : Str) = Str.ofString ".") :
    CJ x m₀ tb (i + 1) (fun y => if y = Str.ofString "count" then some (.int (c0 + 1) t) else if y = Str.ofString "i" then v else if y = Str.ofString "i" then u0 else if y = Str.ofString "count" then some (.int c0 t0) else m₀ y) tk := by
  refine ⟨h, c0 + 1, t, v, ?_, funext fun y => ?_⟩
  · rw [dotsN_take (by simpa using hc), if_pos (dot_code.mp e), e1]; rfl
  · by_cases h1 : y = Str.ofString "i"
    · subst h1
      rw [if_neg (by decide), if_pos rfl, if_pos rfl]
    · simp only [if_neg h1]
      by_cases h2 : y = Str.ofString "count"
      · simp only [if_pos h2]
      · simp only [if_neg h2]
theorem cj_miss {x : Str} {m₀ : Str → Option Value} {tb i tk c : Nat} {c0 : Int} {t0 : Tok} {u0 v : Option Value} (h : tb < tk) (hc : x.cps[i]? = some c) (e1 : c0 = ((dotsN (x.cps.toList.take i) : Nat) : Int)) (e : (⟨#[c]⟩ : Str) ≠ Str.ofString ".") :
    CJ x m₀ tb (i + 1) (fun y => if y = Str.ofString "i" then v else if y = Str.ofString "i" then u0 else if y = Str.ofString "count" then some (.int c0 t0) else m₀ y) tk := by
  refine ⟨h, c0, t0, v, ?_, funext fun y => ?_⟩
  · rw [dotsN_take (by simpa using hc), if_neg fun q => e (dot_code.mpr q), e1]; rfl
  · by_cases h1 : y = Str.ofString "i"
    · simp only [if_pos h1]
    · simp only [if_neg h1]
theorem count_end {x : Str} {s : Shared} {Q : Value → Shared → Prop} {h' : Heap} {L : Addr} {m : Str → Option Value} {t : Tok} {c : Int} {tk tb : Nat}
    (hret : ∀ r h' tk', Keeps s.heap h' → (tb < tk' ∧ ∃ t, r = .int (dotsN x.cps.toList : Nat) t) → Q r { s with heap := h', toks := tk' }) (F : Fr s.heap L h' m) (htb : tb < tk) (e : c = ((dotsN (x.cps.toList.take x.cps.size) : Nat) : Int)) : Q (.int c t) { s with heap := h', toks := tk } := by
  refine hret _ _ _ F.keep ⟨htb, t, ?_⟩
  rw [e, ← Array.length_toList, List.take_length]
theorem is_strK' {prog : Program} {w : World} {A : Around} {s : Shared} {y z : Str} {u v : Tok} {Q : Value → Shared → Prop} {E : Value → Shared → Prop} {P : Params} {h₀ : Heap} (X : (Kf P).In h₀) (hk : Keeps h₀ s.heap) (h0 : @LT.lt Nat _ 0 v) (huv : @LT.lt Nat _ v u)
    (h1 : y = z → ∀ b, Q (.bool b) s) (h2 : y ≠ z → Q (.bool false) s) : wpAny (model prog w) A (compareOp .Is (.str y u) (.str z v)) Q E s :=
  have a : ¬ u = 0 := fun q => absurd (q ▸ huv) (Nat.not_lt_zero _)
  have b : ¬ v = 0 := fun q => absurd (q ▸ h0) (Nat.lt_irrefl _)
  have c : ¬ u = v := fun q => absurd (q ▸ huv) (Nat.lt_irrefl _)
  is_strK (by simp [a, b]) (noneBooked (X.keeps hk)) (by simp [c]) h1 h2
theorem gen_toks {α : Type} {M : Model} {A : Around} {e : Sem α} {Q : α → Shared → Prop} {E : Value → Shared → Prop} {tb X : Nat} {h : Heap} {g d o} (h1 : tb < X) (hX : ∀ tk, tb < tk → wpAny M A e Q E ⟨h, g, d, tk, o⟩) : wpAny M A e Q E ⟨h, g, d, X, o⟩ := hX _ h1
theorem count_does (w : World) (x : Str) (tx tb : Nat) (hx : x.length ≤ 16777216) (hb : 0 < tb) : DoesT w 90 5 50 [.str x tx, .str (Str.ofString ".") tb] (fun s => tb < s.toks) (fun h r h' tk' => tb < tk' ∧ ∃ t, r = .int (dotsN x.cps.toList : Nat) t) := by
  constructor
  k_fill
  intro p loose mean mg mb dp un fr gd s Q X T hd hu hp hret
  refine' enterFT (binds := [(Str.ofString "a", .str x tx), (Str.ofString "b", .str (Str.ofString ".") tb)]) ?k1 ?k2 ?k3 ?k4 ?k5 ?k6 ?k7 ?_ ?c1 ?c2 ?c3 ?c4
  case k1 => exact X
  case k2 => exact T
  case k3 => k_is
  case k4 => k_is
  case k5 => (show dp < recursionLimit; first | exact Nat.lt_of_le_of_lt (Nat.le_add_right _ _) hd | omega)
  case k6 => exact BindsTo.of_eq rfl
  case k7 => exact locs rfl
  case c1 => rfl
  case c2 => rfl
  case c3 => rfl
  case c4 => decide
  intro L h tk htk F N; have hp5 : tb < s.toks := hp
  conv in fBody _ => whnf
  k_with_none
  k_with "exec For Name Name cons nil" => (with_reducible refine wpAny_For ?_ (fun _ => rfl))
  k_with "pyIter str" => (k_dflt (refine' for_str (px := _) (CJ x (fun y => List.lookup y [(Str.ofString "a", Value.str x tx), (Str.ofString "b", Value.str (Str.ofString ".") tb)].reverse) tb) rfl rfl rfl (by k_asm) (by k_asm) ?_ ?_ ?_ PassesOwn.never); ((with_reducible rename Fr _ _ _ _ => F9); (with_reducible rename News _ _ _ _ => N9)); all_goals refine' Hold.mk ?_)
  k_with "execs cons" => ((fail_if_success (fail_if_success k_gentoks)); refine' gen_toks (tb := tb) (by (try dsimp only); omega) ?_; intro tk9 htk9)
  k_with "execs nil" => ((fail_if_success (fail_if_success k_gentoks)); refine' gen_toks (tb := tb) (by (try dsimp only); omega) ?_; intro tk9 htk9)
  k_with "compareOp Is str str" => (k_dflt ((with_reducible rename Fr _ _ _ _ => F8); refine' is_strK' X F8.keep hb (by (try dsimp only); omega) ?_ ?_))
  k_with "And" => ((with_reducible show _ = Flow.next ∧ _); refine' Hold.mk ?_)
  k_steps
  all_goals try refine' Hold.open ?_
  · exact cj_start (by (try dsimp only); omega) rfl rfl
  · rename_i h9 F9 N9; clear F9 N9
    rintro i c m₁ h₁ tk₁ I oI hc ⟨htb, c0, t0, u0, e1, e2⟩ F N
    subst e2
    k_steps
    all_goals (refine' Hold.open ?_)
    all_goals first
      | exact ⟨rfl, _, _, _, rfl, by k_asm, by k_asm, cj_hit (by (try dsimp only); omega) hc e1 (by assumption)⟩
      | exact ⟨rfl, _, _, _, rfl, by k_asm, by k_asm, cj_miss (by (try dsimp only); omega) hc e1 (by assumption)⟩
      | exact absurd ‹(⟨#[c]⟩ : Str) = Str.ofString "."› (beq_eq_false_iff_ne.mp ‹((⟨#[c]⟩ : Str) == Str.ofString ".") = false›)
      | exact absurd (beq_iff_eq.mp ‹((⟨#[c]⟩ : Str) == Str.ofString ".") = true›) ‹(⟨#[c]⟩ : Str) ≠ Str.ofString "."›
  · rename_i h9 F9 N9; clear F9 N9
    rintro m₁ h₁ tk₁ ⟨htb, c0, t0, u0, e1, e2⟩ F N
    subst e2
    k_steps
    exact count_end (s := s) hret (by k_asm) (by (try dsimp only); omega) e1
end Mine
end
-- part WWalk
section
open PySem PySem.W PyProof.Rows PySem.Calls PySem.Spec
set_option maxRecDepth 100000
set_option maxHeartbeats 0
set_option linter.unusedVariables false
namespace Mine
noncomputable def wTurn (x : Int × Int × Int) (k : Int) : Int × Int × Int :=
  if k = 0 then (x.1, x.2.1 + 1, x.2.2) else if k = 1 then (x.1, x.2.1, x.2.2 + 1) else if k = 2 then (x.1 * x.2.1, x.2.1 - 1, x.2.2) else (x.1, x.2.1 + x.2.2, 0)
noncomputable def walkF (ks : List Int) (m : Int) : Int × Int × Int := ks.foldl wTurn (1, m, 0)
noncomputable def WInv (m : Int) (pre : List Int) (p n v : Int) : Prop := walkF pre m = (p, n, v) ∧ 0 ≤ v ∧ (n.natAbs : Int) + v ≤ 2000 + pre.length
theorem winv_start {m : Int} (hm : m.natAbs ≤ 2000) : WInv m [] 1 m 0 := ⟨rfl, Int.le_refl _, by simp; omega⟩
theorem winv_next {m p n v k p' n' v' : Int} {pre : List Int} (h : WInv m pre p n v) (e : wTurn (p, n, v) k = (p', n', v')) (h0 : 0 ≤ v') (h1 : (n'.natAbs : Int) + v' ≤ n.natAbs + v + 1) : WInv m (pre ++ [k]) p' n' v' := by
  obtain ⟨a, b, c⟩ := h
  refine ⟨?_, h0, ?_⟩
  · unfold walkF at *
    rw [List.foldl_append, a]
    exact e
  · rw [List.length_append, List.length_singleton]
    omega
theorem winv_a {m p n v k : Int} {pre : List Int} (h : WInv m pre p n v) (e : k = 0) : WInv m (pre ++ [k]) p (n + 1) v := winv_next h (by subst e; rfl) h.2.1 (by have := h.2.1; omega)
theorem winv_b {m p n v k : Int} {pre : List Int} (h : WInv m pre p n v) (e0 : k ≠ 0) (e : k = 1) : WInv m (pre ++ [k]) p n (v + 1) := winv_next h (by subst e; rfl) (by have := h.2.1; omega) (by omega)
theorem winv_c {m p n v k : Int} {pre : List Int} (h : WInv m pre p n v) (e0 : k ≠ 0) (e1 : k ≠ 1) (e : k = 2) : WInv m (pre ++ [k]) (p * n) (n - 1) v := winv_next h (by subst e; rfl) h.2.1 (by omega)
theorem winv_d {m p n v k : Int} {pre : List Int} (h : WInv m pre p n v) (e0 : k ≠ 0) (e1 : k ≠ 1) (e2 : k ≠ 2) : WInv m (pre ++ [k]) p (n + v) 0 := by
  refine winv_next h ?_ (Int.le_refl _) ?_
  · unfold wTurn
    rw [if_neg e0, if_neg e1, if_neg e2]
  · have := h.2.1
    omega
theorem walk_end {s : Shared} {Q : Value → Shared → Prop} {h' : Heap} {L : Addr} {mp : Str → Option Value} {m p n v : Int} {ks : List Int} {t : Tok} {tk' : Nat}
    (hret : ∀ r h' tk', Keeps s.heap h' → (∃ t, r = .int (walkF ks m).1 t) → Q r { s with heap := h', toks := tk' }) (F : Fr s.heap L h' mp) (hI : WInv m ks p n v) : Q (.int p t) { s with heap := h', toks := tk' } :=
  hret _ _ _ F.keep ⟨t, by rw [hI.1]⟩
local macro_rules | `(tactic| walk_at "call ref") => `(tactic| (k_here; (with_reducible show wpAny _ _ (call (Value.ref _) [Value.int _ _, Value.int _ _]) _ _ _); k_dflt ((first | (refine' Does.use (add_does _ _ _ _ _) ?kF ?kN ?kX ?kT ?kd ?ku trivial ?_) | (refine' Does.use (sub_does _ _ _ _ _) ?kF ?kN ?kX ?kT ?kd ?ku trivial ?_) | (refine' Does.use (mul_does _ _ _ _ _ ?kz) ?kF ?kN ?kX ?kT ?kd ?ku trivial ?_; (case kz => ((with_reducible rename WInv _ _ _ _ _ => hI9); (have hI8 := hI9.2); omega)))); (case kF => k_asm); (case kN => k_asm); (case kX => k_asm); (case kT => k_asm); (case kd => ((try dsimp only [Around.deeper]); first | exact room2 hd | exact room2 hu | exact room1 hd | exact room1 hu | omega)); (case ku => ((try dsimp only [Around.deeper]); first | exact room2 hd | exact room2 hu | exact room1 hd | exact room1 hu | omega))); (rintro r9 h9 tk9 K9 F9 N9 ⟨t9, e9⟩); subst e9))
theorem walk_does (w : World) (l : Addr) (vs : List Value) (ks : List Int) (m : Int) (tm : Tok) (hv : IntsAre vs ks) (hl : ks.length ≤ 9) (hm : m.natAbs ≤ 2000) :
    Does w 192 5 50 [.ref l, .int m tm] (fun h => h.IsList l vs.toArray) (fun h r h' => ∃ t, r = .int (walkF ks m).1 t) := by
  constructor
  k_fill
  intro p loose mean mg mb dp un fr gd s Q X T hd hu hp hret
  refine' enterF (binds := [(Str.ofString "kinds", .ref l), (Str.ofString "m", .int m tm)]) ?k1 ?k2 ?k3 ?k4 ?k5 ?k6 ?k7 ?_ ?c1 ?c2 ?c3 ?c4
  case k1 => exact X
  case k2 => exact T
  case k3 => k_is
  case k4 => k_is
  case k5 => (show dp < recursionLimit; first | exact Nat.lt_of_le_of_lt (Nat.le_add_right _ _) hd | omega)
  case k6 => exact BindsTo.of_eq rfl
  case k7 => exact locs rfl
  case c1 => rfl
  case c2 => rfl
  case c3 => rfl
  case c4 => decide
  intro L h tk F N
  conv in fBody _ => whnf
  k_with_none
  k_with "pyIter ref" => k_state (fun pre p n v => WInv m pre p n v) "product" "number" "veiled"
  k_with "state" => first | exact winv_start (by assumption) | exact winv_a (by assumption) (by assumption) | exact winv_b (by assumption) (by assumption) (by assumption) | exact winv_c (by assumption) (by assumption) (by assumption) (by assumption) | exact winv_d (by assumption) (by assumption) (by assumption) (by assumption)
  k_steps
  all_goals first
    | (exact walk_end (s := s) hret (by k_asm) (by assumption))
    | w_report
end Mine
end
-- part MFirst
section
open PySem PySem.W PyProof.Rows PySem.Calls PySem.Spec
set_option maxRecDepth 100000
set_option maxHeartbeats 0
set_option linter.unusedVariables false
namespace Mine
noncomputable def diffL : List Int → List Int
  | a :: b :: r => (b - a) :: diffL (b :: r)
  | _ => []
noncomputable def firstsF : Nat → List Int → List Int
  | 0, _ => []
  | n + 1, [] => []
  | n + 1, a :: r => a :: firstsF n (diffL (a :: r))
theorem diffL_range : ∀ (zs : List Int) (a : Int), diffL (a :: zs) = (List.range zs.length).map fun i => (a :: zs).getD (i + 1) 0 - (a :: zs).getD i 0
  | [], _ => rfl
  | b :: r, a => by
    rw [show diffL (a :: b :: r) = (b - a) :: diffL (b :: r) from rfl, diffL_range r b, List.length_cons, List.range_succ_eq_map, List.map_cons, List.map_map]
    rfl
theorem diffL_length (a : Int) (zs : List Int) : (diffL (a :: zs)).length = zs.length := by rw [diffL_range]; simp
theorem diffL_carried (a : Int) (zs : List Int) :
    List.map (fun k => PyData.int ((a :: zs).getD (k + 1).toNat 0 - (a :: zs).getD k.toNat 0)) (List.filter (fun _ => true) (rangeInts 0 1 zs.length)) = (diffL (a :: zs)).map PyData.int := by
  rw [diffL_range, List.filter_eq_self.mpr (fun _ _ => rfl)]
  unfold rangeInts
  rw [List.map_map, List.map_map]
  refine List.map_congr_left fun i _ => ?_
  show PyData.int _ = PyData.int _
  have e1 : ((0 : Int) + (i : Nat) * 1 + 1).toNat = i + 1 := by omega
  have e2 : ((0 : Int) + (i : Nat) * 1).toNat = i := by omega
  rw [e1, e2]
noncomputable def FJ (h₀ : Heap) (L : Addr) (all : List Int) (n : Nat) (m : Str → Option Value) (nx : List (Addr × Obj)) : Prop :=
  ∃ fl l vs zs us fs k tl oc, oc.data = .cell (some (.ref l)) ∧ @LT.lt Nat _ (L + 1) fl ∧ @Ne Nat fl l ∧ m = (fun y => if y = Str.ofString "firsts" then some (.ref fl) else none) ∧ nx = (fl, listOf us.toArray k) :: (L + 1, oc) :: tl ∧
    (∃ k2, (tl = [] ∧ h₀.IsList l vs.toArray) ∨ (tl = [(l, listOf vs.toArray k2)])) ∧ IntsAre vs zs ∧ IntsAre us fs ∧ zs.length = n ∧ vs.length = n ∧ n ≤ 10 ∧ us.length + n ≤ 10 ∧ fs ++ firstsF n zs = all
theorem fj_start {h₀ : Heap} {L l fl : Addr} {oc : Obj} {vs : List Value} {zs : List Int} (hp : h₀.IsList l vs.toArray) (hv : IntsAre vs zs) (hl : zs.length ≤ 10) {k : Nat} (hoc : oc.data = .cell (some (.ref l))) (h1 : @LT.lt Nat _ (L + 1) fl) (h2 : @LT.lt Nat _ l L) :
    FJ h₀ L (firstsF zs.length zs) zs.length (fun y => if y = Str.ofString "firsts" then some (.ref fl) else none) [(fl, listOf #[] k), (L + 1, oc)] :=
  ⟨fl, l, vs, zs, [], [], k, [], oc, hoc, h1, (fun e => absurd (Nat.lt_trans h2 (Nat.lt_of_succ_lt h1)) (e ▸ Nat.lt_irrefl _)), rfl, rfl, ⟨0, .inl ⟨rfl, hp⟩⟩, hv, .nil, rfl, hv.length, hl, by simpa using hl, rfl⟩
theorem fj_next {h₀ h' : Heap} {L fl D : Addr} {s : Shared} {Q : Flow → Shared → Prop} {news' : List (Addr × Obj)} {us ys : List Value} {fs zs all : List Int} {a : Int} {t : Tok} {k k7 n tk : Nat} {o' : Obj}
    (F : Fr h₀ L h' (fun y => if y = Str.ofString "firsts" then some (.ref fl) else none)) (N : News h₀ L h' news')
    (m1 : (fl, listOf (us.toArray.push (.int ((a :: zs).getD (Int.toNat 0) 0) t)) (k + 1)) ∈ news') (m2 : (L + 1, o') ∈ news') (m3 : (D, listOf ys.toArray k7) ∈ news') (d : o'.data = .cell (some (.ref D))) (hL : @LT.lt Nat _ (L + 1) fl) (hne : @Ne Nat fl D)
    (hu : IntsAre us fs) (hc7 : CarriedAll ys (List.map (fun k => PyData.int ((a :: zs).getD (k + 1).toNat 0 - (a :: zs).getD k.toNat 0)) (List.filter (fun _ => true) (rangeInts 0 1 zs.length))))
    (hn : (a :: zs).length = n) (hc : n ≤ 10) (hf : us.length + n ≤ 10) (hA : fs ++ firstsF n (a :: zs) = all) :
    WStep h₀ L s (FJ h₀ L all) Q n .next { s with heap := h', toks := tk } := by
  rw [diffL_carried] at hc7
  have hi := carried_ints hc7
  have hlen : ys.length = zs.length := by rw [hi.length, diffL_length]
  rw [List.length_cons] at hn
  refine ⟨zs.length, by omega, h', tk, _, news', [(fl, listOf (us ++ [Value.int a t]).toArray (k + 1)), (L + 1, o'), (D, listOf ys.toArray k7)], rfl, F, N, ?_, fl, D, ys, diffL (a :: zs), us ++ [Value.int a t], fs ++ [a], k + 1, _, o', d, hL, hne, rfl, rfl, ⟨k7, .inr rfl⟩, hi, hu.append (.cons _ _ .nil), diffL_length _ _, hlen, by omega, ?_, ?_⟩
  · intro p hp
    rcases List.mem_cons.mp hp with rfl | hp
    · have e : us.toArray.push (.int a t) = (us ++ [Value.int a t]).toArray := by simp
      rw [← e]
      exact m1
    · rcases List.mem_cons.mp hp with rfl | hp
      · exact m2
      · rw [List.mem_singleton.mp hp]
        exact m3
  · rw [List.length_append, List.length_singleton]; omega
  · subst hn
    rw [List.append_assoc]
    exact hA
theorem fj_next2 {h₀ h' : Heap} {L fl D : Addr} {s : Shared} {Q : Flow → Shared → Prop} {news' : List (Addr × Obj)} {us ys : List Value} {fs zs all : List Int} {a : Int} {t : Tok} {k k7 n tk : Nat} {o' : Obj}
    (F : Fr h₀ L h' (fun y => if y = Str.ofString "firsts" then some (.ref fl) else none)) (N : News h₀ L h' news')
    (m1 : (fl, listOf (us ++ [Value.int ((a :: zs).getD (Int.toNat 0) 0) t]).toArray (k + 1)) ∈ news') (m2 : (L + 1, o') ∈ news') (m3 : (D, listOf ys.toArray k7) ∈ news') (d : o'.data = .cell (some (.ref D))) (hL : @LT.lt Nat _ (L + 1) fl) (hne : @Ne Nat fl D)
    (hu : IntsAre us fs) (hc7 : CarriedAll ys (List.map (fun k => PyData.int ((a :: zs).getD (k + 1).toNat 0 - (a :: zs).getD k.toNat 0)) (List.filter (fun _ => true) (rangeInts 0 1 zs.length))))
    (hn : (a :: zs).length = n) (hc : n ≤ 10) (hf : us.length + n ≤ 10) (hA : fs ++ firstsF n (a :: zs) = all) :
    WStep h₀ L s (FJ h₀ L all) Q n .next { s with heap := h', toks := tk } := by
  have e : us.toArray.push (.int ((a :: zs).getD (Int.toNat 0) 0) t) = (us ++ [Value.int ((a :: zs).getD (Int.toNat 0) 0) t]).toArray := by simp
  have m1' : (fl, listOf (us.toArray.push (.int ((a :: zs).getD (Int.toNat 0) 0) t)) (k + 1)) ∈ news' := by
    rw [e]
    exact m1
  exact fj_next F N m1' m2 m3 d hL hne hu hc7 hn hc hf hA
theorem fj_end {s : Shared} {Q : Value → Shared → Prop} {h' : Heap} {L fl : Addr} {mp : Str → Option Value} {us : List Value} {fs zs : List Int} {news' : List (Addr × Obj)} {k n tk' : Nat}
    (hret : ∀ r h' tk', Keeps s.heap h' → (∃ l' us k, r = .ref l' ∧ s.heap.get? l' = none ∧ h'.get? l' = some (listOf us.toArray k) ∧ IntsAre us (firstsF zs.length zs)) → Q r { s with heap := h', toks := tk' })
    (F : Fr s.heap L h' mp) (N : News s.heap L h' news') (m1 : (fl, listOf us.toArray k) ∈ news') (hu : IntsAre us fs) (hA : fs ++ firstsF n [] = firstsF zs.length zs) : Q (.ref fl) { s with heap := h', toks := tk' } := by
  have hA' : fs = firstsF zs.length zs := by
    rw [← hA]
    cases n <;> simp [firstsF]
  exact hret _ _ _ F.keep ⟨fl, us, k, rfl, (N _ m1).2.2, (N _ m1).1, hA' ▸ hu⟩
end Mine
end
-- part WFirst
section
open PySem PySem.W PyProof.Rows PySem.Calls PySem.Spec
set_option maxRecDepth 100000
set_option maxHeartbeats 0
set_option linter.unusedVariables false
namespace Mine
section
variable {prog : Program} {w : World} {A : Around} {E : Value → Shared → Prop} {s : Shared}
theorem ne_nilK {a b : Addr} {Q : Value → Shared → Prop} (hl : s.heap.IsList a ([] : List Value).toArray) (hl' : s.heap.IsList b ([] : List Value).toArray) (hu : A.units + 64 < cLine)
    (h : Q (.bool false) s) : wpAny (model prog w) A (compareOp .NotEq (.ref a) (.ref b)) Q E s := ne_intsK (ns := []) (ms := []) hl .nil hl' .nil hu h
theorem ne_consK {a b : Addr} {v : Value} {vs : List Value} {n : Int} {ns : List Int} {Q : Value → Shared → Prop} (hl : s.heap.IsList a (v :: vs).toArray) (hi : IntsAre (v :: vs) (n :: ns)) (hl' : s.heap.IsList b ([] : List Value).toArray) (hu : A.units + 64 < cLine)
    (h : Q (.bool true) s) : wpAny (model prog w) A (compareOp .NotEq (.ref a) (.ref b)) Q E s := ne_intsK (ms := []) hl hi hl' .nil hu h
end
local macro_rules | `(tactic| walk_at "compareOp NotEq ref ref") => `(tactic| (k_here; (first | (k_dflt (refine' ne_nilK ?k1 ?k3 ?k5 ?_); (case k3 => is_list); (case k1 => is_list); (case k5 => ((try dsimp only [Around.deeper]); first | exact room2 hd | exact room2 hu | exact room1 hd | exact room1 hu | omega))) | (k_dflt (refine' ne_consK ?k1 ?k2 ?k3 ?k5 ?_); (case k3 => is_list); (case k1 => is_list); (case k2 => assumption); (case k5 => ((try dsimp only [Around.deeper]); first | exact room2 hd | exact room2 hu | exact room1 hd | exact room1 hu | omega))))))
local macro_rules | `(tactic| walk_at "call builtin:list.append") => `(tactic| (k_here; k_dflt (refine' append_K ?k1 ?k2 ?k3 ?_ ?z); (case k1 => k_asm); (case k2 => k_asm); (case k3 => k_upd); (case z => exact Nat.le_trans (m := 1000) (by (simp only [List.size_toArray]); omega) (by decide)); intro h' F' N'; try k_sweep))
local macro_rules | `(tactic| walk_at "call builtin:len") => `(tactic| (k_here; (with_reducible show wpAny _ _ (call (Value.builtin _) [Value.ref _]) _ _ _); k_dflt (refine' call_len_list ?k1 ?k2 ?_); (case k1 => is_list); (case k2 => (rw [List.size_toArray]; omega)); (try dsimp only [List.size_toArray])))
local macro_rules | `(tactic| walk_at "call ref") => `(tactic| (k_here; (with_reducible show wpAny _ _ (call (Value.ref _) [Value.int _ _, Value.int _ _]) _ _ _); k_dflt (refine' Does.use (sub_does _ _ _ _ _) ?kF ?kN ?kX ?kT ?kd ?ku trivial ?_; (case kF => k_asm); (case kN => k_asm); (case kX => k_asm); (case kT => k_asm); (case kd => ((try dsimp only [Around.deeper]); first | exact room2 hd | exact room2 hu | exact room1 hd | exact room1 hu | omega)); (case ku => ((try dsimp only [Around.deeper]); first | exact room2 hd | exact room2 hu | exact room1 hd | exact room1 hu | omega))); (rintro r9 h9 tk9 K9 F9 N9 ⟨t9, e9⟩); subst e9; (try ((with_reducible rename InElt _ _ => kE9); (have cE9 := InElt.next kE9 K9); clear kE9))))
theorem firsts_does (w : World) (l : Addr) (vs : List Value) (zs : List Int) (hv : IntsAre vs zs) (hl : zs.length ≤ 10) :
    Does w 202 8 100 [.ref l] (fun h => h.IsList l vs.toArray) (fun h r h' => ∃ l' us k, r = .ref l' ∧ h.get? l' = none ∧ h'.get? l' = some (listOf us.toArray k) ∧ IntsAre us (firstsF zs.length zs)) := by
  constructor
  k_fill
  intro p loose mean mg mb dp un fr gd s Q X T hd hu hp hret
  refine' enterC (binds := [(Str.ofString "values", .ref l)]) ?k1 ?k2 ?k3 ?k4 ?k5 ?k6 ?k7 ?k8 ?_ ?c1 ?c2 ?c3
  case k1 => exact X
  case k2 => exact T
  case k3 => k_is
  case k4 => k_is
  case k5 => (show dp < recursionLimit; first | exact Nat.lt_of_le_of_lt (Nat.le_add_right _ _) hd | omega)
  case k6 => exact BindsTo.of_eq rfl
  case k7 =>
    intro n x hx
    rcases List.mem_cons.mp hx with rfl | hx
    · first | exact .inl rfl | exact .inr ⟨rfl, rfl⟩
    exact nomatch hx
  case k8 => decide
  case c1 => rfl
  case c2 => rfl
  case c3 => rfl
  intro L h tk cells F0 N Y
  have F : Fr s.heap L h (fun _ => none) := F0
  clear F0
  have Y2 : CellsAre _ [(Str.ofString "values", L + 1)] cells := Y
  clear Y
  obtain ⟨oc1, hE, dc1⟩ := CellsAre.one Y2
  subst hE
  clear Y2
  have dd1 : oc1.data = .cell (some (.ref l)) := dc1
  clear dc1
  conv in fBody _ => whnf
  have hlL : @LT.lt Nat _ l L := by
    obtain ⟨o, ho, _⟩ := hp
    exact Nat.lt_of_lt_of_le (Heap.lt_size ho) F.above
  k_with_none
  k_with "exec While Compare cons nil" => (k_dflt (refine' while_gen (FJ s.heap L (firstsF zs.length zs)) (n₀ := zs.length) ?wF ?wN ?wJ ?wT PassesOwn.never); (case wF => k_asm); (case wN => k_asm); (case wJ => exact fj_start hp hv hl dd1 (by omega) hlL); (with_reducible rename Fr _ _ _ _ => F8); (with_reducible rename News _ _ _ _ => N8); clear F8 N8 dd1; (rintro n9 m9 news9 h9 tk9 F9 N9 ⟨fl9, l9, vs9, zs9, us9, fs9, k9, tl9, oc9, dd9, hL9, hne9, e9, e8, ⟨k8, hB⟩, hv9, hu9, hn9, hm9, hc9, hf9, hA9⟩; subst e9; subst e8; rcases hB with ⟨e7, hl9⟩ | e7 <;> subst e7 ; all_goals (rcases ints_cases hv9 with ⟨e6, e5⟩ | ⟨a1, t1, vs1, zs1, e6, e5, hr1⟩ <;> subst e6 <;> subst e5); all_goals refine' Hold.mk ?_))
  k_with "eval ListComp" => (k_dflt (refine' ListComp_DCr (h₀ := s.heap) (L := L) (m := fun y => if y = Str.ofString "firsts" then some (.ref fl9) else none) (pz := fun _ => true) (d := fun k => PyData.int ((a1 :: zs1).getD (k + 1).toNat 0 - (a1 :: zs1).getD k.toNat 0)) rfl rfl (by decide) rfl (by decide) rfl ?_ (fun _ => rfl); with_reducible refine wpAny_compPack ?_))
  k_with "CompPack" => ((with_reducible show CompPack _); k_dflt (refine' CompPack.intro ⟨_, _, 0, _, 1, _, _, _, zs1.length, rfl, by assumption, range_small (n := zs1.length) (by simp) (by have : zs1.length + 1 = n9 := hn9; omega), range_size (n := zs1.length) (by simp), le_sizeLine (n := zs1.length) (by have : zs1.length + 1 = n9 := hn9; omega), by assumption, by assumption, (fun C a v s₂ m₂ E' _ _ _ _ _ _ => wpAny_pure ⟨rfl, Keeps.here s₂⟩), ?_, ?_⟩); (focus (with_reducible rename Fr _ _ _ _ => F6); (with_reducible rename News _ _ _ _ => N6); rintro C7 a7 v7 s7 m7 E7 hC7 ha7 ⟨t7, rfl⟩ - hns7 hm7 hk7; (have F7 := Fr.keeps F6 hk7); (have N7 := News.grown N6 hk7); (have hb7 := mem_rangeInts ha7); (have hq7 : (a1 :: zs1).length = zs1.length + 1 := rfl); (have hq8 : (Value.int a1 t1 :: vs1).length = zs1.length + 1 := hm9.trans hn9.symm); clear F6 N6); (rotate_left; focus (intro D7 ys7 h7 tk7 F7 N7 hD7 hl7 hp7 hc7; (obtain ⟨k7, N6, hne7⟩ := newPlain_news F7 N7 hD7 hp7); clear N7; simp only [List.forall_mem_cons] at hne7; refine' Hold.mk ?_)); rotate_right)
  k_steps
  all_goals refine' Hold.open ?_
  rotate_left
  all_goals k_steps
  all_goals try (exact Carried.int _ _)
  all_goals try (exact ⟨_, _, rfl, by assumption⟩)
  all_goals try (refine' Hold.open ?_)
  all_goals k_steps
  all_goals first
    | (exact fj_next (by k_asm) (by k_asm) (by k_mem) (by k_mem) (by k_mem) (by assumption) (by assumption) (by omega) hu9 hc7 hn9 hc9 hf9 hA9)
    | (exact fj_next2 (by k_asm) (by k_asm) (.tail _ (.tail _ (.head _))) (.tail _ (.tail _ (.tail _ (.head _)))) (.head _) (by assumption) (by assumption) (by omega) hu9 hc7 hn9 hc9 hf9 hA9)
    | (exact fj_end (s := s) hret (by k_asm) (by k_asm) (by k_mem) (by assumption) (by assumption))
    | (exfalso; revert ‹decide _ = true›; simp; done)
    | trace_state
end Mine
end
-- part WLawA
section
open PySem PySem.W PyProof.Rows PySem.Calls PySem.Spec
set_option maxRecDepth 100000
set_option maxHeartbeats 0
set_option linter.unusedVariables false
namespace Mine

noncomputable def lawB : List Stmt := fBody 26
noncomputable abbrev lawE (L : Addr) : Env := envOfC (Str.ofString "law") (fScope 26) L 207 (.ref 206)
noncomputable def SEnd (R : Shared → Prop) (f : Flow) (s' : Shared) : Prop := f = .next ∧ R s'
theorem News.mores {h₀ h h' : Heap} {L : Addr} {m : Str → Option Value} {news tl : List (Addr × Obj)} (F : Fr h₀ L h m) (N : News h₀ L h' news) (e : ∀ p ∈ tl, h'.get? p.1 = some p.2 ∧ h.get? p.1 = none) : News h₀ L h' (news ++ tl) := by
  intro p hp
  rcases List.mem_append.mp hp with hp | hp
  · exact N p hp
  · exact (News.more' F N (e p hp).1 (e p hp).2) p (.head _)
noncomputable def DsOk (ds : List Deed) : Prop := ∃ d8, ds = d8 ++ [lastDeed] ∧ d8.length = 8 ∧ ∀ d ∈ d8, DeedOk d
theorem DsOk.len {ds : List Deed} (h : DsOk ds) : ds.length = 9 := by
  obtain ⟨d8, rfl, h8, _⟩ := h
  simp [h8]
theorem fresh_off {h : Heap} {h' : Heap} {tl : List (Addr × Obj)} {b : Addr} {o : Obj} (e : ∀ p ∈ tl, h'.get? p.1 = some p.2 ∧ h.get? p.1 = none) (hb : h.get? b = some o) : OwnOff tl [b] := by
  intro p hp c hc q
  rw [List.mem_singleton.mp hc] at q
  rw [← q, (e p hp).2] at hb
  cases hb

theorem law_s0 {w : World} {p : Program} {loose : List Str} {mean : ExcName → Option Value} {mg mb : Str → Option Value} {dp un : Nat} {fr : Option (List Env)} {gd : Option (List Code)} {s : Shared} {h₀ : Heap} {L : Addr} {m : Str → Option Value} {l : Addr} {vs : List Value} {zs : List Int} {oc : Obj}
    (X : (Kf w.params).In h₀) (T : Top p loose mean mg mb h₀) (hd : dp + 20 < recursionLimit) (hu : un + 300 < cLine) (F : Fr h₀ L s.heap m) (N : News h₀ L s.heap [(L + 1, oc)]) (hl : h₀.IsList l vs.toArray) (hv : IntsAre vs zs) (hz : zs.length ≤ 63) (h1 : m (Str.ofString "script") = some (.ref l)) :
    wpAny (model lw.prog w) ((Ar dp un fr gd).deeper (lawE L)) (exec (lawB.getD 0 (.Pass ⟨0, 0, 0, 0⟩)) (lawE L)) (SEnd fun s' => ∃ h' tk m', s' = { s with heap := h', toks := tk } ∧ Fr h₀ L h' m' ∧ ∃ da us k tl ds, News h₀ L h' ((L + 1, oc) :: (da, listOf us.toArray k) :: tl) ∧ OwnOff tl [L + 1] ∧ @Ne Nat da (L + 1) ∧ DeedsIn tl us ds ∧ DsOk ds ∧ m' (Str.ofString "deeds") = some (.ref da) ∧ m' (Str.ofString "script") = some (.ref l)) (fun _ _ => False) s := by
  rw [at_name h1] at F
  unfold lawE
  conv in lawB.getD _ _ => whnf
  revert X
  k_fill
  intro X
  k_with_none
  k_with "call ref" => ((with_reducible rename Fr _ _ _ _ => F4); k_dflt (refine' Does.use (deeds_does w _ vs zs hv hz) (by k_asm) (by k_asm) X T (by (try dsimp only [Around.deeper]); first | exact room2 hd | exact room2 hu | exact room1 hd | exact room1 hu | omega) (by (try dsimp only [Around.deeper]); first | exact room2 hd | exact room2 hu | exact room1 hd | exact room1 hu | omega) (by is_list) ?_); rintro r9 h9 tk9 K9 F9 N9 ⟨a9, us9, k9, tl9, ds9, e9, fr9, g9, D9, n9, len9, ok9⟩; subst e9; (have N8 := News.more' F4 N9 g9 fr9); (have N7 := News.mores F4 N8 n9); (have hL := (N _ (.head _)).1); (have oF9 := fresh_off n9 hL); (have hne : @Ne Nat a9 (L + 1) := fun q => by rw [q, hL] at fr9; cases fr9); clear N8 N9)
  k_steps
  (with_reducible rename Fr _ _ _ _ => F9)
  (with_reducible rename News _ _ _ _ => N9)
  refine ⟨rfl, _, _, _, rfl, F9, a9, us9, k9, tl9, ds9 ++ [lastDeed], fun p hp => N9 p ?_, oF9, hne, D9, ⟨ds9, rfl, len9, ok9⟩, rfl, rfl⟩
  · rcases List.mem_cons.mp hp with rfl | hp
    · exact .tail _ (.head _)
    · rcases List.mem_cons.mp hp with rfl | hp
      · exact .head _
      · exact .tail _ (.tail _ hp)

theorem DeedIn.tup {h₀ h : Heap} {L : Addr} {tl : List (Addr × Obj)} {v : Value} {d : Deed} (D : DeedIn tl v d) (N : News h₀ L h tl) : ∃ a t its, v = .ref a ∧ IsTup h a its ∧ its[0]? = some (Value.int d.kind t) := by
  obtain ⟨a, o, t0, t1, t2, t3, t4, e, hm, hc, n, hd⟩ := D
  exact ⟨a, t0, _, e, ⟨o, (N _ hm).1, hc, n, hd⟩, rfl⟩
theorem DeedsIn.kinds {h₀ h : Heap} {L : Addr} {tl : List (Addr × Obj)} {vs : List Value} {ds : List Deed} (D : DeedsIn tl vs ds) (N : News h₀ L h tl) : AreOf (tupKind h) vs (ds.map (·.kind)) := by
  induction D with
  | nil => exact .nil
  | cons a _ ih => exact .cons (DeedIn.tup a N) ih
section

theorem law_s1 {w : World} {p : Program} {loose : List Str} {mean : ExcName → Option Value} {mg mb : Str → Option Value} {dp un : Nat} {fr : Option (List Env)} {gd : Option (List Code)} {s : Shared} {h₀ : Heap} {L : Addr} {m : Str → Option Value} {da : Addr} {us : List Value} {k : Nat} {ds : List Deed} {oc : Obj} {tl : List (Addr × Obj)}
    (X : (Kf w.params).In h₀) (T : Top p loose mean mg mb h₀) (hd : dp + 20 < recursionLimit) (hu : un + 300 < cLine) (F : Fr h₀ L s.heap m) (N : News h₀ L s.heap ((L + 1, oc) :: (da, listOf us.toArray k) :: tl)) (hoff : OwnOff tl [L + 1]) (hne : @Ne Nat da (L + 1)) (hoc : ∃ v, oc.data = .cell v) (hD : DeedsIn tl us ds) (hds : DsOk ds) (h1 : m (Str.ofString "deeds") = some (.ref da)) :
    wpAny (model lw.prog w) ((Ar dp un fr gd).deeper (lawE L)) (exec (lawB.getD 1 (.Pass ⟨0, 0, 0, 0⟩)) (lawE L)) (SEnd fun s' => ∃ h' tk m', s' = { s with heap := h', toks := tk } ∧ Fr h₀ L h' m' ∧ (∀ y, m' y = m y) ∧ ∃ ka ks k2 oc', oc'.data = .cell (some (.ref ka)) ∧ IntsAre ks (ds.map (·.kind)) ∧ @Ne Nat ka (L + 1) ∧ News h₀ L h' ((L + 1, oc') :: (ka, listOf ks.toArray k2) :: (da, listOf us.toArray k) :: tl)) (fun _ _ => False) s := by
  obtain ⟨cv, hcv⟩ := hoc
  have hlen := hds.len
  rw [at_name h1] at F
  unfold lawE
  conv in lawB.getD _ _ => whnf
  revert X
  k_fill
  intro X
  k_with "eval ListComp" => (k_dflt (refine' vcomp (tupKind s.heap) PyData.int (by k_asm) rfl rfl (by decide) rfl (by decide) rfl ?_ (fun _ => rfl)))
  k_with "subscriptTail" => (k_dflt (refine' item_tuple T9 (by decide) (by decide) (seqIdx0 h8) h8 ?_))
  k_with "CompPack" => ((with_reducible show CompPack _); (with_reducible rename Fr _ _ _ _ => F6); (with_reducible rename News _ _ _ _ => N6); k_dflt (refine' CompPack.intro ⟨_, _, us, _, rfl, (by is_list), DeedsIn.kinds hD (fun p hp => N6 p (.tail _ (.tail _ hp))), le_sizeLine (n := _) (by rw [List.length_map]; omega), F6, N6, ?_, ?_⟩); (focus (rintro C7 a7 v7 s7 m7 E7 hC7 ha7 ⟨a8, t8, its8, e8, T8, h8⟩ hns7 hm7 hk7; subst e8; (have F7 := Fr.keeps F6 hk7); (have N7 := News.grown N6 hk7); (have T9 := IsTup.keepK T8 hk7); clear F6 N6)); (rotate_left; focus (intro D7 ys7 h7 tk7 F7 N7 hD7 hl7 hp7 hc7; (obtain ⟨k7, N5, hne7⟩ := newPlain_news F7 N7 hD7 hp7); (have hi7 := carried_ints hc7); (have hq7 : @Ne Nat D7 (L + 1) := fun q => hne7 _ (.head _) q.symm); clear N7 F6 N6)); rotate_right)
  k_steps
  all_goals try exact Carried.int _ _
  all_goals try exact ⟨_, _, rfl, fun _ _ e => e⟩
  (with_reducible rename Fr _ _ _ _ => F9)
  (with_reducible rename News _ _ _ _ => N9)
  (with_reducible rename _ = Data.cell (some (Value.ref D7)) => d9)
  refine ⟨rfl, _, _, _, rfl, F9, fun y => (congrFun (at_name h1) y).symm, D7, ys7, k7, _, d9, hi7, hq7, fun p hp => N9 p ?_⟩
  rcases List.mem_cons.mp hp with rfl | hp
  · exact .tail _ (.head _)
  · rcases List.mem_cons.mp hp with rfl | hp
    · exact .head _
    · exact .tail _ (.tail _ hp)
end
theorem law_s2 {w : World} {p : Program} {loose : List Str} {mean : ExcName → Option Value} {mg mb : Str → Option Value} {dp un : Nat} {fr : Option (List Env)} {gd : Option (List Code)} {s : Shared} {h₀ : Heap} {L : Addr} {m : Str → Option Value} {da : Addr} {us : List Value} {k : Nat} {ds : List Deed} {news tl : List (Addr × Obj)}
    (X : (Kf w.params).In h₀) (T : Top p loose mean mg mb h₀) (hd : dp + 20 < recursionLimit) (hu : un + 300 < cLine) (F : Fr h₀ L s.heap m) (N : News h₀ L s.heap news) (hm : (da, listOf us.toArray k) ∈ news) (hD : DeedsIn tl us ds) (hs : ∀ p ∈ tl, p ∈ news) (hds : DsOk ds) (h1 : m (Str.ofString "deeds") = some (.ref da)) :
    wpAny (model lw.prog w) ((Ar dp un fr gd).deeper (lawE L)) (exec (lawB.getD 2 (.Pass ⟨0, 0, 0, 0⟩)) (lawE L)) (SEnd fun s' => ∃ h' tk m', s' = { s with heap := h', toks := tk } ∧ Fr h₀ L h' m' ∧ (∀ y, y ≠ Str.ofString "told" → m' y = m y) ∧ ∃ ta ts k2 tt, m' (Str.ofString "told") = some (.ref ta) ∧ ToldIn tt ts (toldAll ds) ∧ News h₀ L h' ((ta, listOf ts.toArray k2) :: news ++ tt)) (fun _ _ => False) s := by
  have hlen := hds.len
  have hli : s.heap.IsList da us.toArray := News.isList N hm
  have hda := DeedsIn.are hD fun p hp => N p (hs p hp)
  rw [at_name h1] at F
  unfold lawE
  conv in lawB.getD _ _ => whnf
  revert X
  k_fill
  intro X
  k_with "call ref" => ((with_reducible rename Fr _ _ _ _ => F4); k_dflt (refine' Does.use (told_does w _ us ds (by omega)) (by k_asm) (by k_asm) X T (by (try dsimp only [Around.deeper]); first | exact room2 hd | exact room2 hu | exact room1 hd | exact room1 hu | omega) (by (try dsimp only [Around.deeper]); first | exact room2 hd | exact room2 hu | exact room1 hd | exact room1 hu | omega) ⟨hli, hda⟩ ?_); rintro r9 h9 tk9 K9 F9 N9 ⟨a9, us9, k9, tl9, e9, fr9, g9, D9, n9⟩; subst e9; (have N8 := News.more' F4 N9 g9 fr9); (have N7 := News.mores F4 N8 n9); clear N8 N9)
  k_steps
  (with_reducible rename Fr _ _ _ _ => F9)
  (with_reducible rename News _ _ _ _ => N9)
  refine ⟨rfl, _, _, _, rfl, F9, fun y hy => ?_, a9, us9, k9, tl9, rfl, D9, N9⟩
  rw [if_neg hy]
  exact (congrFun (at_name h1) y).symm
theorem law_s3 {w : World} {p : Program} {loose : List Str} {mean : ExcName → Option Value} {mg mb : Str → Option Value} {dp un : Nat} {fr : Option (List Env)} {gd : Option (List Code)} {s : Shared} {h₀ : Heap} {L : Addr} {m : Str → Option Value} {da : Addr} {us : List Value} {k : Nat} {ds : List Deed} {news tl : List (Addr × Obj)}
    (X : (Kf w.params).In h₀) (T : Top p loose mean mg mb h₀) (hd : dp + 20 < recursionLimit) (hu : un + 300 < cLine) (F : Fr h₀ L s.heap m) (N : News h₀ L s.heap news) (hm : (da, listOf us.toArray k) ∈ news) (hD : DeedsIn tl us ds) (hs : ∀ p ∈ tl, p ∈ news) (hb : ∀ i, (prepN (mailF (ds.take i))).length ≤ 16777216 ∧ (mailF (ds.take i)).length ≤ 1000) (hl : ∀ d ∈ ds, d.veil.length ≤ 10 ∧ d.typed.length ≤ 10 ∧ d.fin.length ≤ 10) (h1 : m (Str.ofString "deeds") = some (.ref da)) :
    wpAny (model lw.prog w) ((Ar dp un fr gd).deeper (lawE L)) (exec (lawB.getD 3 (.Pass ⟨0, 0, 0, 0⟩)) (lawE L)) (SEnd fun s' => ∃ h' tk m', s' = { s with heap := h', toks := tk } ∧ Fr h₀ L h' m' ∧ (∀ y, y ≠ Str.ofString "mail" → m' y = m y) ∧ (∃ t, m' (Str.ofString "mail") = some (.str (strOf (mailF ds)) t)) ∧ News h₀ L h' news) (fun _ _ => False) s := by
  have hli : s.heap.IsList da us.toArray := News.isList N hm
  have hda := DeedsIn.are hD fun p hp => N p (hs p hp)
  rw [at_name h1] at F
  unfold lawE
  conv in lawB.getD _ _ => whnf
  revert X
  k_fill
  intro X
  k_with "call ref" => (k_dflt (refine' Does.use (mail_does w _ us ds (fun i => (hb i).1) (fun i => (hb i).2) hl) (by k_asm) (by k_asm) X T (by (try dsimp only [Around.deeper]); first | exact room2 hd | exact room2 hu | exact room1 hd | exact room1 hu | omega) (by (try dsimp only [Around.deeper]); first | exact room2 hd | exact room2 hu | exact room1 hd | exact room1 hu | omega) ⟨hli, hda⟩ ?_); rintro r9 h9 tk9 K9 F9 N9 ⟨t9, e9⟩; subst e9)
  k_steps
  (with_reducible rename Fr _ _ _ _ => F9)
  (with_reducible rename News _ _ _ _ => N9)
  refine ⟨rfl, _, _, _, rfl, F9, fun y hy => ?_, ⟨_, rfl⟩, N9⟩
  rw [if_neg hy]
  exact (congrFun (at_name h1) y).symm
end Mine
end
-- part WTrip
section
open PySem PySem.W PyProof.Rows PySem.Calls PySem.Spec
set_option maxRecDepth 100000
set_option maxHeartbeats 0
set_option linter.unusedVariables false
namespace Mine
noncomputable def TEnd (P : Value → Prop) (s : Shared) (y : Value) (s₃ : Shared) : Prop := P y ∧ ∃ tk, s₃ = { s with toks := tk }
section
variable {prog : Program} {w : World} {A : Around} {E : Value → Shared → Prop} {s : Shared} {h₀ : Heap} {L : Addr} {m : Str → Option Value} {env : Env}
noncomputable def TSrc (prog : Program) (w : World) (A : Around) (h₀ : Heap) (L : Addr) (m : Str → Option Value) (env : Env) (elt : Expr) (x y z : Str) (scope : Scope) (cl : List (Str × Addr)) (P : Nat → Value → Prop) (Q : Value → Shared → Prop) (xv : Value) (s₁ : Shared) : Prop :=
  ∃ (ax : Addr) (vs : List Value) (news : List (Addr × Obj)), xv = .ref ax ∧ Fr h₀ L s₁.heap m ∧ News h₀ L s₁.heap news ∧ s₁.heap.IsList ax vs.toArray ∧ vs.length ≤ sizeLine ∧
    (∀ i v, vs[i]? = some v → ∃ t v1 v2 v3, v = .ref t ∧ IsTup s₁.heap t #[v1, v2, v3] ∧ ∀ C s₂ m₂ E', Fr h₀ L s₂.heap m → s₂.heap.Ns (compEnvC scope cl C env).locals m₂ → m₂ x = some v1 → m₂ y = some v2 → m₂ z = some v3 →
      wpAny (model prog w) A (eval elt (compEnvC scope cl C env)) (TEnd (P i) s₂) E' s₂) ∧
    (∀ D ys h' tk, Fr h₀ L h' m → News h₀ L h' ((D, LCg.lst ys) :: news) → (∀ p ∈ news, @Ne Nat p.1 D) → ys.length = vs.length → (∀ i v, ys[i]? = some v → P i v) → Q (.ref D) { s₁ with heap := h', toks := tk })
theorem tcomp {elt iter : Expr} {x y z : Str} {px py pz tp : Pos} {tk} {scope : Scope} {cl : List (Str × Addr)} {pos : Pos} {Q : Value → Shared → Prop} (P : Nat → Value → Prop) (F₀ : Fr h₀ L s.heap m) (hh : A.handled = none)
    (hclos : closureFor scope env = pure cl) (hcell : ∀ y ∈ scope.names, y.2 ≠ .cell) (hkind : scope.kind = .function)
    (hnames : ∀ y ∈ scope.names, y.2 = .local → scope.names.lookup y.1 = some .local) (hx : scope.names.lookup x = some .local) (hy : scope.names.lookup y = some .local) (hz : scope.names.lookup z = some .local) (hxy : x ≠ y) (hxz : x ≠ z) (hyz : y ≠ z)
    (h : wpAny (model prog w) A (eval iter env) (TSrc prog w A h₀ L m env elt x y z scope cl P Q) E s)
    (hs : ∀ x, foldedSetIterable iter env x = pure x := by intro _; rfl) :
    wpAny (model prog w) A (eval (.ListComp elt [⟨.Tuple [.Name x px, .Name y py, .Name z pz] tk tp, iter, [], 0⟩] scope pos) env) Q E s := by
  rw [eval_ListComp]
  refine wpAny_comprehension_free (use := none) rfl hs hclos hkind hnames (wpAny_mono h (fun xv s₁ h₁ => ?_) fun _ _ e => e)
  obtain ⟨ax, vs, news, rfl, F, N, hl, hsz, turn, fin⟩ := h₁
  have hlt : ax < s₁.heap.objs.size := by obtain ⟨_, e, _⟩ := hl; exact Heap.lt_size e
  refine wpAny_pyIter_list hl ?_
  have W := Walks.list (prog := prog) (w := w) hh s₁.heap.objs.size ax (Nat.ne_of_lt hlt) vs.toArray
  refine wpAny_newObj_type (wpAny_newFunctionEnv hcell (by intro y hy; simp at hy) (fun h₁ hns₁ hsb₁ => ?_) hkind)
  dsimp only at hns₁ hsb₁ ⊢
  generalize hH1 : s₁.heap.push { cls := .type "list_iterator", data := .fields #[.ref ax, .int 0 0] } = H1 at hns₁ hsb₁ ⊢
  generalize hH2 : H1.push { cls := .type "list", dict := none, data := .seq ([] : List Value).toArray } = H2 at hns₁ hsb₁ ⊢
  have hI : H1.objs.size = s₁.heap.objs.size + 1 := by rw [← hH1, Heap.size_push]
  have hC : H2.objs.size = s₁.heap.objs.size + 2 := by rw [← hH2, Heap.size_push, hI]
  have hDC : H1.objs.size ≠ H2.objs.size := by rw [hC, hI]; exact Nat.ne_of_lt (Nat.lt_succ_self _)
  have hIC : s₁.heap.objs.size ≠ H2.objs.size := by rw [hC]; exact Nat.ne_of_lt (Nat.lt_succ_of_lt (Nat.lt_succ_self _))
  have hID : s₁.heap.objs.size ≠ H1.objs.size := by rw [hI]; exact Nat.ne_of_lt (Nat.lt_succ_self _)
  have below : ∀ b o, s₁.heap.get? b = some o → b ≠ s₁.heap.objs.size ∧ b ≠ H1.objs.size ∧ b ≠ H2.objs.size := fun b o e => by
    have hb := Heap.lt_size e
    refine ⟨Nat.ne_of_lt hb, ?_, ?_⟩
    · rw [hI]; exact Nat.ne_of_lt (Nat.lt_succ_of_lt hb)
    · rw [hC]; exact Nat.ne_of_lt (Nat.lt_succ_of_lt (Nat.lt_succ_of_lt hb))
  have old1 : ∀ b o, H1.get? b = some o → b ≠ H2.objs.size → h₁.get? b = some o := fun b o e q => hsb₁.extBut b o q (Heap.get?_push_of_some _ (hH2 ▸ Heap.get?_push_of_some _ e))
  have K₁ : ∀ b o, s₁.heap.get? b = some o → h₁.get? b = some o := fun b o e => old1 b o (hH1 ▸ Heap.get?_push_of_some _ e) (below b o e).2.2
  have hacc : h₁.get? H1.objs.size = some (LCg.lst []) := hsb₁.extBut _ _ hDC (Heap.get?_push_of_some _ (hH2 ▸ Heap.get?_push_size _ rfl))
  have hit : h₁.IsListIter s₁.heap.objs.size ax 0 := ⟨_, old1 _ _ (hH1 ▸ Heap.get?_push_size _ rfl) hIC, rfl, rfl⟩
  have fresh₀ : ∀ a, s₁.heap.objs.size ≤ a → h₀.get? a = none := fun a ha => by
    cases e : h₀.get? a with
    | none => rfl
    | some o' => exact absurd (Heap.lt_size (F.keep a o' e)) (Nat.not_lt.mpr ha)
  have hLlt : L < s₁.heap.objs.size := F.ns.lt
  have hDL : H1.objs.size ≠ L := by rw [hI]; exact Nat.ne_of_gt (Nat.lt_succ_of_lt hLlt)
  have hD₀ : h₀.get? H1.objs.size = none := fresh₀ _ (by rw [hI]; exact Nat.le_succ _)
  have hIf : s₁.heap.objs.size ∈ [s₁.heap.objs.size] := List.mem_singleton.mpr rfl
  have loop : ∀ s₃ : Shared, s₃ = { s₁ with heap := h₁, toks := s₁.toks + ([] : List (Str × Value)).length } →
      codeAny (model prog w) A (.compLoop (.ListComp elt [⟨.Tuple [.Name x px, .Name y py, .Name z pz] tk tp, iter, [], 0⟩] scope pos) 0 (.ref s₁.heap.objs.size) (.ref H1.objs.size) (compEnvC scope cl H2.objs.size env))
        (compPost (model prog w) A E none Q (.ref H1.objs.size) H2.objs.size) s₃ := by
    rintro s₃ rfl
    refine LCp.codeAny_compLoop_pair
      (fun k s' => ∃ h' tk i ys m', s' = { s₁ with heap := h', toks := tk } ∧ i ≤ vs.length ∧ k = vs.length + 1 - i ∧ ys.length = i ∧ (∀ b o, s₁.heap.get? b = some o → h'.get? b = some o) ∧ h'.IsListIter s₁.heap.objs.size ax i ∧ h'.Ns H2.objs.size m' ∧ h'.get? H1.objs.size = some (LCg.lst ys) ∧
        ∀ j v, ys[j]? = some v → P j v) ?_ (vs.length + 1) ⟨h₁, _, 0, [], _, rfl, Nat.zero_le _, rfl, rfl, K₁, hit, hns₁, hacc, fun j v e => by cases e⟩
    rintro k s' ⟨h', tk, i, ys, m', rfl, hi, rfl, hyl, K', hit', hn', hD', hP'⟩
    have hl' : h'.IsList ax vs.toArray := by obtain ⟨o, e, r⟩ := hl; exact ⟨o, K' _ _ e, r⟩
    by_cases hlt : i < vs.length
    · refine W.item i _ _ _ (by simpa using hlt) ⟨hit', hl'⟩ fun v h₂ tk₂ hPv hst₂ hk₂ => ?_
      obtain ⟨t, v1, v2, v3, rfl, ht, el⟩ := turn i v (by simpa using hPv)
      have K₂ : ∀ b o, s₁.heap.get? b = some o → h₂.get? b = some o := fun b o e => hk₂ b o (by simpa using (below b o e).1) (K' b o e)
      have ht₂ : IsTup h₂ t #[v1, v2, v3] := by obtain ⟨o, e, r⟩ := ht; exact ⟨o, K₂ _ _ e, r⟩
      refine wpAny_letOwnedTupleGo_listiter hst₂.1 ?_
      refine assign_Tuple_tuple hh ht₂ rfl rfl fun h₅ he => ?_
      have he' : ∀ b o, h₂.get? b = some o → h₅.get? b = some o := fun b o e => he b o (Nat.ne_of_lt (Heap.lt_size e)) e
      refine assignInOrder_cons (wpAny_assign_Name (wpAny_storeName_local (lookup_relabel_local hx) ((hn'.at' fun o e => hk₂ _ o (by simpa using Ne.symm hIC) e).at' fun o e => he' _ o e) (fun h₆ hn₆ hs₆ => ?_) (by simp [compEnvC, relabel, hkind])))
      refine assignInOrder_cons (wpAny_assign_Name (wpAny_storeName_local (lookup_relabel_local hy) hn₆ (fun h₇ hn₇ hs₇ => ?_) (by simp [compEnvC, relabel, hkind])))
      refine assignInOrder_cons (wpAny_assign_Name (wpAny_storeName_local (lookup_relabel_local hz) hn₇ (fun h₃ hn₃ hs₃ => ?_) (by simp [compEnvC, relabel, hkind])))
      refine assignInOrder_nil ?_
      have old3 : ∀ b o, b ≠ H2.objs.size → h₂.get? b = some o → h₃.get? b = some o := fun b o hb e => hs₃.extBut b o hb (hs₇.extBut b o hb (hs₆.extBut b o hb (he' b o e)))
      have K₃ : ∀ b o, s₁.heap.get? b = some o → h₃.get? b = some o := fun b o e => old3 b o (below b o e).2.2 (K₂ b o e)
      refine wpAny_mono (el H2.objs.size _ _ _ (F.keeps K₃) hn₃ (by simp [hxy, hxz, hyz]) (by simp [hyz]) (by simp)) (fun y₁ s₄ h₄ => ?_) fun _ _ e => e
      obtain ⟨hy₁, tk₄, rfl⟩ := h₄
      have hD₃ : h₃.get? H1.objs.size = some (LCg.lst ys) := old3 _ _ hDC (hk₂ _ _ (by simpa using Ne.symm hID) hD')
      refine append_at (hsz := by show ys.toArray.size ≤ sizeLine; rw [List.size_toArray, hyl]; exact Nat.le_trans hi hsz) hD₃ fun h₈ hs₈ hD₈ => ?_
      have old8 : ∀ b o, b ≠ H1.objs.size → h₃.get? b = some o → h₈.get? b = some o := fun b o hb e => hs₈.extBut b o hb e
      refine ⟨vs.length + 1 - (i + 1), by omega, h₈, tk₄, i + 1, ys ++ [y₁], _, rfl, hlt, rfl, by rw [List.length_append, List.length_singleton, hyl], fun b o e => old8 b o (below b o e).2.1 (K₃ b o e), ?_, hn₃.sameBut hs₈ (Ne.symm hDC), hD₈.trans (congrArg some (LCg.lst_snoc ys y₁)), fun j v e => ?_⟩
      · obtain ⟨o, e, r⟩ := hst₂.1
        exact ⟨o, old8 _ _ hID (old3 _ _ hIC e), r⟩
      · by_cases hj : j < ys.length
        · rw [List.getElem?_append_left hj] at e
          exact hP' j v e
        · rw [List.getElem?_append_right (Nat.not_lt.mp hj)] at e
          have hj0 : j - ys.length = 0 := by
            cases q : j - ys.length with
            | zero => rfl
            | succ n => rw [q] at e; cases e
          rw [hj0] at e
          cases e
          rw [show j = i by omega]
          exact hy₁
    · obtain rfl : i = vs.length := Nat.le_antisymm hi (Nat.not_lt.mp hlt)
      refine W.done _ _ _ (by simpa using (⟨hit', hl'⟩ : h'.IsListIter s₁.heap.objs.size ax vs.length ∧ h'.IsList ax vs.toArray)) fun h₂ tk₂ hk₂ => ?_
      have K₂ : ∀ b o, s₁.heap.get? b = some o → h₂.get? b = some o := fun b o e => hk₂ b o (by simpa using (below b o e).1) (K' b o e)
      refine ⟨m', hn'.at' fun o e => hk₂ _ o (by simpa using Ne.symm hIC) e, fun h'' hs'' => fin _ ys h'' tk₂ (F.keeps fun b o e => hs''.extBut b o (below b o e).2.2 (K₂ b o e)) (fun p hp => ?_) (fun p hp => (below _ _ (N p hp).1).2.1) hyl hP'⟩
      rcases List.mem_cons.mp hp with rfl | hp
      · exact ⟨hs''.extBut _ _ hDC (hk₂ _ _ (by simpa using Ne.symm hID) hD'), hDL, hD₀⟩
      · exact ⟨hs''.extBut _ _ (below _ _ (N p hp).1).2.2 (K₂ _ _ (N p hp).1), (N p hp).2⟩
  exact codeAny_compStart_list (loop _ rfl) (W.self 0 _ _ _ (by simpa using (⟨hit, by obtain ⟨o, e, r⟩ := hl; exact ⟨o, K₁ _ _ e, r⟩⟩ : h₁.IsListIter s₁.heap.objs.size ax 0 ∧ h₁.IsList ax vs.toArray)) (loop _ rfl))
noncomputable def SEl (P : Value → Prop) (s : Shared) (y : Value) (s₃ : Shared) : Prop := P y ∧ ∃ h' tk, s₃ = { s with heap := h', toks := tk } ∧ ∀ b o, s.heap.get? b = some o → h'.get? b = some o
noncomputable def SSrc (prog : Program) (w : World) (A : Around) (h₀ : Heap) (L : Addr) (m : Str → Option Value) (env : Env) (elt : Expr) (x : Str) (scope : Scope) (cl : List (Str × Addr)) (P : Nat → Value → Prop) (Q : Value → Shared → Prop) (xv : Value) (s₁ : Shared) : Prop :=
  ∃ (ax : Addr) (vs : List Value) (news : List (Addr × Obj)), xv = .ref ax ∧ Fr h₀ L s₁.heap m ∧ News h₀ L s₁.heap news ∧ s₁.heap.IsList ax vs.toArray ∧ vs.length ≤ sizeLine ∧
    (∀ i v, vs[i]? = some v → ∀ C s₂ m₂ E', 0 < s₂.toks → Fr h₀ L s₂.heap m → News h₀ L s₂.heap news → s₂.heap.Ns (compEnvC scope cl C env).locals m₂ → m₂ x = some v →
      wpAny (model prog w) A (eval elt (compEnvC scope cl C env)) (SEl (P i) s₂) E' s₂) ∧
    (∀ D ys h' tk, Fr h₀ L h' m → News h₀ L h' ((D, LCg.lst ys) :: news) → (∀ p ∈ news, @Ne Nat p.1 D) → ys.length = vs.length → (∀ i v, ys[i]? = some v → P i v) → Q (.ref D) { s₁ with heap := h', toks := tk })
theorem score {elt iter : Expr} {x : Str} {px : Pos} {scope : Scope} {cl : List (Str × Addr)} {pos : Pos} {s₁ : Shared} {ax : Addr} {vs : List Value} {news : List (Addr × Obj)} {RR : Value → Addr → Result → Shared → Prop} (P : Nat → Value → Prop) (hh : A.handled = none)
    (hcell : ∀ y ∈ scope.names, y.2 ≠ .cell) (hkind : scope.kind = .function) (hx : scope.names.lookup x = some .local)
    (F : Fr h₀ L s₁.heap m) (N : News h₀ L s₁.heap news) (hl : s₁.heap.IsList ax vs.toArray) (hsz : vs.length ≤ sizeLine)
    (turn : ∀ i v, vs[i]? = some v → ∀ C s₂ m₂ E', 0 < s₂.toks → Fr h₀ L s₂.heap m → News h₀ L s₂.heap news → s₂.heap.Ns (compEnvC scope cl C env).locals m₂ → m₂ x = some v →
      wpAny (model prog w) A (eval elt (compEnvC scope cl C env)) (SEl (P i) s₂) E' s₂)
    (fin : ∀ D C h' tk m' ys, Fr h₀ L h' m → News h₀ L h' ((D, LCg.lst ys) :: news) → (∀ p ∈ news, @Ne Nat p.1 D) → ys.length = vs.length → (∀ i v, ys[i]? = some v → P i v) → h'.Ns C m' → h₀.get? C = none → C ≠ L → C ≠ D → (∀ p ∈ news, p.1 ≠ C) → RR (.ref D) C (.ok .next) { s₁ with heap := h', toks := tk }) :
    wpAny (model prog w) A (newList []) (fun acc s₃ => wpAny (model prog w) A (newFunctionEnv scope env.globals cl [] env.qual none .none (some env)) (fun cenv s₄ =>
      codeAny (model prog w) A (.compStart (.ListComp elt [⟨.Name x px, iter, [], 0⟩] scope pos) 0 (.ref s₁.heap.objs.size) acc { cenv with scope := relabel scope env }) (RR acc cenv.locals) s₄) E s₃) E { s₁ with heap := s₁.heap.push { cls := .type "list_iterator", data := .fields #[.ref ax, .int 0 0] } } := by
  have hlt : ax < s₁.heap.objs.size := by obtain ⟨_, e, _⟩ := hl; exact Heap.lt_size e
  refine wpAny_newObj_type (wpAny_newFunctionEnv hcell (by intro y hy; simp at hy) (fun h₁ hns₁ hsb₁ => ?_) hkind)
  dsimp only at hns₁ hsb₁ ⊢
  generalize hH1 : s₁.heap.push { cls := .type "list_iterator", data := .fields #[.ref ax, .int 0 0] } = H1 at hns₁ hsb₁ ⊢
  generalize hH2 : H1.push { cls := .type "list", dict := none, data := .seq ([] : List Value).toArray } = H2 at hns₁ hsb₁ ⊢
  have hI : H1.objs.size = s₁.heap.objs.size + 1 := by rw [← hH1, Heap.size_push]
  have hC : H2.objs.size = s₁.heap.objs.size + 2 := by rw [← hH2, Heap.size_push, hI]
  have hDC : H1.objs.size ≠ H2.objs.size := by rw [hC, hI]; exact Nat.ne_of_lt (Nat.lt_succ_self _)
  have hIC : s₁.heap.objs.size ≠ H2.objs.size := by rw [hC]; exact Nat.ne_of_lt (Nat.lt_succ_of_lt (Nat.lt_succ_self _))
  have hID : s₁.heap.objs.size ≠ H1.objs.size := by rw [hI]; exact Nat.ne_of_lt (Nat.lt_succ_self _)
  have below : ∀ b o, s₁.heap.get? b = some o → b ≠ s₁.heap.objs.size ∧ b ≠ H1.objs.size ∧ b ≠ H2.objs.size := fun b o e => by
    have hb := Heap.lt_size e
    refine ⟨Nat.ne_of_lt hb, ?_, ?_⟩
    · rw [hI]; exact Nat.ne_of_lt (Nat.lt_succ_of_lt hb)
    · rw [hC]; exact Nat.ne_of_lt (Nat.lt_succ_of_lt (Nat.lt_succ_of_lt hb))
  have old1 : ∀ b o, H1.get? b = some o → b ≠ H2.objs.size → h₁.get? b = some o := fun b o e q => hsb₁.extBut b o q (Heap.get?_push_of_some _ (hH2 ▸ Heap.get?_push_of_some _ e))
  have K₁ : ∀ b o, s₁.heap.get? b = some o → h₁.get? b = some o := fun b o e => old1 b o (hH1 ▸ Heap.get?_push_of_some _ e) (below b o e).2.2
  have hacc : h₁.get? H1.objs.size = some (LCg.lst []) := hsb₁.extBut _ _ hDC (Heap.get?_push_of_some _ (hH2 ▸ Heap.get?_push_size _ rfl))
  have hit : h₁.IsListIter s₁.heap.objs.size ax 0 := ⟨_, old1 _ _ (hH1 ▸ Heap.get?_push_size _ rfl) hIC, rfl, rfl⟩
  have fresh₀ : ∀ a, s₁.heap.objs.size ≤ a → h₀.get? a = none := fun a ha => by
    cases e : h₀.get? a with
    | none => rfl
    | some o' => exact absurd (Heap.lt_size (F.keep a o' e)) (Nat.not_lt.mpr ha)
  have hLlt : L < s₁.heap.objs.size := F.ns.lt
  have hDL : H1.objs.size ≠ L := by rw [hI]; exact Nat.ne_of_gt (Nat.lt_succ_of_lt hLlt)
  have hD₀ : h₀.get? H1.objs.size = none := fresh₀ _ (by rw [hI]; exact Nat.le_succ _)
  have hC₀ : h₀.get? H2.objs.size = none := fresh₀ _ (by rw [hC]; exact Nat.le_succ_of_le (Nat.le_succ _))
  have hCL : H2.objs.size ≠ L := by rw [hC]; exact Nat.ne_of_gt (Nat.lt_succ_of_lt (Nat.lt_succ_of_lt hLlt))
  have hIf : s₁.heap.objs.size ∈ [s₁.heap.objs.size] := List.mem_singleton.mpr rfl
  have loop : ∀ s₃ : Shared, s₃ = { s₁ with heap := h₁, toks := s₁.toks + ([] : List (Str × Value)).length } →
      codeAny (model prog w) A (.compLoop (.ListComp elt [⟨.Name x px, iter, [], 0⟩] scope pos) 0 (.ref s₁.heap.objs.size) (.ref H1.objs.size) (compEnvC scope cl H2.objs.size env))
        (RR (.ref H1.objs.size) H2.objs.size) s₃ := by
    rintro s₃ rfl
    refine codeAny_compLoop_tests
      (fun k s' => ∃ h' tk i ys m', s' = { s₁ with heap := h', toks := tk } ∧ i ≤ vs.length ∧ k = vs.length + 1 - i ∧ ys.length = i ∧ (∀ b o, s₁.heap.get? b = some o → h'.get? b = some o) ∧ h'.IsListIter s₁.heap.objs.size ax i ∧ h'.Ns H2.objs.size m' ∧ h'.get? H1.objs.size = some (LCg.lst ys) ∧
        ∀ j v, ys[j]? = some v → P j v) ?_ (vs.length + 1) ⟨h₁, _, 0, [], _, rfl, Nat.zero_le _, rfl, rfl, K₁, hit, hns₁, hacc, fun j v e => by cases e⟩
    rintro k s' ⟨h', tk, i, ys, m', rfl, hi, rfl, hyl, K', hit', hn', hD', hP'⟩
    have hl' : h'.IsList ax vs.toArray := by obtain ⟨o, e, r⟩ := hl; exact ⟨o, K' _ _ e, r⟩
    by_cases hlt : i < vs.length
    · refine wpAny_pyNext_list_item hit' hl' (x := vs[i]) (by simp [hlt]) fun h₂ hit₂ hs₂ => ?_
      have hk₂ : ∀ b o, b ∉ [s₁.heap.objs.size] → h'.get? b = some o → h₂.get? b = some o := fun b o q e => hs₂.extBut b o (by simpa using q) e
      have hPv : vs[i]? = some vs[i] := by simp [hlt]
      have el := turn i _ hPv
      have K₂ : ∀ b o, s₁.heap.get? b = some o → h₂.get? b = some o := fun b o e => hk₂ b o (by simpa using (below b o e).1) (K' b o e)
      refine wpAny_assign_Name (wpAny_storeName_local (lookup_relabel_local hx) (hn'.at' fun o e => hk₂ _ o (by simpa using Ne.symm hIC) e) (fun h₃ hn₃ hs₃ => ?_) (by simp [compEnvC, relabel, hkind]))
      refine wpAny_tests_nil ?_
      simp only [if_true]
      have old3 : ∀ b o, b ≠ H2.objs.size → h₂.get? b = some o → h₃.get? b = some o := fun b o hb e => hs₃.extBut b o hb e
      have K₃ : ∀ b o, s₁.heap.get? b = some o → h₃.get? b = some o := fun b o e => old3 b o (below b o e).2.2 (K₂ b o e)
      refine wpAny_mono (el H2.objs.size _ _ _ (Nat.succ_pos _) (F.keeps K₃) (N.grown K₃) hn₃ (by simp)) (fun y₁ s₄ h₄ => ?_) fun _ _ e => e
      obtain ⟨hy₁, h₅, tk₄, rfl, up₅⟩ := h₄
      have hD₃ : h₅.get? H1.objs.size = some (LCg.lst ys) := up₅ _ _ (old3 _ _ hDC (hk₂ _ _ (by simpa using Ne.symm hID) hD'))
      refine append_at (hsz := by show ys.toArray.size ≤ sizeLine; rw [List.size_toArray, hyl]; exact Nat.le_trans hi hsz) hD₃ fun h₈ hs₈ hD₈ => ?_
      have old8 : ∀ b o, b ≠ H1.objs.size → h₃.get? b = some o → h₈.get? b = some o := fun b o hb e => hs₈.extBut b o hb (up₅ b o e)
      refine ⟨vs.length + 1 - (i + 1), by omega, h₈, tk₄, i + 1, ys ++ [y₁], _, rfl, hlt, rfl, by rw [List.length_append, List.length_singleton, hyl], fun b o e => old8 b o (below b o e).2.1 (K₃ b o e), ?_, (hn₃.at' fun o e => up₅ _ o e).sameBut hs₈ (Ne.symm hDC), hD₈.trans (congrArg some (LCg.lst_snoc ys y₁)), fun j v e => ?_⟩
      · obtain ⟨o, e, r⟩ := hit₂
        exact ⟨o, old8 _ _ hID (old3 _ _ hIC e), r⟩
      · by_cases hj : j < ys.length
        · rw [List.getElem?_append_left hj] at e
          exact hP' j v e
        · rw [List.getElem?_append_right (Nat.not_lt.mp hj)] at e
          have hj0 : j - ys.length = 0 := by
            cases q : j - ys.length with
            | zero => rfl
            | succ n => rw [q] at e; cases e
          rw [hj0] at e
          cases e
          rw [show j = i by omega]
          exact hy₁
    · obtain rfl : i = vs.length := Nat.le_antisymm hi (Nat.not_lt.mp hlt)
      refine wpAny_pyNext_list_end hh hit' hl' (by simp) fun h₂ he₂ => ?_
      have hk₂ : ∀ b o, b ∉ [s₁.heap.objs.size] → h'.get? b = some o → h₂.get? b = some o := fun b o q e => he₂ b o (by simpa using q) e
      have K₂ : ∀ b o, s₁.heap.get? b = some o → h₂.get? b = some o := fun b o e => hk₂ b o (by simpa using (below b o e).1) (K' b o e)
      refine fin _ _ h₂ tk m' ys (F.keeps K₂) (fun p hp => ?_) (fun p hp => (below _ _ (N p hp).1).2.1) hyl hP' (hn'.at' fun o e => hk₂ _ o (by simpa using Ne.symm hIC) e) hC₀ hCL (Ne.symm hDC) (fun p hp => (below _ _ (N p hp).1).2.2)
      rcases List.mem_cons.mp hp with rfl | hp
      · exact ⟨hk₂ _ _ (by simpa using Ne.symm hID) hD', hDL, hD₀⟩
      · exact ⟨K₂ _ _ (N p hp).1, (N p hp).2⟩
  exact codeAny_compStart_list (loop _ rfl) (wpAny_pyIter_listiter hit (loop _ rfl))
theorem scomp {elt iter : Expr} {x : Str} {px : Pos} {scope : Scope} {cl : List (Str × Addr)} {pos : Pos} {Q : Value → Shared → Prop} (P : Nat → Value → Prop) (F₀ : Fr h₀ L s.heap m) (hh : A.handled = none)
    (hclos : closureFor scope env = pure cl) (hcell : ∀ y ∈ scope.names, y.2 ≠ .cell) (hkind : scope.kind = .function)
    (hnames : ∀ y ∈ scope.names, y.2 = .local → scope.names.lookup y.1 = some .local) (hx : scope.names.lookup x = some .local)
    (h : wpAny (model prog w) A (eval iter env) (SSrc prog w A h₀ L m env elt x scope cl P Q) E s)
    (hs : ∀ x, foldedSetIterable iter env x = pure x := by intro _; rfl) :
    wpAny (model prog w) A (eval (.ListComp elt [⟨.Name x px, iter, [], 0⟩] scope pos) env) Q E s := by
  rw [eval_ListComp]
  refine wpAny_comprehension_free (use := none) rfl hs hclos hkind hnames (wpAny_mono h (fun xv s₁ h₁ => ?_) fun _ _ e => e)
  obtain ⟨ax, vs, news, rfl, F, N, hl, hsz, turn, fin⟩ := h₁
  refine wpAny_pyIter_list hl ?_
  refine score P hh hcell hkind hx F N hl hsz turn fun D C h' tk m' ys F' N' hD hlen hP hn hC₀ hCL hCD hCo => ⟨m', hn, fun h'' hs'' => fin D ys h'' tk (F'.change hs'' hCL hC₀) (fun p hp => ?_) hD hlen hP⟩
  refine ⟨hs''.extBut _ _ ?_ (N' p hp).1, (N' p hp).2⟩
  rcases List.mem_cons.mp hp with rfl | hp
  · exact Ne.symm hCD
  · exact hCo p hp
noncomputable def ASrc (prog : Program) (w : World) (A : Around) (h₀ : Heap) (L : Addr) (m : Str → Option Value) (env : Env) (elt : Expr) (x y : Str) (scope : Scope) (cl : List (Str × Addr)) (P : Nat → Value → Prop) (Q : Flow → Shared → Prop) (xv : Value) (s₁ : Shared) : Prop :=
  ∃ (ax : Addr) (vs : List Value) (news : List (Addr × Obj)), xv = .ref ax ∧ Fr h₀ L s₁.heap m ∧ News h₀ L s₁.heap news ∧ s₁.heap.IsList ax vs.toArray ∧ vs.length ≤ sizeLine ∧
    (∀ i v, vs[i]? = some v → ∀ C s₂ m₂ E', 0 < s₂.toks → Fr h₀ L s₂.heap m → News h₀ L s₂.heap news → s₂.heap.Ns (compEnvC scope cl C env).locals m₂ → m₂ x = some v →
      wpAny (model prog w) A (eval elt (compEnvC scope cl C env)) (SEl (P i) s₂) E' s₂) ∧
    (∀ D ys h' tk, Fr h₀ L h' (fun z => if z = y then some (.ref D) else m z) → News h₀ L h' ((D, LCg.lst ys) :: news) → (∀ p ∈ news, @Ne Nat p.1 D) → ys.length = vs.length → (∀ i v, ys[i]? = some v → P i v) → Q .next { s₁ with heap := h', toks := tk })
theorem scompA {elt iter : Expr} {x y : Str} {px py : Pos} {scope : Scope} {cl : List (Str × Addr)} {pos spos : Pos} {Q : Flow → Shared → Prop} (P : Nat → Value → Prop) (F₀ : Fr h₀ L s.heap m) (hLe : env.locals = L) (hh : A.handled = none)
    (hsw : swapsWith (.ListComp elt [⟨.Name x px, iter, [], 0⟩] scope pos) (some (.Name y py)) spos.line env = pure true)
    (hclos : closureFor scope env = pure cl) (hcell : ∀ y ∈ scope.names, y.2 ≠ .cell) (hkind : scope.kind = .function)
    (hnames : ∀ y ∈ scope.names, y.2 = .local → scope.names.lookup y.1 = some .local) (hx : scope.names.lookup x = some .local)
    (hy : env.kindOf y = some .local) (hp : (env.scope.kind == .class || (env.scope.kind == .module && env.locals != env.globals)) = false)
    (h : wpAny (model prog w) A (eval iter env) (ASrc prog w A h₀ L m env elt x y scope cl P Q) E s)
    (hs : ∀ x, foldedSetIterable iter env x = pure x := by intro _; rfl) :
    wpAny (model prog w) A (exec (.Assign [.Name y py] (.ListComp elt [⟨.Name x px, iter, [], 0⟩] scope pos) spos) env) Q E s := by
  subst hLe
  rw [exec_Assign_Name_used _ _ _ _ hsw]
  refine wpAny_bind (wpAny_standAt (wpAny_bind ?_))
  show wpAny _ A (do let _ ← comprehension (.ListComp elt [⟨.Name x px, iter, [], 0⟩] scope pos) scope env _ (newList []) false (eval iter env) (some (assign (.Name y py) env))) _ _ s
  refine wpAny_bind (wpAny_mono (wpAny_comprehension_free (use := some (assign (.Name y py) env)) (Q := fun _ s' => Q .next s') rfl hs hclos hkind hnames
    (wpAny_mono h (fun xv s₁ h₁ => ?_) fun _ _ e => e)) (fun _ s' hq => wpAny_pure (wpAny_pure hq)) fun _ _ e => e)
  obtain ⟨ax, vs, news, rfl, F, N, hl, hsz, turn, fin⟩ := h₁
  refine wpAny_pyIter_list hl ?_
  refine score P hh hcell hkind hx F N hl hsz turn fun D C h' tk m' ys F' N' hD hlen hP hn hC₀ hCL hCD hCo => ?_
  show wpAny _ A (assign (.Name y py) env (.ref D)) _ _ _
  refine wpAny_assign_Name (wpAny_storeName_local hy F'.ns (fun h₂ hn₂ hs₂ => ?_) hp)
  have hL₀ : h₀.get? env.locals = none := Heap.get?_none_of_le F'.above
  have F₂ : Fr h₀ env.locals h₂ (fun z => if z = y then some (.ref D) else m z) := ⟨hn₂, fun b o e => hs₂.extBut b o (fun q => by rw [q, hL₀] at e; cases e) (F'.keep b o e), F'.above⟩
  refine ⟨m', hn.sameBut hs₂ hCL, fun h'' hs'' => fin D ys h'' _ (F₂.change hs'' hCL hC₀) (fun p hp => ?_) hD hlen hP⟩
  have z : h₂.get? p.1 = some p.2 := hs₂.extBut _ _ (N' p hp).2.1 (N' p hp).1
  refine ⟨hs''.extBut _ _ ?_ z, (N' p hp).2⟩
  rcases List.mem_cons.mp hp with rfl | hp
  · exact Ne.symm hCD
  · exact hCo p hp
end
end Mine
end
-- part WLawB
section
open PySem PySem.W PyProof.Rows PySem.Calls PySem.Spec
set_option maxRecDepth 100000
set_option maxHeartbeats 0
set_option linter.unusedVariables false
namespace Mine
local macro_rules | `(tactic| walk_at "PAD") => `(tactic| fail "pad")

noncomputable def rowL (r : Row) : List Nat := r.head ++ List.replicate (1 + r.count).toNat 46 ++ r.name
noncomputable def RowsOk (rows : List Row) : Prop := rows.length ≤ 100 ∧ ∀ r ∈ rows, r.head.length ≤ 10 ∧ -1 ≤ r.count ∧ r.count ≤ 9 ∧ r.name.length ≤ 10
theorem at_keep1 {m : Str → Option Value} {n1 : Str} {v1 : Value} (h1 : m n1 = some v1) (y : Str) : (if y = n1 then some v1 else m y) = m y := (congrFun (at_name h1) y).symm
theorem at_keep2 {m : Str → Option Value} {n1 n2 : Str} {v1 v2 : Value} (h1 : m n1 = some v1) (h2 : m n2 = some v2) (y : Str) : (if y = n1 then some v1 else if y = n2 then some v2 else m y) = m y := by
  rw [at_keep1 h2]; exact at_keep1 h1 y
theorem at_keep3 {m : Str → Option Value} {n1 n2 n3 : Str} {v1 v2 v3 : Value} (h1 : m n1 = some v1) (h2 : m n2 = some v2) (h3 : m n3 = some v3) (y : Str) : (if y = n1 then some v1 else if y = n2 then some v2 else if y = n3 then some v3 else m y) = m y := by
  rw [at_keep1 h3]; exact at_keep2 h1 h2 y
theorem fold_app (c : Array Nat) : ∀ (n : Nat) (a : Array Nat), (List.replicate n c).foldl (· ++ ·) a = a ++ ((List.replicate n c.toList).flatten).toArray
  | 0, a => by simp
  | n + 1, a => by
    rw [List.replicate_succ, List.foldl_cons, fold_app c n]
    apply Array.toList_inj.mp
    simp [List.replicate_succ]
theorem mul_dots (n : Int) : Txt.mul (Str.ofString ".") n = strOf (List.replicate n.toNat 46) := by
  have e : Str.ofString "." = ⟨#[46]⟩ := by decide +kernel
  rw [e]
  unfold Txt.mul
  split
  · rename_i h
    rw [show n.toNat = 0 by first | omega | (have := of_decide_eq_true h; omega)]
    rfl
  · split
    · rename_i h
      have h1 : n = 1 := by
        rcases Bool.or_eq_true_iff.mp h with h | h
        · exact of_decide_eq_true h
        · exact absurd h (by decide)
      subst h1
      rfl
    · rw [fold_app]
      apply Str.ext'
      apply Array.toList_inj.mp
      show _ = (strOf (List.replicate n.toNat 46)).cps.toList
      simp only [Array.toList_append, List.nil_append]
      generalize n.toNat = k
      induction k with
      | zero => rfl
      | succ k ih => simpa [List.replicate_succ] using ih
theorem row_text (r : Row) : strOf r.head ++ Txt.mul (Str.ofString ".") (1 + r.count) ++ strOf r.name = strOf (rowL r) := by
  rw [mul_dots]
  apply Str.ext'
  apply Array.toList_inj.mp
  show ((r.head.toArray ++ (List.replicate (1 + r.count).toNat 46).toArray) ++ r.name.toArray).toList = _
  simp [rowL]
theorem ToldIn.get {tl : List (Addr × Obj)} {vs : List Value} {rs : List Row} (R : ToldIn tl vs rs) : ∀ {i : Nat} {v : Value}, vs[i]? = some v → ∃ r, rs[i]? = some r ∧ RowIn tl v r := by
  induction R with
  | nil => intro i v e; cases e
  | cons a _ ih =>
    intro i v e
    cases i with
    | zero => cases e; exact ⟨_, rfl, a⟩
    | succ i => exact ih e
theorem strs_get : ∀ {vs : List Value} {ys : List Str}, vs.length = ys.length → (∀ (i : Nat) v, vs[i]? = some v → ∃ y t, ys[i]? = some y ∧ v = .str y t) → StrsAre vs ys
  | [], [], _, _ => .nil
  | [], _ :: _, h, _ => by cases h
  | _ :: _, [], h, _ => by cases h
  | v :: vs, y :: ys, h, hg => by
    obtain ⟨y', t, e, rfl⟩ := hg 0 v rfl
    cases e
    exact .cons y t (strs_get (by simpa using h) fun i v e => hg (i + 1) v e)
theorem ints_get : ∀ {vs : List Value} {ys : List Int}, vs.length = ys.length → (∀ (i : Nat) v, vs[i]? = some v → ∃ y t, ys[i]? = some y ∧ v = .int y t) → IntsAre vs ys
  | [], [], _, _ => .nil
  | [], _ :: _, h, _ => by cases h
  | _ :: _, [], h, _ => by cases h
  | v :: vs, y :: ys, h, hg => by
    obtain ⟨y', t, e, rfl⟩ := hg 0 v rfl
    cases e
    exact .cons y t (ints_get (by simpa using h) fun i v e => hg (i + 1) v e)
theorem sum_le : ∀ (l : List Nat) (b : Nat), (∀ x ∈ l, x ≤ b) → l.sum ≤ l.length * b
  | [], b, _ => by simp
  | x :: r, b, h => by
    have h1 := h x (.head _)
    have h2 := sum_le r b fun y hy => h y (.tail _ hy)
    rw [List.sum_cons, List.length_cons, Nat.succ_mul]
    omega
theorem rows_fit {rows : List Row} (h : RowsOk rows) : ((rows.map fun r => strOf (rowL r)).map (·.length)).sum + (rows.map fun r => strOf (rowL r)).length * (Str.ofString "\r\n").length ≤ 16777216 := by
  have h1 := sum_le ((rows.map fun r => strOf (rowL r)).map (·.length)) 30 fun x hx => by
    rw [List.map_map] at hx
    obtain ⟨r, hr, rfl⟩ := List.mem_map.mp hx
    have := h.2 r hr
    show (rowL r).toArray.size ≤ 30
    simp [rowL]
    omega
  have h2 : (Str.ofString "\r\n").length = 2 := by decide +kernel
  rw [h2]
  rw [List.length_map] at h1
  have h3 : (rows.map fun r => strOf (rowL r)).length = rows.length := List.length_map _
  rw [h3] at h1 ⊢
  have := h.1
  omega
section
theorem law_s4 {w : World} {p : Program} {loose : List Str} {mean : ExcName → Option Value} {mg mb : Str → Option Value} {dp un : Nat} {fr : Option (List Env)} {gd : Option (List Code)} {s : Shared} {h₀ : Heap} {L : Addr} {m : Str → Option Value} {ta : Addr} {us : List Value} {k : Nat} {rows : List Row} {news tt : List (Addr × Obj)} {M : Str} {tm : Tok}
    (X : (Kf w.params).In h₀) (T : Top p loose mean mg mb h₀) (hd : dp + 20 < recursionLimit) (hu : un + 300 < cLine) (F : Fr h₀ L s.heap m) (N : News h₀ L s.heap news) (hm : (ta, listOf us.toArray k) ∈ news) (hT : ToldIn tt us rows) (hs : ∀ p ∈ tt, p ∈ news) (hr : RowsOk rows) (hM : Txt.join (Str.ofString "\r\n") (rows.map fun r => strOf (rowL r)) = M) (h1 : m (Str.ofString "told") = some (.ref ta)) (h2 : m (Str.ofString "mail") = some (.str M tm)) :
    wpAny (model lw.prog w) ((Ar dp un fr gd).deeper (lawE L)) (exec (lawB.getD 4 (.Pass ⟨0, 0, 0, 0⟩)) (lawE L)) (SEnd fun s' => ∃ h' tk m', s' = { s with heap := h', toks := tk } ∧ Fr h₀ L h' m' ∧ (∀ y, m' y = m y) ∧ News h₀ L h' news) (fun _ _ => False) s := by
  have hli : s.heap.IsList ta us.toArray := News.isList N hm
  have htl := ToldIn.len hT
  rw [at_name h1] at F
  rw [at_name h2] at F
  unfold lawE
  conv in lawB.getD _ _ => whnf
  revert X
  k_fill
  intro X
  k_with_none
  k_with "eval ListComp" => (k_dflt (refine' tcomp (fun i v => ∃ r t, rows[i]? = some r ∧ v = .str (strOf (rowL r)) t) (by k_asm) rfl rfl (by decide) rfl (by decide) rfl rfl rfl (by decide) (by decide) (by decide) ?_))
  k_with "TSrc" => ((with_reducible show TSrc _ _ _ _ _ _ _ _ _ _ _ _ _ _ _ _ _); refine' Hold.mk ?_)
  k_with "binaryOp Add str str" => (k_dflt (refine' PyProof.Rows.add_str ?_ (Nat.le_trans (m := 10000) (by simp only [len_app, len_strOf, mul_dots, List.length_replicate]; omega) (by decide))); intro t9 k9)
  k_steps
  (with_reducible refine' Hold.open ?_)
  refine ⟨ta, us, news, rfl, F, N, hli, le_sizeLine (n := _) (by rw [htl]; have := hr.1; omega), fun i v hv => ?_, fun D ys h' tk' F9 N9 hD9 hl9 hp9 => ?_⟩
  · obtain ⟨r, hri, a, o, t0, t1, t2, rfl, hma, hc, nn, hd⟩ := ToldIn.get hT hv
    refine ⟨a, _, _, _, rfl, ⟨o, (N _ (hs _ hma)).1, hc, nn, hd⟩, fun C s₂ m₂ E' F6 hns hx hy hz => ?_⟩
    have hrr := hr.2 r (List.mem_of_getElem? hri)
    clear F N hli
    k_steps
    exact ⟨⟨r, _, hri, by rw [row_text]⟩, _, rfl⟩
  · have hv9 : StrsAre ys (rows.map fun r => strOf (rowL r)) := strs_get (by rw [hl9, htl, List.length_map]) fun i v e => by
      obtain ⟨r, t, hri, rfl⟩ := hp9 i v e
      exact ⟨_, t, by rw [List.getElem?_map, hri]; rfl, rfl⟩
    clear F N hli
    k_with "call builtin:str.join" => (k_dflt (refine' join_list (by is_list) hv9 (rows_fit hr) ?_); intro t9 k9; rw [hM])
    k_steps
    · exact absurd ‹(M != M) = true› (by simp)
    · exact ⟨rfl, _, _, _, rfl, F9, at_keep2 h1 h2, fun p hp => N9 p (.tail _ hp)⟩
end
end Mine
end
-- part WLawC
section
open PySem PySem.W PyProof.Rows PySem.Calls PySem.Spec
set_option maxRecDepth 100000
set_option maxHeartbeats 0
set_option linter.unusedVariables false
namespace Mine

theorem DoesT.use {w : World} {f : Addr} {D U : Nat} {args : List Value} {Pre : Shared → Prop} {Post : Heap → Value → Heap → Nat → Prop} (S : DoesT w f D U args Pre Post)
    {p : Program} {loose : List Str} {mean : ExcName → Option Value} {mg mb : Str → Option Value} {dp un : Nat} {fr : Option (List Env)} {gd : Option (List Code)} {s : Shared} {Q : Value → Shared → Prop} {E : Value → Shared → Prop}
    {h₀ : Heap} {L : Addr} {m : Str → Option Value} {news : List (Addr × Obj)} (F : Fr h₀ L s.heap m) (N : News h₀ L s.heap news) (X : (Kf w.params).In h₀) (T : Top p loose mean mg mb h₀) (hd : dp + D < recursionLimit) (hu : un + U < cLine) (hp : Pre s)
    (h : ∀ r h' tk', Keeps s.heap h' → Fr h₀ L h' m → News h₀ L h' news → Post s.heap r h' tk' → Q r { s with heap := h', toks := tk' }) : wpAny (model lw.prog w) (Ar dp un fr gd) (call (.ref f) args) Q E s :=
  wpAny_noRaise (S.run dp un fr gd s Q (X.keeps F.keep) (T.keeps F.keep) hd hu hp fun r h' tk' k q => h r h' tk' k (Fr.keepsAll F k) (News.keepsAll N k) q)
theorem strs_at {vs : List Value} {ys : List Str} (h : StrsAre vs ys) : ∀ {i : Nat} {v : Value}, vs[i]? = some v → ∃ y t, ys[i]? = some y ∧ v = .str y t := by
  induction h with
  | nil => intro i v e; cases e
  | cons y t _ ih =>
    intro i v e
    cases i with
    | zero => cases e; exact ⟨y, t, rfl, rfl⟩
    | succ i => exact ih e
theorem strs_len {vs : List Value} {ys : List Str} (h : StrsAre vs ys) : vs.length = ys.length := by
  induction h with
  | nil => rfl
  | cons _ _ _ ih => simp [ih]
theorem row_len {rows : List Row} {r : Row} (h : RowsOk rows) (hr : r ∈ rows) : (strOf (rowL r)).length ≤ 30 := by
  have := h.2 r hr
  show (rowL r).toArray.size ≤ 30
  simp [rowL]
  omega
section
theorem law_s5 {w : World} {p : Program} {loose : List Str} {mean : ExcName → Option Value} {mg mb : Str → Option Value} {dp un : Nat} {fr : Option (List Env)} {gd : Option (List Code)} {s : Shared} {h₀ : Heap} {L : Addr} {m : Str → Option Value} {rows : List Row} {news : List (Addr × Obj)} {M : Str} {tm : Tok}
    (X : (Kf w.params).In h₀) (T : Top p loose mean mg mb h₀) (hd : dp + 20 < recursionLimit) (hu : un + 300 < cLine) (F : Fr h₀ L s.heap m) (N : News h₀ L s.heap news) (hr : RowsOk rows) (hM : Txt.split M (Str.ofString "\r\n") = rows.map fun r => strOf (rowL r)) (hz : M.length ≤ 4000) (hdots : ∀ r ∈ rows, ((dotsN (rowL r) : Nat) : Int) = 1 + r.count) (h1 : m (Str.ofString "mail") = some (.str M tm)) :
    wpAny (model lw.prog w) ((Ar dp un fr gd).deeper (lawE L)) (exec (lawB.getD 5 (.Pass ⟨0, 0, 0, 0⟩)) (lawE L)) (SEnd fun s' => ∃ h' tk m', s' = { s with heap := h', toks := tk } ∧ Fr h₀ L h' m' ∧ (∀ y, y ≠ Str.ofString "dots" → m' y = m y) ∧ ∃ da ys k2, m' (Str.ofString "dots") = some (.ref da) ∧ IntsAre ys (rows.map (1 + ·.count)) ∧ News h₀ L h' ((da, listOf ys.toArray k2) :: news)) (fun _ _ => False) s := by
  rw [at_name h1] at F
  unfold lawE
  conv in lawB.getD _ _ => whnf
  revert X
  k_fill
  intro X
  k_with_none
  k_with "exec Assign cons ListComp" => (k_dflt (refine' scompA (fun i v => ∃ r t, rows[i]? = some r ∧ v = .int (1 + r.count) t) (by k_asm) rfl rfl rfl rfl (by decide) rfl (by decide) rfl rfl rfl ?_))
  k_with "ASrc" => ((with_reducible show ASrc _ _ _ _ _ _ _ _ _ _ _ _ _ _ _ _); refine' Hold.mk ?_)
  k_with "call builtin:str.split" => ((with_reducible rename News _ _ _ _ => N4); (with_reducible rename Fr _ _ _ _ => F4); k_dflt (refine' splitN1A F4 N4 (by decide +kernel) ?_ (Nat.le_trans (m := 10000) (by omega) (by decide))); intro l5 h5 k5 e5 st5 sh5 hl5 F5 N5; rw [e5, hM] at st5)
  k_with "call ref" => (k_dflt (refine' DoesT.use (count_does w _ _ _ (by (have := row_len hr hrr); omega) (by (try dsimp only); omega)) (by k_asm) (by k_asm) X T (by (try dsimp only [Around.deeper]); first | exact room2 hd | exact room2 hu | exact room1 hd | exact room1 hu | omega) (by (try dsimp only [Around.deeper]); first | exact room2 hd | exact room2 hu | exact room1 hd | exact room1 hu | omega) (by (try dsimp only); omega) ?_); rintro r9 h9 tk9 K9 F9 N9 ⟨g9, t9, e9⟩; subst e9)
  k_steps
  (with_reducible refine' Hold.open ?_)
  have hlen : (strValues l5).length = rows.length := by rw [strs_len st5, List.length_map]
  refine ⟨_, strValues l5, _, rfl, F5, N5, hl5, le_sizeLine (n := _) (by rw [hlen]; have := hr.1; omega), fun i v hv => ?_, fun D ys h' tk' F9 N9 hD9 hl9 hp9 => ?_⟩
  · obtain ⟨y, t, hy, rfl⟩ := strs_at st5 hv
    rw [List.getElem?_map] at hy
    obtain ⟨r, hri, rfl⟩ := Option.map_eq_some_iff.mp hy
    have hrr := List.mem_of_getElem? hri
    intro C s₂ m₂ E' ht2 F6 N6 hns hx
    clear F5 N5 hl5 F4 N4
    k_steps
    exact ⟨⟨r, t9, hri, by rw [hdots r hrr]⟩, _, _, rfl, fun b o e => K9 b o e⟩
  · refine ⟨rfl, _, _, _, rfl, F9, fun y hy => ?_, D, ys, ys.length, rfl, ints_get (by rw [hl9, hlen, List.length_map]) fun i v e => ?_, fun p hp => N9 p ?_⟩
    · rw [if_neg hy]
      exact at_keep1 h1 y
    · obtain ⟨r, t, hri, rfl⟩ := hp9 i v e
      exact ⟨_, t, by rw [List.getElem?_map, hri]; rfl, rfl⟩
    · rcases List.mem_cons.mp hp with rfl | hp
      · exact .head _
      · exact .tail _ (.tail _ hp)
end
end Mine
end
-- part WLawD
section
open PySem PySem.W PyProof.Rows PySem.Calls PySem.Spec
set_option maxRecDepth 100000
set_option maxHeartbeats 0
set_option linter.unusedVariables false
namespace Mine

noncomputable def TFail (s : Shared) (ok : Bool) (s₃ : Shared) : Prop := ok = false ∧ PySem.Keeps s s₃
noncomputable def FSrc (prog : Program) (w : World) (A : Around) (h₀ : Heap) (L : Addr) (m : Str → Option Value) (env : Env) (c : Expr) (x : Str) (scope : Scope) (cl : List (Str × Addr)) (Q : Value → Shared → Prop) (xv : Value) (s₁ : Shared) : Prop :=
  ∃ (ax : Addr) (vs : List Value) (ns : List Int) (news : List (Addr × Obj)), xv = .ref ax ∧ s₁.heap.IsList ax vs.toArray ∧ IntsAre vs ns ∧ ns.length ≤ sizeLine ∧ Fr h₀ L s₁.heap m ∧ News h₀ L s₁.heap news ∧
    (∀ C n t s₂ m₂ E', Fr h₀ L s₂.heap m → News h₀ L s₂.heap news → s₂.heap.Ns (compEnvC scope cl C env).locals m₂ → m₂ x = some (.int n t) → wpAny (model prog w) A (isTrue c (compEnvC scope cl C env) (eval c (compEnvC scope cl C env))) (TFail s₂) E' s₂) ∧
    (∀ D k h' tk, Fr h₀ L h' m → News h₀ L h' ((D, listOf ([] : List Value).toArray k) :: news) → (∀ p ∈ news, p.1 ≠ D) → Q (.ref D) { s₁ with heap := h', toks := tk })
theorem fcomp {prog : Program} {w : World} {A : Around} {E : Value → Shared → Prop} {s : Shared} {h₀ : Heap} {L : Addr} {m : Str → Option Value} {env : Env} {c elt iter : Expr} {x : Str} {px : Pos} {scope : Scope} {cl : List (Str × Addr)} {pos : Pos} {Q : Value → Shared → Prop}
    (F₀ : Fr h₀ L s.heap m) (hh : A.handled = none) (hclos : closureFor scope env = pure cl) (hcell : ∀ y ∈ scope.names, y.2 ≠ .cell) (hkind : scope.kind = .function)
    (hnames : ∀ y ∈ scope.names, y.2 = .local → scope.names.lookup y.1 = some .local) (hx : scope.names.lookup x = some .local)
    (h : wpAny (model prog w) A (eval iter env) (FSrc prog w A h₀ L m env c x scope cl Q) E s) (hs : ∀ x, foldedSetIterable iter env x = pure x := by intro _; rfl) :
    wpAny (model prog w) A (eval (.ListComp elt [⟨.Name x px, iter, [c], 0⟩] scope pos) env) Q E s := by
  refine ListComp_DCn (h₀ := h₀) (L := L) (m := m) (K := .int) (pz := fun _ => false) (d := PyData.int) hh hclos hcell hkind hnames hx (wpAny_mono h (fun xv s₁ h₁ => ?_) fun _ _ e => e) hs
  obtain ⟨ax, vs, ns, news, e, hl, hv, hz, F, N, ht, hf⟩ := h₁
  refine ⟨news, ax, vs, ns, e, hl, hv.areOf, hz, F, N, ?_, ?_, ?_⟩
  · rintro C a v s₂ m₂ E' h1 h2 ⟨t, rfl⟩ h4 h5 h6
    exact wpAny_tests_one (ht C a t s₂ m₂ E' (F.keeps h6) (N.grown h6) h4 h5)
  · intro C a v s₂ m₂ E' h1 h2 h3 h4
    cases h4
  · intro D ys h' tk F' N' h1 h2 h3 h4
    have hys : ys = [] := by
      have e0 : (ns.filter fun _ => false) = [] := List.filter_eq_nil_iff.mpr fun _ _ q => by cases q
      rw [e0] at h4
      cases h4
      rfl
    subst hys
    obtain ⟨k, N2, hne⟩ := newPlain_news F' N' h1 h3
    exact hf D k h' tk F' N2 hne
section
local macro_rules | `(tactic| walk_at "compareOp NotEq ref ref") => `(tactic| (k_here; k_dflt (refine' ne_nilG (by is_list) (by is_list) (by (try dsimp only [Around.deeper]); first | exact room2 hd | exact room2 hu | exact room1 hd | exact room1 hu | omega) ?_)))
theorem law_s6 {w : World} {p : Program} {loose : List Str} {mean : ExcName → Option Value} {mg mb : Str → Option Value} {dp un : Nat} {fr : Option (List Env)} {gd : Option (List Code)} {s : Shared} {h₀ : Heap} {L : Addr} {m : Str → Option Value} {ta da : Addr} {us ys : List Value} {k k2 : Nat} {rows : List Row} {news tt : List (Addr × Obj)}
    (X : (Kf w.params).In h₀) (T : Top p loose mean mg mb h₀) (hd : dp + 20 < recursionLimit) (hu : un + 300 < cLine) (F : Fr h₀ L s.heap m) (N : News h₀ L s.heap news) (hm : (ta, listOf us.toArray k) ∈ news) (hmd : (da, listOf ys.toArray k2) ∈ news) (hT : ToldIn tt us rows) (hs : ∀ p ∈ tt, p ∈ news) (hr : RowsOk rows) (hv : IntsAre ys (rows.map (1 + ·.count))) (h1 : m (Str.ofString "told") = some (.ref ta)) (h2 : m (Str.ofString "dots") = some (.ref da)) :
    wpAny (model lw.prog w) ((Ar dp un fr gd).deeper (lawE L)) (exec (lawB.getD 6 (.Pass ⟨0, 0, 0, 0⟩)) (lawE L)) (SEnd fun s' => ∃ h' tk m', s' = { s with heap := h', toks := tk } ∧ Fr h₀ L h' m' ∧ (∀ y, m' y = m y) ∧ News h₀ L h' news) (fun _ _ => False) s := by
  have hli : s.heap.IsList ta us.toArray := News.isList N hm
  have hld : s.heap.IsList da ys.toArray := News.isList N hmd
  have htl := ToldIn.len hT
  rw [at_name h1] at F
  rw [at_name h2] at F
  unfold lawE
  conv in lawB.getD _ _ => whnf
  revert X
  k_fill
  intro X
  k_with_none
  k_with "eval ListComp" => (first | ((with_reducible show wpAny _ _ (eval (Expr.ListComp _ [⟨Expr.Tuple _ _ _, _, _, _⟩] _ _) _) _ _ _); k_dflt (refine' tcomp (fun i v => ∃ r t, rows[i]? = some r ∧ v = .int (1 + r.count) t) (by k_asm) rfl rfl (by decide) rfl (by decide) rfl rfl rfl (by decide) (by decide) (by decide) ?_)) | ((with_reducible show wpAny _ _ (eval (Expr.ListComp _ [⟨Expr.Name _ _, _, _, _⟩] _ _) _) _ _ _); k_dflt (refine' fcomp (by k_asm) rfl rfl (by decide) rfl (by decide) rfl ?_)))
  k_with "TSrc" => ((with_reducible show TSrc _ _ _ _ _ _ _ _ _ _ _ _ _ _ _ _ _); refine' Hold.mk ?_)
  k_with "FSrc" => ((with_reducible show FSrc _ _ _ _ _ _ _ _ _ _ _ _ _ _); refine' Hold.mk ?_)
  k_steps
  (with_reducible refine' Hold.open ?_)
  refine ⟨ta, us, news, rfl, F, N, hli, le_sizeLine (n := _) (by rw [htl]; have := hr.1; omega), fun i v hv => ?_, fun D zs h' tk' F9 N9 hD9 hl9 hp9 => ?_⟩
  · obtain ⟨r, hri, a, o, t0, t1, t2, rfl, hma, hc, nn, hd⟩ := ToldIn.get hT hv
    refine ⟨a, _, _, _, rfl, ⟨o, (N _ (hs _ hma)).1, hc, nn, hd⟩, fun C s₂ m₂ E' F6 hns hx hy hz => ?_⟩
    clear F N hli hld
    k_steps
    exact ⟨⟨r, _, hri, rfl⟩, _, rfl⟩
  · have hv9 : IntsAre zs (rows.map (1 + ·.count)) := ints_get (by rw [hl9, htl, List.length_map]) fun i v e => by
      obtain ⟨r, t, hri, rfl⟩ := hp9 i v e
      exact ⟨_, t, by rw [List.getElem?_map, hri]; rfl, rfl⟩
    clear F N hli hld
    have hld : h'.IsList da ys.toArray := News.isList N9 (.tail _ hmd)
    k_steps
    (with_reducible refine' Hold.open ?_)
    refine ⟨da, ys, _, news, rfl, hld, hv, le_sizeLine (n := _) (by rw [List.length_map]; have := hr.1; omega), F9, fun p hp => N9 p (.tail _ hp), ?_, ?_⟩
    · intro C n t s₂ m₂ E' F6 N6 hns hx
      clear F9 N9 hld
      k_steps
      exact ⟨rfl, Keeps.here _⟩
    · intro D2 k5 h5 tk5 F5 N5 hne5
      clear F9 N9 hld
      k_steps
      (with_reducible rename Fr _ _ _ _ => F9)
      (with_reducible rename News _ _ _ _ => N9)
      exact ⟨rfl, _, _, _, rfl, F9, at_keep2 h1 h2, fun p hp => N9 p (.tail _ (.tail _ hp))⟩
end
end Mine
end
-- part WLawE
section
open PySem PySem.W PyProof.Rows PySem.Calls PySem.Spec
set_option maxRecDepth 100000
set_option maxHeartbeats 0
set_option linter.unusedVariables false
namespace Mine

noncomputable def DEl (z : Int) (s : Shared) (y : Value) (s₃ : Shared) : Prop := (∃ t, y = .int z t) ∧ PySem.Keeps s s₃
noncomputable def RSrc (prog : Program) (w : World) (A : Around) (h₀ : Heap) (L : Addr) (m : Str → Option Value) (env : Env) (elt : Expr) (x : Str) (scope : Scope) (cl : List (Str × Addr)) (d : Int → Int) (Q : Value → Shared → Prop) (xv : Value) (s₁ : Shared) : Prop :=
  ∃ (n : Nat) (r : Addr) (t0 u0 v0 : Tok) (news : List (Addr × Obj)), xv = .ref r ∧ IsRange s₁.heap r 0 (n : Int) 1 t0 u0 v0 ∧ n ≤ 1000 ∧ Fr h₀ L s₁.heap m ∧ News h₀ L s₁.heap news ∧
    (∀ C (a : Int) t s₂ m₂ E', 0 ≤ a → a < (n : Int) → Fr h₀ L s₂.heap m → News h₀ L s₂.heap news → s₂.heap.Ns (compEnvC scope cl C env).locals m₂ → m₂ x = some (.int a t) → wpAny (model prog w) A (eval elt (compEnvC scope cl C env)) (DEl (d a) s₂) E' s₂) ∧
    (∀ D ys k h' tk, Fr h₀ L h' m → News h₀ L h' ((D, listOf ys.toArray k) :: news) → (∀ p ∈ news, p.1 ≠ D) → IntsAre ys ((List.range n).map fun (i : Nat) => d (i : Int)) → Q (.ref D) { s₁ with heap := h', toks := tk })
theorem rangeInts_nat (n : Nat) : rangeInts 0 1 n = (List.range n).map fun (i : Nat) => (i : Int) := by
  unfold rangeInts
  refine List.map_congr_left fun i _ => ?_
  omega
theorem rcomp {prog : Program} {w : World} {A : Around} {E : Value → Shared → Prop} {s : Shared} {h₀ : Heap} {L : Addr} {m : Str → Option Value} {env : Env} {elt iter : Expr} {x : Str} {px : Pos} {scope : Scope} {cl : List (Str × Addr)} {pos : Pos} {Q : Value → Shared → Prop}
    (d : Int → Int) (F₀ : Fr h₀ L s.heap m) (hh : A.handled = none) (hclos : closureFor scope env = pure cl) (hcell : ∀ y ∈ scope.names, y.2 ≠ .cell) (hkind : scope.kind = .function)
    (hnames : ∀ y ∈ scope.names, y.2 = .local → scope.names.lookup y.1 = some .local) (hx : scope.names.lookup x = some .local)
    (h : wpAny (model prog w) A (eval iter env) (RSrc prog w A h₀ L m env elt x scope cl d Q) E s) (hs : ∀ x, foldedSetIterable iter env x = pure x := by intro _; rfl) :
    wpAny (model prog w) A (eval (.ListComp elt [⟨.Name x px, iter, [], 0⟩] scope pos) env) Q E s := by
  refine ListComp_DCr (h₀ := h₀) (L := L) (m := m) (pz := fun _ => true) (d := fun k => PyData.int (d k)) hh hclos hcell hkind hnames hx (wpAny_mono h (fun xv s₁ h₁ => ?_) fun _ _ e => e) hs
  obtain ⟨n, r, t0, u0, v0, news, e, hr, hz, F, N, he, hf⟩ := h₁
  refine ⟨news, r, _, _, _, _, _, _, n, e, hr, range_small (n := n) rfl (by omega), range_size (n := n) rfl, le_sizeLine (n := n) (by omega), F, N, fun C a v s₂ m₂ E' _ _ _ _ _ _ => wpAny_pure ⟨rfl, Keeps.here s₂⟩, ?_, ?_⟩
  · rintro C a v s₂ m₂ E' h1 ha ⟨t, rfl⟩ h3 h4 h5 h6
    rw [rangeInts_nat] at ha
    obtain ⟨i, hi, rfl⟩ := List.mem_map.mp ha
    rw [List.mem_range] at hi
    refine wpAny_mono (he C (i : Int) t s₂ m₂ E' (by omega) (by omega) (F.keeps h6) (N.grown h6) h4 h5) (fun y s₃ q => ?_) fun _ _ q => q
    obtain ⟨⟨t', rfl⟩, k⟩ := q
    exact ⟨Carried.int _ _, k⟩
  · intro D ys h' tk F' N' h1 h2 h3 h4
    obtain ⟨k, N2, hne⟩ := newPlain_news F' N' h1 h3
    refine hf D ys k h' tk F' N2 hne (carried_ints ?_)
    rw [List.filter_eq_self.mpr (fun _ _ => rfl), rangeInts_nat, List.map_map] at h4
    rw [List.map_map]
    exact h4
section
theorem law_s7 {w : World} {p : Program} {loose : List Str} {mean : ExcName → Option Value} {mg mb : Str → Option Value} {dp un : Nat} {fr : Option (List Env)} {gd : Option (List Code)} {s : Shared} {h₀ : Heap} {L : Addr} {m : Str → Option Value} {da : Addr} {ys : List Value} {k2 : Nat} {rows : List Row} {news : List (Addr × Obj)}
    (X : (Kf w.params).In h₀) (T : Top p loose mean mg mb h₀) (hd : dp + 20 < recursionLimit) (hu : un + 300 < cLine) (F : Fr h₀ L s.heap m) (N : News h₀ L s.heap news) (hmd : (da, listOf ys.toArray k2) ∈ news) (hr : RowsOk rows) (hv : IntsAre ys (rows.map (1 + ·.count))) (h2 : m (Str.ofString "dots") = some (.ref da)) :
    wpAny (model lw.prog w) ((Ar dp un fr gd).deeper (lawE L)) (exec (lawB.getD 7 (.Pass ⟨0, 0, 0, 0⟩)) (lawE L)) (SEnd fun s' => ∃ h' tk m', s' = { s with heap := h', toks := tk } ∧ Fr h₀ L h' m' ∧ (∀ y, y ≠ Str.ofString "rooks" → m' y = m y) ∧ ∃ ra us k, m' (Str.ofString "rooks") = some (.ref ra) ∧ IntsAre us (rookL (waysF (rows.map (·.count))) (waysF (rows.map (·.count))).length) ∧ News h₀ L h' ((ra, listOf us.toArray k) :: news)) (fun _ _ => False) s := by
  have hld : s.heap.IsList da ys.toArray := News.isList N hmd
  have hlen : ys.length = rows.length := by rw [hv.length, List.length_map]
  have hle := hr.1
  rw [at_name h2] at F
  unfold lawE
  conv in lawB.getD _ _ => whnf
  revert X
  k_fill
  intro X
  k_with_none
  k_with "eval ListComp" => (k_dflt (refine' scomp (fun i v => ∃ r t, rows[i]? = some r ∧ v = .int r.count t) (by k_asm) rfl rfl (by decide) rfl (by decide) rfl ?_))
  k_with "SSrc" => ((with_reducible show SSrc _ _ _ _ _ _ _ _ _ _ _ _ _ _ _); refine' Hold.mk ?_)
  k_with "RSrc" => ((with_reducible show SSrc _ _ _ _ _ _ _ _ _ _ _ _ _ _ _); refine' Hold.mk ?_)
  k_with "call ref" => (k_dflt (first | (refine' Does.use (sub_does _ _ _ _ _) (by k_asm) (by k_asm) X T (by (try dsimp only [Around.deeper]); first | exact room2 hd | exact room2 hu | exact room1 hd | exact room1 hu | omega) (by (try dsimp only [Around.deeper]); first | exact room2 hd | exact room2 hu | exact room1 hd | exact room1 hu | omega) trivial ?_; rintro r9 h9 tk9 K9 F9 N9 ⟨t9, e9⟩; subst e9) | (refine' Does.use (rooks_does w _ _ _ hv9 (by rw [List.length_map]; omega) hp9) (by k_asm) (by k_asm) X T (by (try dsimp only [Around.deeper]); first | exact room2 hd | exact room2 hu | exact room1 hd | exact room1 hu | omega) (by (try dsimp only [Around.deeper]); first | exact room2 hd | exact room2 hu | exact room1 hd | exact room1 hu | omega) (by is_list) ?_; (with_reducible rename Fr _ _ _ _ => F4); rintro r9 h9 tk9 K9 F9 N9 ⟨a9, us9, k9, e9, fr9, g9, i9⟩; subst e9; (have N8 := News.more' F4 N9 g9 fr9); clear N9)))
  k_steps
  (with_reducible refine' Hold.open ?_)
  refine ⟨da, ys, news, rfl, F, N, hld, le_sizeLine (n := _) (by omega), fun i v hv1 => ?_, fun D zs h' tk' F9 N9 hD9 hl9 hp9 => ?_⟩
  · obtain ⟨n, t, rfl, hn⟩ : ∃ n t, v = .int n t ∧ (rows.map (1 + ·.count))[i]? = some n := by
      rcases ints_nth hv i with ⟨a, b⟩ | ⟨n, t, a, b⟩
      · rw [a] at hv1; cases hv1
      · rw [a] at hv1; cases hv1; exact ⟨n, t, rfl, b⟩
    rw [List.getElem?_map] at hn
    obtain ⟨r, hri, rfl⟩ := Option.map_eq_some_iff.mp hn
    intro C s₂ m₂ E' ht2 F6 N6 hns hx
    clear F N hld
    k_steps
    exact ⟨⟨r, t9, hri, by rw [show 1 + r.count - 1 = r.count by omega]⟩, _, _, rfl, fun b o e => K9 b o e⟩
  · have hv9 : IntsAre zs (rows.map (·.count)) := ints_get (by rw [hl9, hlen, List.length_map]) fun i v e => by
      obtain ⟨r, t, hri, rfl⟩ := hp9 i v e
      exact ⟨_, t, by rw [List.getElem?_map, hri]; rfl, rfl⟩
    clear hp9
    have hp9 : ∀ n ∈ rows.map (·.count), -1 ≤ n ∧ n ≤ 9 := fun n hn => by
      obtain ⟨r, hr1, rfl⟩ := List.mem_map.mp hn
      have := hr.2 r hr1
      omega
    clear F N hld
    k_steps
    (with_reducible rename Fr _ _ _ _ => F9)
    (with_reducible rename News _ _ _ _ => N9)
    refine ⟨rfl, _, _, _, rfl, F9, fun y hy => ?_, a9, us9, k9, rfl, i9, fun p hp => N9 p ?_⟩
    · rw [if_neg hy]
      exact at_keep1 h2 y
    · rcases List.mem_cons.mp hp with rfl | hp
      · exact .head _
      · exact .tail _ (.tail _ hp)
end
section
theorem law_s8 {w : World} {p : Program} {loose : List Str} {mean : ExcName → Option Value} {mg mb : Str → Option Value} {dp un : Nat} {fr : Option (List Env)} {gd : Option (List Code)} {s : Shared} {h₀ : Heap} {L : Addr} {m : Str → Option Value} {ka : Addr} {ks : List Value} {k : Nat} {kinds : List Int} {news : List (Addr × Obj)} {oc : Obj}
    (X : (Kf w.params).In h₀) (T : Top p loose mean mg mb h₀) (hd : dp + 20 < recursionLimit) (hu : un + 300 < cLine) (F : Fr h₀ L s.heap m) (N : News h₀ L s.heap ((L + 1, oc) :: (ka, listOf ks.toArray k) :: news)) (hoc : oc.data = .cell (some (.ref ka))) (hv : IntsAre ks kinds) :
    wpAny (model lw.prog w) ((Ar dp un fr gd).deeper (lawE L)) (exec (lawB.getD 8 (.Pass ⟨0, 0, 0, 0⟩)) (lawE L)) (SEnd fun s' => ∃ h' tk m', s' = { s with heap := h', toks := tk } ∧ Fr h₀ L h' m' ∧ (∀ y, y ≠ Str.ofString "size" → m' y = m y) ∧ (∃ t, m' (Str.ofString "size") = some (.int (kinds.count 2 : Nat) t)) ∧ News h₀ L h' ((L + 1, oc) :: (ka, listOf ks.toArray k) :: news)) (fun _ _ => False) s := by
  unfold lawE
  conv in lawB.getD _ _ => whnf
  revert X
  k_fill
  intro X
  k_with "call builtin:list.count" => (k_dflt (refine' count_list_ints (by is_list) hv ?_))
  k_steps
  (with_reducible rename Fr _ _ _ _ => F9)
  (with_reducible rename News _ _ _ _ => N9)
  exact ⟨rfl, _, _, _, rfl, F9, fun y hy => if_neg hy, ⟨_, rfl⟩, N9⟩
end
section
theorem law_s9 {w : World} {p : Program} {loose : List Str} {mean : ExcName → Option Value} {mg mb : Str → Option Value} {dp un : Nat} {fr : Option (List Env)} {gd : Option (List Code)} {s : Shared} {h₀ : Heap} {L : Addr} {m : Str → Option Value} {ka : Addr} {ks : List Value} {k sz : Nat} {kinds : List Int} {news : List (Addr × Obj)} {oc : Obj} {ts : Tok}
    (X : (Kf w.params).In h₀) (T : Top p loose mean mg mb h₀) (hd : dp + 20 < recursionLimit) (hu : un + 300 < cLine) (F : Fr h₀ L s.heap m) (N : News h₀ L s.heap ((L + 1, oc) :: (ka, listOf ks.toArray k) :: news)) (hoc : oc.data = .cell (some (.ref ka))) (hv : IntsAre ks kinds) (hk9 : kinds.length ≤ 9) (hsz : sz ≤ 9) (h1 : m (Str.ofString "size") = some (.int (sz : Nat) ts)) :
    wpAny (model lw.prog w) ((Ar dp un fr gd).deeper (lawE L)) (exec (lawB.getD 9 (.Pass ⟨0, 0, 0, 0⟩)) (lawE L)) (SEnd fun s' => ∃ h' tk m', s' = { s with heap := h', toks := tk } ∧ Fr h₀ L h' m' ∧ (∀ y, y ≠ Str.ofString "firsts" → m' y = m y) ∧ ∃ fa fs kf, m' (Str.ofString "firsts") = some (.ref fa) ∧ IntsAre fs (firstsF (sz + 1) ((List.range (sz + 1)).map fun (i : Nat) => (walkF kinds (i : Int)).1)) ∧ News h₀ L h' ((fa, listOf fs.toArray kf) :: (L + 1, oc) :: (ka, listOf ks.toArray k) :: news)) (fun _ _ => False) s := by
  rw [at_name h1] at F
  unfold lawE
  conv in lawB.getD _ _ => whnf
  revert X
  k_fill
  intro X
  k_with "eval ListComp" => (k_dflt (refine' rcomp (fun a => (walkF kinds a).1) (by k_asm) rfl rfl (by decide) rfl (by decide) rfl ?_))
  k_with "SSrc" => ((with_reducible show RSrc _ _ _ _ _ _ _ _ _ _ _ _ _ _ _); refine' Hold.mk ?_)
  k_with "RSrc" => ((with_reducible show RSrc _ _ _ _ _ _ _ _ _ _ _ _ _ _ _); refine' Hold.mk ?_)
  k_with "call ref" => (k_dflt (first | (refine' Does.use (walk_does w _ _ _ _ _ hv hk9 (by omega)) (by k_asm) (by k_asm) X T (by (try dsimp only [Around.deeper]); first | exact room2 hd | exact room2 hu | exact room1 hd | exact room1 hu | omega) (by (try dsimp only [Around.deeper]); first | exact room2 hd | exact room2 hu | exact room1 hd | exact room1 hu | omega) (by is_list) ?_; rintro r9 h9 tk9 K9 F9 N9 ⟨t9, e9⟩; subst e9) | (refine' Does.use (firsts_does w _ _ _ hi5 (by rw [List.length_map, List.length_range]; omega)) (by k_asm) (by k_asm) X T (by (try dsimp only [Around.deeper]); first | exact room2 hd | exact room2 hu | exact room1 hd | exact room1 hu | omega) (by (try dsimp only [Around.deeper]); first | exact room2 hd | exact room2 hu | exact room1 hd | exact room1 hu | omega) (by is_list) ?_; (with_reducible rename Fr _ _ _ _ => F4); rintro r9 h9 tk9 K9 F9 N9 ⟨a9, us9, k9, e9, fr9, g9, i9⟩; subst e9; (have N8 := News.more' F4 N9 g9 fr9); clear N9)))
  k_steps
  (with_reducible refine' Hold.open ?_)
  (with_reducible rename Fr _ _ _ _ => F6)
  (with_reducible rename News _ _ _ _ => N6)
  (with_reducible rename IsRange _ _ _ _ _ _ _ _ => hr5)
  refine ⟨sz + 1, _, _, _, _, _, rfl, by rw [show ((sz + 1 : Nat) : Int) = (sz : Int) + 1 by omega]; exact hr5, by omega, F6, N6, ?_, ?_⟩
  · intro C a t s₂ m₂ E' ha0 ha1 F7 N7 hns hx
    clear F6 N6 hr5
    k_steps
    exact ⟨⟨_, rfl⟩, _, _, rfl, K9⟩
  · intro D5 ys5 k5 h5 tk5 F5 N5 hne5 hi5
    clear F6 N6 hr5
    k_steps
    (with_reducible rename Fr _ _ _ _ => F9)
    (with_reducible rename News _ _ _ _ => N9)
    rw [List.length_map, List.length_range] at i9
    refine ⟨rfl, _, _, _, rfl, F9, fun y hy => ?_, a9, us9, k9, rfl, i9, fun p hp => N9 p ?_⟩
    · rw [if_neg hy]
      exact at_keep1 h1 y
    · rcases List.mem_cons.mp hp with rfl | hp
      · exact .head _
      · exact .tail _ (.tail _ hp)
end
end Mine
end
-- part WLawF
section
open PySem PySem.W PyProof.Rows PySem.Calls PySem.Spec
set_option maxRecDepth 100000
set_option maxHeartbeats 0
set_option linter.unusedVariables false
namespace Mine
local macro_rules | `(tactic| walk_at "PAD") => `(tactic| fail "pad")

noncomputable def facF : Nat → Int
  | 0 => 1
  | i + 1 => facF i * if 1 > (i : Int) then 1 else (i : Int)
theorem fac_small : ∀ i < 11, 0 < facF i ∧ (facF i).natAbs < 1000000 := by decide +kernel
noncomputable def JJ (m₀ : Str → Option Value) (news : List (Addr × Obj)) (i : Nat) (m : Str → Option Value) (nx : List (Addr × Obj)) : Prop :=
  nx = news ∧ (∃ t, m (Str.ofString "factor") = some (.int (facF i) t)) ∧ ∀ y, y ≠ Str.ofString "factor" → y ≠ Str.ofString "j" → m y = m₀ y
section
theorem law_s11 {w : World} {p : Program} {loose : List Str} {mean : ExcName → Option Value} {mg mb : Str → Option Value} {dp un : Nat} {fr : Option (List Env)} {gd : Option (List Code)} {s : Shared} {h₀ : Heap} {L : Addr} {m : Str → Option Value} {fa ra : Addr} {fv rv : List Value} {fs rk : List Int} {kf kr sz : Nat} {news : List (Addr × Obj)} {ts : Tok}
    (X : (Kf w.params).In h₀) (T : Top p loose mean mg mb h₀) (hd : dp + 20 < recursionLimit) (hu : un + 300 < cLine) (F : Fr h₀ L s.heap m) (N : News h₀ L s.heap news) (hmf : (fa, listOf fv.toArray kf) ∈ news) (hmr : (ra, listOf rv.toArray kr) ∈ news) (hf : IntsAre fv fs) (hr : IntsAre rv rk) (hfl : fs.length = sz + 1) (hrl : rk.length = 10) (hsz : sz ≤ 9)
    (hlaw : ∀ i ≤ sz, fs.getD i 0 = rk.getD (sz - i) 0 * facF (i + 1)) (h1 : m (Str.ofString "size") = some (.int (sz : Nat) ts)) (h2 : m (Str.ofString "firsts") = some (.ref fa)) (h3 : m (Str.ofString "rooks") = some (.ref ra)) (h4 : ∃ t, m (Str.ofString "factor") = some (.int 1 t)) :
    wpAny (model lw.prog w) ((Ar dp un fr gd).deeper (lawE L)) (exec (lawB.getD 11 (.Pass ⟨0, 0, 0, 0⟩)) (lawE L)) (SEnd fun s' => ∃ h' tk m', s' = { s with heap := h', toks := tk } ∧ Fr h₀ L h' m' ∧ (∀ y, y ≠ Str.ofString "factor" → y ≠ Str.ofString "j" → m' y = m y) ∧ News h₀ L h' news) (fun _ _ => False) s := by
  obtain ⟨t4, h4⟩ := h4
  rw [at_name h1] at F
  unfold lawE
  conv in lawB.getD _ _ => whnf
  obtain ⟨hsm, hss⟩ := range_any (z := (sz : Int) + 1) (by omega) (by omega)
  revert X
  k_fill
  intro X
  refine wpAny_For ?_ (fun _ => rfl)
  k_with_none
  k_with "pyIter ref" => (k_dflt (refine' for_rangeZ (JJ m news) rfl rfl rfl (by assumption) hsm hss (by k_asm) (by k_asm) ?_ ?_ ?_ PassesOwn.never); (all_goals (first | refine' Hold.mk ?_ | skip)))
  k_with "HStep" => ((with_reducible show HStep _ _ _ _ _ _ _ _ _); refine' Hold.mk ?_)
  k_with "subscriptTail" => ((with_reducible rename News _ _ _ _ => N4); k_dflt (first | refine' item_listR (News.isList N4 (.tail _ hmf)) (by omega) (by omega) hgf2 ?_ | refine' item_listR (News.isList N4 (.tail _ hmr)) (by omega) (by omega) hgr2 ?_))
  k_with "call ref" => (k_dflt (first | ((with_reducible show wpAny _ _ (call (Value.ref 69) _) _ _ _); refine' Does.use (mod_does _ _ _ _ _ hfp) (by k_asm) (by k_asm) X T (by (try dsimp only [Around.deeper]); first | exact room2 hd | exact room2 hu | exact room1 hd | exact room1 hu | omega) (by (try dsimp only [Around.deeper]); first | exact room2 hd | exact room2 hu | exact room1 hd | exact room1 hu | omega) trivial ?_; rintro r9 h9 tk9 K9 F9 N9 ⟨t9, e9⟩; subst e9) | (refine' Does.use (floordiv_does _ _ _ _ _ hfp hfs) (by k_asm) (by k_asm) X T (by (try dsimp only [Around.deeper]); first | exact room2 hd | exact room2 hu | exact room1 hd | exact room1 hu | omega) (by (try dsimp only [Around.deeper]); first | exact room2 hd | exact room2 hu | exact room1 hd | exact room1 hu | omega) trivial ?_; rintro r9 h9 tk9 K9 F9 N9 ⟨t9, e9⟩; subst e9)))
  k_steps
  all_goals (with_reducible refine' Hold.open ?_)
  · exact ⟨rfl, ⟨_, h4⟩, fun y _ _ => (congrFun (at_name h1) y).symm⟩
  · rintro i m₁ news₁ h₁ tk₁ I oI t hi ⟨rfl, ⟨tf, hmf1⟩, hm1⟩ hlt hne F0 N0
    have F2 := F0
    rw [at_name ((hm1 _ (by decide) (by decide)).trans h1)] at F2
    rw [at_name ((hm1 _ (by decide) (by decide)).trans h2)] at F2
    rw [at_name ((hm1 _ (by decide) (by decide)).trans h3)] at F2
    rw [at_name hmf1] at F2
    clear F0
    have hi2 : i ≤ sz := by omega
    have hl := hlaw i hi2
    have hfp : (0 : Int) < facF i * (if 1 > (i : Int) then 1 else (i : Int)) := (fac_small (i + 1) (by omega)).1
    have hfs : (facF i * (if 1 > (i : Int) then 1 else (i : Int))).natAbs < 1073741824 := Nat.lt_trans (fac_small (i + 1) (by omega)).2 (by decide)
    obtain ⟨tg, hgf⟩ := hf.get i (fs.getD i 0) (by rw [List.getD_eq_getElem?_getD, List.getElem?_eq_getElem (by omega)]; rfl)
    obtain ⟨th, hgr⟩ := hr.get (sz - i) (rk.getD (sz - i) 0) (by rw [List.getD_eq_getElem?_getD, List.getElem?_eq_getElem (by omega)]; rfl)
    have hgf2 : fv.toArray[((i : Nat) : Int).toNat]? = some (.int (fs.getD i 0) tg) := by rw [Int.toNat_natCast, List.getElem?_toArray]; exact hgf
    have hgr2 : rv.toArray[((sz : Int) - (i : Int)).toNat]? = some (.int (rk.getD (sz - i) 0) th) := by rw [show ((sz : Int) - (i : Int)).toNat = sz - i by omega, List.getElem?_toArray]; exact hgr
    have hfl2 : fv.length = sz + 1 := by rw [hf.length]; exact hfl
    have hrl2 : rv.length = 10 := by rw [hr.length]; exact hrl
    have hmod : (fs.getD i 0).fmod (facF i * (if 1 > (i : Int) then 1 else (i : Int))) = 0 := by rw [hl]; exact Int.mul_fmod_left _ _
    have hdiv : (fs.getD i 0).fdiv (facF i * (if 1 > (i : Int) then 1 else (i : Int))) = rk.getD (sz - i) 0 := by rw [hl]; exact Int.mul_fdiv_cancel _ (Int.ne_of_gt hfp)
    k_steps
    all_goals (with_reducible refine' Hold.open ?_)
    · exact absurd hmod (by assumption)
    · exact absurd hdiv (by assumption)
    · (with_reducible rename Fr _ _ _ _ => F9)
      (with_reducible rename News _ _ _ _ => N9)
      refine hnext (nx := news₁) F9 N9 (.head _) (fun p hp => .tail _ hp) hne ⟨rfl, ⟨_, rfl⟩, fun y g1 g2 => ?_⟩
      simp only [if_neg g1, if_neg g2]
      split
      · rename_i e; rw [e, h1]
      · split
        · rename_i e; rw [e, h2]
        · split
          · rename_i e; rw [e, h3]
          · exact hm1 y g1 g2
  · rintro m₁ news₁ h₁ tk₁ ⟨rfl, ⟨tf, hf1⟩, hm1⟩ F0 N0
    exact ⟨rfl, _, _, _, rfl, F0, hm1, N0⟩
end
end Mine
end
-- part WLawG
section
open PySem PySem.W PyProof.Rows PySem.Calls PySem.Spec
set_option maxRecDepth 100000
set_option maxHeartbeats 0
set_option linter.unusedVariables false
namespace Mine

section
theorem law_s12 {w : World} {p : Program} {loose : List Str} {mean : ExcName → Option Value} {mg mb : Str → Option Value} {dp un : Nat} {fr : Option (List Env)} {gd : Option (List Code)} {s : Shared} {h₀ : Heap} {L : Addr} {m : Str → Option Value} {l : Addr} {vs : List Value} {zs : List Int} {news : List (Addr × Obj)}
    (X : (Kf w.params).In h₀) (T : Top p loose mean mg mb h₀) (hd : dp + 20 < recursionLimit) (hu : un + 300 < cLine) (F : Fr h₀ L s.heap m) (N : News h₀ L s.heap news) (hl : h₀.IsList l vs.toArray) (hv : IntsAre vs zs) (hz : zs.length ≤ 63) (h1 : m (Str.ofString "script") = some (.ref l)) :
    wpAny (model lw.prog w) ((Ar dp un fr gd).deeper (lawE L)) (exec (lawB.getD 12 (.Pass ⟨0, 0, 0, 0⟩)) (lawE L)) (SEnd fun s' => ∃ h' tk m', s' = { s with heap := h', toks := tk } ∧ Fr h₀ L h' m' ∧ (∀ y, y ≠ Str.ofString "number" → m' y = m y) ∧ (∃ t, m' (Str.ofString "number") = some (.int (zs.sum.fmod 2001 - 1000) t)) ∧ News h₀ L h' news) (fun _ _ => False) s := by
  rw [at_name h1] at F
  unfold lawE
  conv in lawB.getD _ _ => whnf
  revert X
  k_fill
  intro X
  k_with_none
  k_steps
  (with_reducible rename Fr _ _ _ _ => F9)
  (with_reducible rename News _ _ _ _ => N9)
  refine ⟨rfl, _, _, _, rfl, F9, fun y hy => ?_, ⟨_, rfl⟩, N9⟩
  rw [if_neg hy]
  exact at_keep1 h1 y
end
noncomputable def prodF (p x : Int) : Nat → Int
  | 0 => p
  | j + 1 => prodF p x j * (x - j)
noncomputable def dueF (rk : List Int) (x : Int) (sz : Nat) : Nat → Int
  | 0 => 0
  | i + 1 => dueF rk x sz i + prodF (rk.getD i 0) x (sz - i)
noncomputable def JD (m₀ : Str → Option Value) (rk : List Int) (x : Int) (sz : Nat) (news : List (Addr × Obj)) (i : Nat) (m : Str → Option Value) (nx : List (Addr × Obj)) : Prop :=
  nx = news ∧ (∃ t, m (Str.ofString "due") = some (.int (dueF rk x sz i) t)) ∧ ∀ y, y ≠ Str.ofString "due" → y ≠ Str.ofString "k" → y ≠ Str.ofString "product" → y ≠ Str.ofString "t" → m y = m₀ y
noncomputable def JP (m₀ : Str → Option Value) (p x : Int) (news : List (Addr × Obj)) (i : Nat) (m : Str → Option Value) (nx : List (Addr × Obj)) : Prop :=
  nx = news ∧ (∃ t, m (Str.ofString "product") = some (.int (prodF p x i) t)) ∧ ∀ y, y ≠ Str.ofString "product" → y ≠ Str.ofString "t" → m y = m₀ y
section
theorem law_s14 {w : World} {p : Program} {loose : List Str} {mean : ExcName → Option Value} {mg mb : Str → Option Value} {dp un : Nat} {fr : Option (List Env)} {gd : Option (List Code)} {s : Shared} {h₀ : Heap} {L : Addr} {m : Str → Option Value} {ra : Addr} {rv : List Value} {rk : List Int} {kr sz : Nat} {x : Int} {news : List (Addr × Obj)} {ts tx : Tok}
    (X : (Kf w.params).In h₀) (T : Top p loose mean mg mb h₀) (hd : dp + 20 < recursionLimit) (hu : un + 300 < cLine) (F : Fr h₀ L s.heap m) (N : News h₀ L s.heap news) (hmr : (ra, listOf rv.toArray kr) ∈ news) (hr : IntsAre rv rk) (hrl : rk.length = 10) (hsz : sz ≤ 9) (hx0 : -1000 ≤ x) (hx1 : x ≤ 1000)
    (h1 : m (Str.ofString "size") = some (.int (sz : Nat) ts)) (h2 : m (Str.ofString "number") = some (.int x tx)) (h3 : m (Str.ofString "rooks") = some (.ref ra)) (h4 : ∃ t, m (Str.ofString "due") = some (.int 0 t)) :
    wpAny (model lw.prog w) ((Ar dp un fr gd).deeper (lawE L)) (exec (lawB.getD 14 (.Pass ⟨0, 0, 0, 0⟩)) (lawE L)) (SEnd fun s' => ∃ h' tk m', s' = { s with heap := h', toks := tk } ∧ Fr h₀ L h' m' ∧ (∀ y, y ≠ Str.ofString "due" → y ≠ Str.ofString "k" → y ≠ Str.ofString "product" → y ≠ Str.ofString "t" → m' y = m y) ∧ (∃ t, m' (Str.ofString "due") = some (.int (dueF rk x sz (sz + 1)) t)) ∧ News h₀ L h' news) (fun _ _ => False) s := by
  obtain ⟨t4, h4⟩ := h4
  rw [at_name h1] at F
  unfold lawE
  conv in lawB.getD _ _ => whnf
  obtain ⟨hsm, hss⟩ := range_any (z := (sz : Int) + 1) (by omega) (by omega)
  revert X
  k_fill
  intro X
  refine wpAny_For ?_ (fun _ => rfl)
  k_with "exec For Name Call cons nil" => (with_reducible refine wpAny_For ?_ (fun _ => rfl))
  k_with "pyIter ref" => (k_dflt (first | refine' for_rangeZ (JD m rk x sz news) rfl rfl rfl (by assumption) hsm hss (by k_asm) (by k_asm) ?_ ?_ ?_ PassesOwn.never | (refine' for_rangeZ (JP (fun y => if y = PySem.Str.ofString "k" then some (.int (i : Nat) t) else m₁ y) (rk.getD i 0) x ((I, oI) :: news₁)) rfl rfl rfl (by assumption) hsm2 hss2 (by k_asm) (by k_asm) ?_ ?_ ?_ PassesOwn.never)); (all_goals (first | refine' Hold.mk ?_ | skip)))
  k_with "HStep" => ((with_reducible show HStep _ _ _ _ _ _ _ _ _); refine' Hold.mk ?_)
  k_with "subscriptTail" => ((with_reducible rename News _ _ _ _ => N4); k_dflt (refine' item_listR (News.isList N4 (.tail _ hmr)) (by omega) (by omega) hgr2 ?_))
  k_steps
  all_goals (with_reducible refine' Hold.open ?_)
  · exact ⟨rfl, ⟨_, h4⟩, fun y _ _ _ _ => (congrFun (at_name h1) y).symm⟩
  · rintro i m₁ news₁ h₁ tk₁ I oI t hi ⟨rfl, ⟨tf, hmf1⟩, hm1⟩ hlt hne F0 N0
    have F2 := F0
    have q1 := (hm1 _ (by decide) (by decide) (by decide) (by decide)).trans h1
    have q2 := (hm1 _ (by decide) (by decide) (by decide) (by decide)).trans h2
    have q3 := (hm1 _ (by decide) (by decide) (by decide) (by decide)).trans h3
    rw [at_name q1] at F2
    rw [at_name q3] at F2
    clear F0
    have hi2 : i ≤ sz := by omega
    obtain ⟨hsm2, hss2⟩ := range_any (z := (sz : Int) - (i : Int)) (by omega) (by omega)
    obtain ⟨th, hgr⟩ := hr.get i (rk.getD i 0) (by rw [List.getD_eq_getElem?_getD, List.getElem?_eq_getElem (by omega)]; rfl)
    have hgr2 : rv.toArray[((i : Nat) : Int).toNat]? = some (.int (rk.getD i 0) th) := by rw [Int.toNat_natCast, List.getElem?_toArray]; exact hgr
    k_steps
    all_goals (with_reducible refine' Hold.open ?_)
    · refine ⟨rfl, ⟨_, rfl⟩, fun y g1 g2 => ?_⟩
      simp only [if_neg g1]
      split
      · rfl
      · exact at_keep2 q1 q3 y
    · rintro j m₂ news₂ h₂ tk₂ I2 oI2 t2 hj ⟨rfl, ⟨tp, hp2⟩, hm2⟩ hlt2 hne2 F0 N0
      have F3 := F0
      have q4 : m₂ (Str.ofString "number") = some (.int x tx) := (hm2 _ (by decide) (by decide)).trans ((if_neg (by decide)).trans q2)
      rw [at_name q4] at F3
      rw [at_name hp2] at F3
      clear F0
      k_steps
      (with_reducible refine' Hold.open ?_)
      (with_reducible rename Fr _ _ _ _ => F9)
      (with_reducible rename News _ _ _ _ => N9)
      refine hnext (nx := (I, oI) :: news₁) F9 N9 (.head _) (fun p hp => .tail _ hp) hne2 ⟨rfl, ⟨_, rfl⟩, fun y g1 g2 => ?_⟩
      simp only [if_neg g1, if_neg g2]
      split
      · rename_i e; rw [e, if_neg (by decide), q2]
      · exact hm2 y g1 g2
    · rintro m₂ news₂ h₂ tk₂ ⟨rfl, ⟨tp, hp2⟩, hm2⟩ F0 N0
      have F3 := F0
      have q4 : m₂ (Str.ofString "due") = some (.int (dueF rk x sz i) tf) := (hm2 _ (by decide) (by decide)).trans ((if_neg (by decide)).trans hmf1)
      rw [at_name hp2] at F3
      rw [at_name q4] at F3
      clear F0
      k_steps
      (with_reducible refine' Hold.open ?_)
      (with_reducible rename Fr _ _ _ _ => F9)
      (with_reducible rename News _ _ _ _ => N9)
      have e9 : dueF rk x sz (i + 1) = dueF rk x sz i + prodF (rk.getD i 0) x ((sz : Int) - (i : Int)).toNat := by rw [show ((sz : Int) - (i : Int)).toNat = sz - i by omega]; rfl
      refine hnext (nx := news₁) F9 N9 (.head _) (fun p hp => .tail _ hp) hne ⟨rfl, ⟨_, by rw [e9]; rfl⟩, fun y g1 g2 g3 g4 => ?_⟩
      simp only [if_neg g1, if_neg g3]
      rw [hm2 y g3 g4]
      exact (if_neg g2).trans (hm1 y g1 g2 g3 g4)
  · rintro m₁ news₁ h₁ tk₁ ⟨rfl, ⟨tf, hf1⟩, hm1⟩ F0 N0
    exact ⟨rfl, _, _, _, rfl, F0, hm1, ⟨tf, by rw [hf1, show ((sz : Int) + 1).toNat = sz + 1 by omega]⟩, N0⟩
end
section
theorem law_s15 {w : World} {p : Program} {loose : List Str} {mean : ExcName → Option Value} {mg mb : Str → Option Value} {dp un : Nat} {fr : Option (List Env)} {gd : Option (List Code)} {s : Shared} {h₀ : Heap} {L : Addr} {m : Str → Option Value} {ka : Addr} {ks : List Value} {k : Nat} {kinds : List Int} {news : List (Addr × Obj)} {oc : Obj} {x : Int} {tx : Tok}
    (X : (Kf w.params).In h₀) (T : Top p loose mean mg mb h₀) (hd : dp + 20 < recursionLimit) (hu : un + 300 < cLine) (F : Fr h₀ L s.heap m) (N : News h₀ L s.heap ((L + 1, oc) :: (ka, listOf ks.toArray k) :: news)) (hoc : oc.data = .cell (some (.ref ka))) (hv : IntsAre ks kinds) (hk9 : kinds.length ≤ 9) (hx0 : -1000 ≤ x) (hx1 : x ≤ 1000) (h1 : m (Str.ofString "number") = some (.int x tx)) :
    wpAny (model lw.prog w) ((Ar dp un fr gd).deeper (lawE L)) (exec (lawB.getD 15 (.Pass ⟨0, 0, 0, 0⟩)) (lawE L)) (SEnd fun s' => ∃ h' tk m', s' = { s with heap := h', toks := tk } ∧ Fr h₀ L h' m' ∧ (∀ y, y ≠ Str.ofString "walked" → m' y = m y) ∧ (∃ t, m' (Str.ofString "walked") = some (.int (walkF kinds x).1 t)) ∧ News h₀ L h' ((L + 1, oc) :: (ka, listOf ks.toArray k) :: news)) (fun _ _ => False) s := by
  rw [at_name h1] at F
  unfold lawE
  conv in lawB.getD _ _ => whnf
  revert X
  k_fill
  intro X
  k_with "call ref" => (k_dflt (refine' Does.use (walk_does w _ _ _ _ _ hv hk9 (by omega)) (by k_asm) (by k_asm) X T (by (try dsimp only [Around.deeper]); first | exact room2 hd | exact room2 hu | exact room1 hd | exact room1 hu | omega) (by (try dsimp only [Around.deeper]); first | exact room2 hd | exact room2 hu | exact room1 hd | exact room1 hu | omega) (by is_list) ?_; rintro r9 h9 tk9 K9 F9 N9 ⟨t9, e9⟩; subst e9))
  k_steps
  (with_reducible rename Fr _ _ _ _ => F9)
  (with_reducible rename News _ _ _ _ => N9)
  refine ⟨rfl, _, _, _, rfl, F9, fun y hy => ?_, ⟨_, rfl⟩, N9⟩
  rw [if_neg hy]
  exact at_keep1 h1 y
end
end Mine
end
-- part WLawH
section
open PySem PySem.W PyProof.Rows PySem.Calls PySem.Spec
set_option maxRecDepth 100000
set_option maxHeartbeats 0
set_option linter.unusedVariables false
namespace Mine

noncomputable def JW (m₀ : Str → Option Value) (ll : Addr) (x : Int) (t1 t2 : Tok) (kl : Nat) (news : List (Addr × Obj)) (i : Nat) (m : Str → Option Value) (nx : List (Addr × Obj)) : Prop :=
  nx = (ll, listOf #[.int x t1, .int (-x) t2] kl) :: news ∧ ∀ y, y ≠ Str.ofString "whole" → y ≠ Str.ofString "parts" → m y = m₀ y
section
local macro_rules | `(tactic| walk_at "compareOp NotEq ref ref") => `(tactic| (k_here; k_dflt (refine' ne_nilG (by is_list) (by is_list) (by (try dsimp only [Around.deeper]); first | exact room2 hd | exact room2 hu | exact room1 hd | exact room1 hu | omega) ?_)))
theorem law_s16 {w : World} {p : Program} {loose : List Str} {mean : ExcName → Option Value} {mg mb : Str → Option Value} {dp un : Nat} {fr : Option (List Env)} {gd : Option (List Code)} {s : Shared} {h₀ : Heap} {L : Addr} {m : Str → Option Value} {x : Int} {news : List (Addr × Obj)} {tx : Tok}
    (X : (Kf w.params).In h₀) (T : Top p loose mean mg mb h₀) (hd : dp + 20 < recursionLimit) (hu : un + 300 < cLine) (F : Fr h₀ L s.heap m) (N : News h₀ L s.heap news) (h1 : m (Str.ofString "walked") = some (.int x tx)) :
    wpAny (model lw.prog w) ((Ar dp un fr gd).deeper (lawE L)) (exec (lawB.getD 16 (.Pass ⟨0, 0, 0, 0⟩)) (lawE L)) (SEnd fun s' => ∃ h' tk m', s' = { s with heap := h', toks := tk } ∧ Fr h₀ L h' m' ∧ (∀ y, y ≠ Str.ofString "whole" → y ≠ Str.ofString "parts" → m' y = m y)) (fun _ _ => False) s := by
  rw [at_name h1] at F
  unfold lawE
  conv in lawB.getD _ _ => whnf
  revert X
  k_fill
  intro X
  refine wpAny_For ?_ (fun _ => rfl)
  k_with_none
  k_with "call ref" => (k_dflt (first | ((with_reducible show wpAny _ _ (call (Value.ref 69) _) _ _ _); refine' Does.use (mod_does _ _ _ _ _ (by decide)) (by k_asm) (by k_asm) X T (by (try dsimp only [Around.deeper]); first | exact room2 hd | exact room2 hu | exact room1 hd | exact room1 hu | omega) (by (try dsimp only [Around.deeper]); first | exact room2 hd | exact room2 hu | exact room1 hd | exact room1 hu | omega) trivial ?_; rintro r9 h9 tk9 K9 F9 N9 ⟨t9, e9⟩; subst e9) | (refine' Does.use (floordiv_does _ _ _ _ _ (by decide) (by decide)) (by k_asm) (by k_asm) X T (by (try dsimp only [Around.deeper]); first | exact room2 hd | exact room2 hu | exact room1 hd | exact room1 hu | omega) (by (try dsimp only [Around.deeper]); first | exact room2 hd | exact room2 hu | exact room1 hd | exact room1 hu | omega) trivial ?_; rintro r9 h9 tk9 K9 F9 N9 ⟨t9, e9⟩; subst e9)))
  k_with "pyIter ref" => (refine' Hold.mk ?_)
  k_with "HStep" => ((with_reducible show HStep _ _ _ _ _ _ _ _ _); refine' Hold.mk ?_)
  k_with "eval ListComp" => (k_dflt (refine' fcomp (by k_asm) rfl rfl (by decide) rfl (by decide) rfl ?_))
  k_with "FSrc" => ((with_reducible show FSrc _ _ _ _ _ _ _ _ _ _ _ _ _ _); refine' Hold.mk ?_)
  k_steps
  (with_reducible refine' Hold.open ?_)
  (with_reducible rename Fr _ _ _ _ => F9)
  (with_reducible rename News _ _ _ _ => N9)
  refine for_listH (vs := [.int x tx, .int (-x) s.toks]) (JW m _ x tx s.toks 0 news) rfl (fun i m₁ news₁ h hJ F N => by obtain ⟨rfl, _⟩ := hJ; exact News.isList N (.head _)) F9 N9 ?_ ?_ ?_ PassesOwn.never
  · exact ⟨rfl, fun y _ _ => (congrFun (at_name h1) y).symm⟩
  · rintro i v m₁ news₁ h₁ tk₁ I oI hv ⟨rfl, hm1⟩ hlt hne F0 N0
    clear F9 N9
    obtain ⟨z, tz, rfl⟩ : ∃ z tz, v = .int z tz := by
      rcases i with _ | _ | i
      · cases hv; exact ⟨_, _, rfl⟩
      · cases hv; exact ⟨_, _, rfl⟩
      · cases hv
    k_steps
    (with_reducible refine' Hold.open ?_)
    (with_reducible rename Fr _ _ _ _ => F8)
    (with_reducible rename News _ _ _ _ => N8)
    refine ⟨_, [.int (z.fdiv 97) _, .int (z.fmod 97) _], [z.fdiv 97, z.fmod 97], _, rfl, News.isList N8 (.head _), .cons _ _ (.cons _ _ .nil), le_sizeLine (n := _) (by show 2 ≤ 1000; decide), F8, N8, ?_, ?_⟩
    · intro C n t s₂ m₂ E' F6 N6 hns hx
      clear F8 N8
      k_steps
      exact ⟨rfl, Keeps.here _⟩
    · intro D2 k5 h5 tk5 F5 N5 hne5
      clear F8 N8
      have h97 : (97 : Int) * [z.fdiv 97, z.fmod 97].getD (Int.toNat 0) 0 + [z.fdiv 97, z.fmod 97].getD (Int.toNat 1) 0 = z := Int.mul_fdiv_add_fmod z 97
      have e0 : 0 ≤ [z.fdiv 97, z.fmod 97].getD (Int.toNat 1) 0 := Int.fmod_nonneg_of_pos z (by decide)
      have e1 : [z.fdiv 97, z.fmod 97].getD (Int.toNat 1) 0 < 97 := Int.fmod_lt_of_pos z (by decide)
      k_steps
      all_goals (with_reducible refine' Hold.open ?_)
      all_goals first
        | exact absurd h97 (by assumption)
        | exact absurd e0 (by assumption)
        | exact absurd e1 (by assumption)
        | ((with_reducible rename Fr _ _ _ _ => F8)
           (with_reducible rename News _ _ _ _ => N8)
           refine hnext (nx := _ :: news) F8 N8 (.tail _ (.tail _ (.tail _ (.head _)))) (fun p hp => .tail _ (.tail _ (.tail _ (.tail _ hp)))) hne ⟨rfl, fun y g1 g2 => ?_⟩
           simp only [if_neg g1, if_neg g2]
           exact hm1 y g1 g2)
  · rintro m₁ news₁ h₁ tk₁ ⟨rfl, hm1⟩ F0 N0
    exact ⟨rfl, _, _, _, rfl, F0, hm1⟩
end
end Mine
end
-- part WLawI
section
open PySem PySem.W PyProof.Rows PySem.Calls PySem.Spec
set_option maxRecDepth 100000
set_option maxHeartbeats 0
set_option linter.unusedVariables false
namespace Mine

section
theorem law_s10 {w : World} {p : Program} {loose : List Str} {mean : ExcName → Option Value} {mg mb : Str → Option Value} {dp un : Nat} {fr : Option (List Env)} {gd : Option (List Code)} {s : Shared} {h₀ : Heap} {L : Addr} {m : Str → Option Value} {news : List (Addr × Obj)}
    (X : (Kf w.params).In h₀) (T : Top p loose mean mg mb h₀) (hd : dp + 20 < recursionLimit) (hu : un + 300 < cLine) (F : Fr h₀ L s.heap m) (N : News h₀ L s.heap news) :
    wpAny (model lw.prog w) ((Ar dp un fr gd).deeper (lawE L)) (exec (lawB.getD 10 (.Pass ⟨0, 0, 0, 0⟩)) (lawE L)) (SEnd fun s' => ∃ h' tk m', s' = { s with heap := h', toks := tk } ∧ Fr h₀ L h' m' ∧ (∀ y, y ≠ Str.ofString "factor" → m' y = m y) ∧ (∃ t, m' (Str.ofString "factor") = some (.int 1 t)) ∧ News h₀ L h' news) (fun _ _ => False) s := by
  unfold lawE
  conv in lawB.getD _ _ => whnf
  revert X
  k_fill
  intro X
  k_with_none
  k_steps
  (with_reducible rename Fr _ _ _ _ => F9)
  (with_reducible rename News _ _ _ _ => N9)
  exact ⟨rfl, _, _, _, rfl, F9, fun y hy => if_neg hy, ⟨_, rfl⟩, N9⟩
theorem law_s13 {w : World} {p : Program} {loose : List Str} {mean : ExcName → Option Value} {mg mb : Str → Option Value} {dp un : Nat} {fr : Option (List Env)} {gd : Option (List Code)} {s : Shared} {h₀ : Heap} {L : Addr} {m : Str → Option Value} {news : List (Addr × Obj)}
    (X : (Kf w.params).In h₀) (T : Top p loose mean mg mb h₀) (hd : dp + 20 < recursionLimit) (hu : un + 300 < cLine) (F : Fr h₀ L s.heap m) (N : News h₀ L s.heap news) :
    wpAny (model lw.prog w) ((Ar dp un fr gd).deeper (lawE L)) (exec (lawB.getD 13 (.Pass ⟨0, 0, 0, 0⟩)) (lawE L)) (SEnd fun s' => ∃ h' tk m', s' = { s with heap := h', toks := tk } ∧ Fr h₀ L h' m' ∧ (∀ y, y ≠ Str.ofString "due" → m' y = m y) ∧ (∃ t, m' (Str.ofString "due") = some (.int 0 t)) ∧ News h₀ L h' news) (fun _ _ => False) s := by
  unfold lawE
  conv in lawB.getD _ _ => whnf
  revert X
  k_fill
  intro X
  k_steps
  (with_reducible rename Fr _ _ _ _ => F9)
  (with_reducible rename News _ _ _ _ => N9)
  exact ⟨rfl, _, _, _, rfl, F9, fun y hy => if_neg hy, ⟨_, rfl⟩, N9⟩
noncomputable def SRet (v : Value) (s : Shared) (f : Flow) (s' : Shared) : Prop := f = .ret v ∧ s' = s
theorem law_s17 {w : World} {p : Program} {loose : List Str} {mean : ExcName → Option Value} {mg mb : Str → Option Value} {dp un : Nat} {fr : Option (List Env)} {gd : Option (List Code)} {s : Shared} {h₀ : Heap} {L : Addr} {m : Str → Option Value} {news : List (Addr × Obj)} {z : Int} {t1 t2 : Tok}
    (X : (Kf w.params).In h₀) (T : Top p loose mean mg mb h₀) (hd : dp + 20 < recursionLimit) (hu : un + 300 < cLine) (F : Fr h₀ L s.heap m) (N : News h₀ L s.heap news) (h1 : m (Str.ofString "walked") = some (.int z t1)) (h2 : m (Str.ofString "due") = some (.int z t2)) :
    wpAny (model lw.prog w) ((Ar dp un fr gd).deeper (lawE L)) (exec (lawB.getD 17 (.Pass ⟨0, 0, 0, 0⟩)) (lawE L)) (SRet (.bool true) s) (fun _ _ => False) s := by
  rw [at_name h1] at F
  rw [at_name h2] at F
  unfold lawE
  conv in lawB.getD _ _ => whnf
  revert X
  k_fill
  intro X
  k_steps
  rw [beq_self_eq_true]
  exact ⟨rfl, rfl⟩
end
end Mine
end
-- part WLaw
section
open PySem PySem.W PyProof.Rows PySem.Calls PySem.Spec
set_option maxRecDepth 100000
set_option maxHeartbeats 0
set_option linter.unusedVariables false
namespace Mine
local macro_rules | `(tactic| walk_at "PAD") => `(tactic| fail "pad")

noncomputable def kindsOf (ds : List Deed) : List Int := ds.map (·.kind)
noncomputable def sendsOf (ds : List Deed) : Nat := (kindsOf ds).count 2
noncomputable def countsOf (ds : List Deed) : List Int := (toldAll ds).map (·.count)
noncomputable def rooksOf (ds : List Deed) : List Int := rookL (waysF (countsOf ds)) (waysF (countsOf ds)).length
noncomputable def firstsOf (ds : List Deed) : List Int := firstsF (sendsOf ds + 1) ((List.range (sendsOf ds + 1)).map fun (i : Nat) => (walkF (kindsOf ds) (i : Int)).1)
structure LawFacts (ds : List Deed) : Prop where
  size : ∀ i, (prepN (mailF (ds.take i))).length ≤ 16777216 ∧ (mailF (ds.take i)).length ≤ 1000
  short : ∀ d ∈ ds, d.veil.length ≤ 10 ∧ d.typed.length ≤ 10 ∧ d.fin.length ≤ 10
  rows : RowsOk (toldAll ds)
  join : Txt.join (Str.ofString "\r\n") ((toldAll ds).map fun r => strOf (rowL r)) = strOf (mailF ds)
  split : Txt.split (strOf (mailF ds)) (Str.ofString "\r\n") = (toldAll ds).map fun r => strOf (rowL r)
  long : (strOf (mailF ds)).length ≤ 4000
  dots : ∀ r ∈ toldAll ds, ((dotsN (rowL r) : Nat) : Int) = 1 + r.count
  nine : (kindsOf ds).length ≤ 9
  sends : sendsOf ds ≤ 9
  flen : (firstsOf ds).length = sendsOf ds + 1
  firsts : ∀ i ≤ sendsOf ds, (firstsOf ds).getD i 0 = (rooksOf ds).getD (sendsOf ds - i) 0 * facF (i + 1)
  due : ∀ x, (walkF (kindsOf ds) x).1 = dueF (rooksOf ds) x (sendsOf ds) (sendsOf ds + 1)
noncomputable def lawRest (i : Nat) : List Stmt := lawB.drop i
theorem lawB_len : lawB.length = 18 := by decide +kernel
theorem rest_cons (i : Nat) (h : i < 18) : lawRest i = lawB.getD i (.Pass ⟨0, 0, 0, 0⟩) :: lawRest (i + 1) := by
  have hl : i < lawB.length := by rw [lawB_len]; exact h
  unfold lawRest
  rw [List.drop_eq_getElem_cons hl, List.getD_eq_getElem?_getD, List.getElem?_eq_getElem hl]
  rfl
theorem step_rest {w : World} {A : Around} {L : Addr} {i : Nat} {Q : Flow → Shared → Prop} {E : Value → Shared → Prop} {s : Shared} (h : i < 18)
    (H : wpAny (model lw.prog w) A (exec (lawB.getD i (.Pass ⟨0, 0, 0, 0⟩)) (lawE L)) (fun f s' => match f with | .next => wpAny (model lw.prog w) A (execs (lawRest (i + 1)) (lawE L)) Q E s' | f => Q f s') E s) :
    wpAny (model lw.prog w) A (execs (lawRest i) (lawE L)) Q E s := by
  rw [rest_cons i h]
  exact wpAny_execs_cons H
theorem law_does (facts : ∀ ds, DsOk ds → LawFacts ds) (w : World) (l : Addr) (vs : List Value) (zs : List Int) (hv : IntsAre vs zs) (hz : zs.length ≤ 63) :
    Does w 207 40 500 [.ref l] (fun h => h.IsList l vs.toArray) (fun _ r _ => r = .bool true) := by
  constructor
  k_fill
  intro p loose mean mg mb dp un fr gd s Q X T hd hu hp hret
  refine' enterC (binds := [(Str.ofString "script", .ref l)]) ?k1 ?k2 ?k3 ?k4 ?k5 ?k6 ?k7 ?k8 ?_ ?c1 ?c2 ?c3
  case k1 => exact X
  case k2 => exact T
  case k3 => k_is
  case k4 => k_is
  case k5 => (show dp < recursionLimit; first | exact Nat.lt_of_le_of_lt (Nat.le_add_right _ _) hd | omega)
  case k6 => exact BindsTo.of_eq rfl
  case k7 =>
    intro n x hx
    rcases List.mem_cons.mp hx with rfl | hx
    · first | exact .inl rfl | exact .inr ⟨rfl, rfl⟩
    exact nomatch hx
  case k8 => decide
  case c1 => rfl
  case c2 => rfl
  case c3 => rfl
  intro L h tk cells F0 N Y
  have F : Fr s.heap L h (fun y => if y = Str.ofString "script" then some (.ref l) else none) := F0
  clear F0
  have Y2 : CellsAre _ [(Str.ofString "kinds", L + 1)] cells := Y
  clear Y
  obtain ⟨oc1, hE, dc1⟩ := CellsAre.one Y2
  subst hE
  clear Y2
  have dd1 : oc1.data = .cell (none) := dc1
  clear dc1
  show wpAny _ _ (execs (lawRest 0) (lawE L)) _ _ _
  have hd' : dp + 20 < recursionLimit := by omega
  have hu' : un + 300 < cLine := by omega
  refine step_rest (by decide) (wpAny_mono (law_s0 X T hd' hu' F N hp hv hz rfl) (fun f s₂ h₂ => ?_) fun _ _ e => e)
  obtain ⟨rfl, h0, tk0, m0, rfl, F0, da, us, k0, tl, ds, N0, off0, hne0, D0, hds, f0_deeds, f0_script⟩ := h₂
  dsimp only
  have L0 := facts ds hds
  refine step_rest (by decide) (wpAny_mono (law_s1 X T hd' hu' F0 N0 off0 hne0 ⟨_, dd1⟩ D0 hds f0_deeds) (fun f s₂ h₂ => ?_) fun _ _ e => e)
  obtain ⟨rfl, h1, tk1, m1, rfl, F1, hm1, ka, ks, k1, oc2, hoc, hks, hne1, N1⟩ := h₂
  dsimp only
  have f1_deeds := (hm1 _).trans f0_deeds
  have f1_script := (hm1 _).trans f0_script
  refine step_rest (by decide) (wpAny_mono (law_s2 X T hd' hu' F1 N1 (.tail _ (.tail _ (.head _))) D0 (fun p hp => .tail _ (.tail _ (.tail _ hp))) hds f1_deeds) (fun f s₂ h₂ => ?_) fun _ _ e => e)
  obtain ⟨rfl, h2, tk2, m2, rfl, F2, hm2, ta, ts, k2, tt, f2_told, T2, N2⟩ := h₂
  dsimp only
  have f2_deeds := (hm2 _ (by decide)).trans f1_deeds
  have f2_script := (hm2 _ (by decide)).trans f1_script
  refine step_rest (by decide) (wpAny_mono (law_s3 X T hd' hu' F2 N2 (.tail _ (.tail _ (.tail _ (.head _)))) D0 (fun p hp => .tail _ (.tail _ (.tail _ (.tail _ (List.mem_append_left _ hp))))) L0.size L0.short f2_deeds) (fun f s₂ h₂ => ?_) fun _ _ e => e)
  obtain ⟨rfl, h3, tk3, m3, rfl, F3, hm3, ⟨tm, f3_mail⟩, N3⟩ := h₂
  dsimp only
  have f3_told := (hm3 _ (by decide)).trans f2_told
  have f3_script := (hm3 _ (by decide)).trans f2_script
  have N3' : News s.heap L h3 ((L + 1, oc2) :: (ka, listOf ks.toArray k1) :: (ta, listOf ts.toArray k2) :: tt) := fun p hp => N3 p (by
    rcases List.mem_cons.mp hp with rfl | hp
    · exact .tail _ (.head _)
    · rcases List.mem_cons.mp hp with rfl | hp
      · exact .tail _ (.tail _ (.head _))
      · rcases List.mem_cons.mp hp with rfl | hp
        · exact .head _
        · exact .tail _ (.tail _ (.tail _ (.tail _ (List.mem_append_right _ hp)))))
  refine step_rest (by decide) (wpAny_mono (law_s4 X T hd' hu' F3 N3' (.tail _ (.tail _ (.head _))) T2 (fun p hp => .tail _ (.tail _ (.tail _ hp))) L0.rows L0.join f3_told f3_mail) (fun f s₂ h₂ => ?_) fun _ _ e => e)
  obtain ⟨rfl, h4, tk4, m4, rfl, F4, hm4, N4⟩ := h₂
  dsimp only
  have f4_told := (hm4 _).trans f3_told
  have f4_script := (hm4 _).trans f3_script
  have f4_mail := (hm4 _).trans f3_mail
  refine step_rest (by decide) (wpAny_mono (law_s5 X T hd' hu' F4 N4 L0.rows L0.split L0.long L0.dots f4_mail) (fun f s₂ h₂ => ?_) fun _ _ e => e)
  obtain ⟨rfl, h5, tk5, m5, rfl, F5, hm5, dd, dv, k5, f5_dots, hdv, N5⟩ := h₂
  dsimp only
  have f5_told := (hm5 _ (by decide)).trans f4_told
  have f5_script := (hm5 _ (by decide)).trans f4_script
  refine step_rest (by decide) (wpAny_mono (law_s6 X T hd' hu' F5 N5 (.tail _ (.tail _ (.tail _ (.head _)))) (.head _) T2 (fun p hp => .tail _ (.tail _ (.tail _ (.tail _ hp)))) L0.rows hdv f5_told f5_dots) (fun f s₂ h₂ => ?_) fun _ _ e => e)
  obtain ⟨rfl, h6, tk6, m6, rfl, F6, hm6, N6⟩ := h₂
  dsimp only
  have f6_dots := (hm6 _).trans f5_dots
  have f6_script := (hm6 _).trans f5_script
  refine step_rest (by decide) (wpAny_mono (law_s7 X T hd' hu' F6 N6 (.head _) L0.rows hdv f6_dots) (fun f s₂ h₂ => ?_) fun _ _ e => e)
  obtain ⟨rfl, h7, tk7, m7, rfl, F7, hm7, ra, rv, k7, f7_rooks, hrv, N7⟩ := h₂
  dsimp only
  have f7_script := (hm7 _ (by decide)).trans f6_script
  have N7' : News s.heap L h7 ((L + 1, oc2) :: (ka, listOf ks.toArray k1) :: [(ra, listOf rv.toArray k7)]) := fun p hp => N7 p (by
    rcases List.mem_cons.mp hp with rfl | hp
    · exact .tail _ (.tail _ (.head _))
    · rcases List.mem_cons.mp hp with rfl | hp
      · exact .tail _ (.tail _ (.tail _ (.head _)))
      · rw [List.mem_singleton.mp hp]
        exact .head _)
  refine step_rest (by decide) (wpAny_mono (law_s8 X T hd' hu' F7 N7' hoc hks) (fun f s₂ h₂ => ?_) fun _ _ e => e)
  obtain ⟨rfl, h8, tk8, m8, rfl, F8, hm8, ⟨ts8, f8_size⟩, N8⟩ := h₂
  dsimp only
  have f8_script := (hm8 _ (by decide)).trans f7_script
  have f8_rooks := (hm8 _ (by decide)).trans f7_rooks
  refine step_rest (by decide) (wpAny_mono (law_s9 (sz := sendsOf ds) X T hd' hu' F8 N8 hoc hks L0.nine L0.sends f8_size) (fun f s₂ h₂ => ?_) fun _ _ e => e)
  obtain ⟨rfl, h9, tk9, m9, rfl, F9, hm9, fa, fv, k9, f9_firsts, hfv, N9⟩ := h₂
  dsimp only
  have f9_script := (hm9 _ (by decide)).trans f8_script
  have f9_rooks := (hm9 _ (by decide)).trans f8_rooks
  have f9_size := (hm9 _ (by decide)).trans f8_size
  refine step_rest (by decide) (wpAny_mono (law_s10 X T hd' hu' F9 N9) (fun f s₂ h₂ => ?_) fun _ _ e => e)
  obtain ⟨rfl, h10, tk10, m10, rfl, F10, hm10, ⟨t10, f10_factor⟩, N10⟩ := h₂
  dsimp only
  have f10_script := (hm10 _ (by decide)).trans f9_script
  have f10_rooks := (hm10 _ (by decide)).trans f9_rooks
  have f10_size := (hm10 _ (by decide)).trans f9_size
  have f10_firsts := (hm10 _ (by decide)).trans f9_firsts
  refine step_rest (by decide) (wpAny_mono (law_s11 (sz := sendsOf ds) X T hd' hu' F10 N10 (.head _) (.tail _ (.tail _ (.tail _ (.head _)))) hfv hrv L0.flen (rookL_len _ _) L0.sends L0.firsts f10_size f10_firsts f10_rooks ⟨_, f10_factor⟩) (fun f s₂ h₂ => ?_) fun _ _ e => e)
  obtain ⟨rfl, h11, tk11, m11, rfl, F11, hm11, N11⟩ := h₂
  dsimp only
  have f11_script := (hm11 _ (by decide) (by decide)).trans f10_script
  have f11_rooks := (hm11 _ (by decide) (by decide)).trans f10_rooks
  have f11_size := (hm11 _ (by decide) (by decide)).trans f10_size
  refine step_rest (by decide) (wpAny_mono (law_s12 X T hd' hu' F11 N11 hp hv hz f11_script) (fun f s₂ h₂ => ?_) fun _ _ e => e)
  obtain ⟨rfl, h12, tk12, m12, rfl, F12, hm12, ⟨t12, f12_number⟩, N12⟩ := h₂
  dsimp only
  have f12_rooks := (hm12 _ (by decide)).trans f11_rooks
  have f12_size := (hm12 _ (by decide)).trans f11_size
  refine step_rest (by decide) (wpAny_mono (law_s13 X T hd' hu' F12 N12) (fun f s₂ h₂ => ?_) fun _ _ e => e)
  obtain ⟨rfl, h13, tk13, m13, rfl, F13, hm13, ⟨t13, f13_due⟩, N13⟩ := h₂
  dsimp only
  have f13_rooks := (hm13 _ (by decide)).trans f12_rooks
  have f13_size := (hm13 _ (by decide)).trans f12_size
  have f13_number := (hm13 _ (by decide)).trans f12_number
  have hx0 : -1000 ≤ zs.sum.fmod 2001 - 1000 := by have := Int.fmod_nonneg_of_pos zs.sum (show (0 : Int) < 2001 by decide); omega
  have hx1 : zs.sum.fmod 2001 - 1000 ≤ 1000 := by have := Int.fmod_lt_of_pos zs.sum (show (0 : Int) < 2001 by decide); omega
  refine step_rest (by decide) (wpAny_mono (law_s14 (sz := sendsOf ds) X T hd' hu' F13 N13 (.tail _ (.tail _ (.tail _ (.head _)))) hrv (rookL_len _ _) L0.sends hx0 hx1 f13_size f13_number f13_rooks ⟨_, f13_due⟩) (fun f s₂ h₂ => ?_) fun _ _ e => e)
  obtain ⟨rfl, h14, tk14, m14, rfl, F14, hm14, ⟨t14, f14_due⟩, N14⟩ := h₂
  dsimp only
  have f14_number := (hm14 _ (by decide) (by decide) (by decide) (by decide)).trans f13_number
  have N14' : News s.heap L h14 ((L + 1, oc2) :: (ka, listOf ks.toArray k1) :: []) := fun p hp => N14 p (by
    rcases List.mem_cons.mp hp with rfl | hp
    · exact .tail _ (.head _)
    · rw [List.mem_singleton.mp hp]
      exact .tail _ (.tail _ (.head _)))
  refine step_rest (by decide) (wpAny_mono (law_s15 X T hd' hu' F14 N14' hoc hks L0.nine hx0 hx1 f14_number) (fun f s₂ h₂ => ?_) fun _ _ e => e)
  obtain ⟨rfl, h15, tk15, m15, rfl, F15, hm15, ⟨t15, f15_walked⟩, N15⟩ := h₂
  dsimp only
  have f15_due := (hm15 _ (by decide)).trans f14_due
  refine step_rest (by decide) (wpAny_mono (law_s16 X T hd' hu' F15 N15 f15_walked) (fun f s₂ h₂ => ?_) fun _ _ e => e)
  obtain ⟨rfl, h16, tk16, m16, rfl, F16, hm16⟩ := h₂
  dsimp only
  have f16_due := (hm16 _ (by decide) (by decide)).trans f15_due
  have f16_walked := (hm16 _ (by decide) (by decide)).trans f15_walked
  have hdue := L0.due (zs.sum.fmod 2001 - 1000)
  have f16 : m16 (Str.ofString "walked") = some (.int (dueF (rooksOf ds) (zs.sum.fmod 2001 - 1000) (sendsOf ds) (sendsOf ds + 1)) t15) := by rw [f16_walked]; exact congrArg (fun z => some (Value.int z t15)) hdue
  refine step_rest (by decide) (wpAny_mono (law_s17 X T hd' hu' F16 (news := []) (fun p hp => nomatch hp) f16 f16_due) (fun f s₂ h₂ => ?_) fun _ _ e => e)
  obtain ⟨rfl, rfl⟩ := h₂
  skip
  exact hret _ _ _ F16.keep rfl
end Mine
end
-- part W3
section
open PySem PySem.W PyProof.Rows
set_option maxRecDepth 100000
set_option maxHeartbeats 0
set_option linter.unusedVariables false
namespace Mine
theorem final (facts : ∀ ds, DsOk ds → LawFacts ds) : PySem.Challenge.rw_ti0027_01.Holds := by
  w_on
  refine holds_law law_said fun said => ?_
  refine holds_open (r := PySem.Challenge.rw_ti0027_01.row) (q := qv) (loose := looseV) (Xt := XtV) (XP := XL qv []) (Yf := Hook.obs Hk) (Ya := Hook.val Hk) (YP := Hook.says Hk) (N := 40000) leftM (Hook.of Hk) (Hook.keeps Hk) (fun s e => xl_of s (Bool.and_eq_true_iff.mp e).1) XL.keeps (by rfl) (by rfl) (by rfl) (fun s e => recFacts_of (Bool.and_eq_true_iff.mp e).2) (by rfl) (by first | assumption | decide +kernel) (by decide +kernel) ⟨rfl, rfl, rfl, rfl, rfl, by decide +kernel⟩ ?hw ?hc
  case hw => w_witness2
  k_fill
  intro w s₀ s₁ mg mb G Y fa o pm cd doc dV kV ho hd hcd hD hmg hg args vals as hpre hlay hrd hwl hlo
  have KX := kIn_of Y
  have X := (Ground.X G).1
  have V := (Ground.X G).2
  refine Ground.open G ?_
  intro T B D TE TW
  wrow_args hpre hlay hrd hwl hlo
  clear ho hd hcd hD
  have e1 := mg_of KX (Top.g T) (n := PySem.Str.ofString "law") (v := .ref 207) (by kernel_rfl)
  have e2 : some (Value.ref fa) = some (Value.ref 207) := hmg.symm.trans e1
  cases e2
  clear hmg e1
  rename_i hI _ _ _
  exact wpAny_noRaise ((law_does facts w _ _ _ hI (by omega)).run (1 + claimMargin) 4 (some []) (some []) s₁ _ KX T (by decide) (by decide) (by assumption) fun r h' tk' k q => by
    subst q
    refine GoodW.toG ⟨.inl ⟨_, .bool true, [], rfl, fun cls => ?_, .bool true, ?_, fun _ => ⟨.nil, fun a ha => nomatch ha⟩⟩, k, rfl, hg⟩
    · rfl
    · wrow_post)
end Mine
end
-- part PFin
section
open PySem PySem.W PyProof.Rows PySem.Calls PySem.Spec
set_option maxRecDepth 100000
set_option linter.unusedVariables false
namespace Mine
noncomputable def subS : List (Int × Str) → List (Int × Str) → Bool
  | _, [] => false
  | [], _ => true
  | a :: l, b :: r => match decide (a.1 = b.1) with
    | true => decide (a.2 = b.2) && (l.isEmpty || subS l r)
    | false => subS (a :: l) r
theorem subS_mem : ∀ (r l : List (Int × Str)), subS l r = true → ∀ q ∈ l, q ∈ r
  | [], l, h, q, hq => by cases l <;> cases h
  | b :: r, [], h, q, hq => nomatch hq
  | b :: r, a :: l, h, q, hq => by
    unfold subS at h
    split at h
    · rename_i e
      rw [Bool.and_eq_true] at h
      have e1 := of_decide_eq_true e
      have e2 := of_decide_eq_true h.1
      have eab : a = b := Prod.ext e1 e2
      rcases List.mem_cons.mp hq with rfl | hq
      · rw [eab]; exact .head _
      · rcases Bool.or_eq_true_iff.mp h.2 with h3 | h3
        · rw [List.isEmpty_iff.mp h3] at hq; cases hq
        · exact .tail _ (subS_mem r l h3 q hq)
    · exact .tail _ (subS_mem r (a :: l) h q hq)
theorem datum_mem : ∀ {l : List (Int × Str)} {q : Int × Str}, (l.map (·.1)).Nodup → q ∈ l → KTD.datumAt q.1 (l.map fun q => (q.1, PyData.str q.2)) = some (.str q.2)
  | [], _, _, h => nomatch h
  | a :: l, q, hn, h => by
    rw [List.map_cons, List.nodup_cons] at hn
    rw [List.map_cons]
    unfold KTD.datumAt
    rcases List.mem_cons.mp h with rfl | h
    · rw [if_pos (by simp)]
    · have hne : ¬ q.1 = a.1 := fun e => hn.1 (e ▸ List.mem_map_of_mem h)
      rw [if_neg (by simpa using hne)]
      exact datum_mem hn.2 h
theorem datum_off : ∀ {l : List (Int × PyData)} {k : Int}, (∀ x ∈ l.map (·.1), k ≠ x) → KTD.datumAt k l = none
  | [], _, _ => rfl
  | a :: l, k, h => by
    unfold KTD.datumAt
    rw [if_neg (by simpa using h a.1 (.head _))]
    exact datum_off fun x hx => h x (.tail _ hx)
theorem b3nd : (b3kv.map (·.1)).Nodup := by
  have h := nodup_asc b3asc
  unfold b3D at h
  rw [List.map_map] at h
  exact h
theorem datum_in {q : Int × Str} (h : q ∈ b3kv) : KTD.datumAt q.1 b3D = some (.str q.2) := datum_mem b3nd h
theorem b3first : (b3D.map (·.1)).head? = some 181 := by decide +kernel
theorem datum_low {k : Int} (h : k < 181) : KTD.datumAt k b3D = none := datum_off fun x hx e => by
  subst e
  have ha := b3asc
  have hf := b3first
  revert ha hf hx
  cases b3D.map (·.1) with
  | nil => intro _ _ hx; cases hx
  | cons a r =>
    intro hx ha hf
    cases hf
    rcases List.mem_cons.mp hx with rfl | hx
    · omega
    · have := ascI_lt ha k hx
      omega
noncomputable def pairS : List (Int × Str) := (pairsN.drop 26).map fun q => ((q.1 : Int), ⟨q.2.toArray⟩)
theorem pair_sub : subS pairS b3kv = true := by decide +kernel
theorem unseen_off : (∀ q ∈ pairsN, ((q.1 : Nat) : Int) ∉ unseenZ) ∧ ∀ c < 128, ((c : Nat) : Int) ∉ unseenZ := by decide +kernel
theorem low_upper : ∀ q ∈ pairsN.take 26, (Txt.lower ⟨#[q.1]⟩).cps.toList = q.2 ∧ q.1 < 128 := by decide +kernel
theorem low_lower : (∀ c < 26, (Txt.lower ⟨#[97 + c]⟩).cps.toList = [97 + c]) ∧ (Txt.lower ⟨#[10]⟩).cps.toList = [10] ∧ (Txt.lower ⟨#[13]⟩).cps.toList = [13] ∧ (Txt.lower ⟨#[46]⟩).cps.toList = [46] := by decide +kernel
theorem pair_letters : ∀ q ∈ pairsN, ∀ c ∈ q.2, 97 ≤ c ∧ c < 123 := by decide +kernel
theorem prep_low {c : Nat} (h : c < 128) : prepC c = (Txt.lower ⟨#[c]⟩).cps.toList := by
  unfold prepC
  rw [if_neg (unseen_off.2 c h), foldC_none (datum_low (by omega))]
theorem prep_letter {c : Nat} (h : 97 ≤ c) (h2 : c < 123) : prepC c = [c] := by
  have := low_lower.1 (c - 97) (by omega)
  rw [show 97 + (c - 97) = c by omega] at this
  rw [prep_low (by omega), this]
theorem prep_plain : prepC 10 = [10] ∧ prepC 13 = [13] ∧ prepC 46 = [46] :=
  ⟨(prep_low (by decide)).trans low_lower.2.1, (prep_low (by decide)).trans low_lower.2.2.1, (prep_low (by decide)).trans low_lower.2.2.2⟩
theorem veil_unseen : ∀ v ∈ veilsN, ((v : Nat) : Int) ∈ unseenZ := by decide +kernel
theorem prep_veil (v : Nat) (h : v ∈ veilsN) : prepC v = [] := if_pos (veil_unseen v h)
theorem prep_stay : ∀ v ∈ staysN, prepC v = [v] := by decide +kernel
theorem prep_pair (q : Nat × List Nat) (h : q ∈ pairsN) : prepC q.1 = q.2 ∧ (∀ c ∈ q.2, prepC c = [c]) := by
  refine ⟨?_, fun c hc => prep_letter (pair_letters q h c hc).1 (pair_letters q h c hc).2⟩
  rw [← List.take_append_drop 26 pairsN] at h
  rcases List.mem_append.mp h with h | h
  · obtain ⟨a, b⟩ := low_upper q h
    rw [prep_low b, a]
  · have hm := subS_mem _ _ pair_sub _ (List.mem_map_of_mem (f := fun q : Nat × List Nat => ((q.1 : Int), (⟨q.2.toArray⟩ : Str))) h)
    have hd := datum_in hm
    unfold prepC
    rw [if_neg (unseen_off.1 q (List.mem_of_mem_drop h)), foldC_some hd]
theorem sign_veil : ∀ v ∈ veilsN, v ≠ 10 ∧ v ≠ 13 ∧ v ≠ 46 := by decide +kernel
theorem sign_stay : ∀ v ∈ staysN, v ≠ 10 ∧ v ≠ 13 ∧ v ≠ 46 := by decide +kernel
theorem sign_pair : ∀ q ∈ pairsN, (q.1 ≠ 10 ∧ q.1 ≠ 13 ∧ q.1 ≠ 46) ∧ (∀ c ∈ q.2, c ≠ 10 ∧ c ≠ 13 ∧ c ≠ 46) ∧ q.2.length ≤ 3 := by decide +kernel
end Mine
end
-- part PItem
section
open PySem PySem.W PyProof.Rows PySem.Calls PySem.Spec
set_option maxRecDepth 100000
set_option linter.unusedVariables false
namespace Mine
structure It where
  fin : List Nat
  veil : List Nat
  dots : Nat
  name : List Nat
  fold : List Nat
noncomputable def body (i : It) : List Nat := i.veil ++ List.replicate i.dots 46 ++ i.name
noncomputable def txt (l : List It) : List Nat := l.flatMap fun i => i.fin ++ body i
noncomputable def send (i : It) : It := { i with fin := crlfL i.fin, dots := if i.veil = [] then i.dots + 1 else i.dots }
noncomputable def prepd (i : It) : It := { i with veil := [], name := i.fold }
noncomputable def finsN : List (List Nat) := [] :: [13, 10, 13, 10] :: endsN
noncomputable def Plain (l : List Nat) : Prop := ∀ c ∈ l, c ≠ 10 ∧ c ≠ 13
structure ItOk (i : It) : Prop where
  fin : i.fin ∈ finsN
  veil : i.veil = [] ∨ ∃ v ∈ veilsN, i.veil = [v]
  dots : 1 ≤ i.dots
  name : (i.name = [] ∧ i.fold = []) ∨ ∃ st ∈ staysN, ∃ q ∈ pairsN, (i.name = [q.1, st] ∨ i.name = q.2 ++ [st]) ∧ i.fold = q.2 ++ [st]
theorem crlf_fins : ∀ f ∈ finsN, crlfL f ∈ finsN ∧ crlfL (crlfL f) = crlfL f ∧ (f ≠ [] → crlfL f ≠ []) ∧ f.length ≤ 4 := by decide +kernel
theorem ItOk.send {i : It} (h : ItOk i) : ItOk (Mine.send i) := by
  refine ⟨(crlf_fins _ h.fin).1, h.veil, ?_, h.name⟩
  have := h.dots
  show 1 ≤ if i.veil = [] then i.dots + 1 else i.dots
  split <;> omega
theorem ItOk.prepd {i : It} (h : ItOk i) : ItOk (Mine.prepd i) := by
  refine ⟨h.fin, .inl rfl, h.dots, ?_⟩
  rcases h.name with ⟨_, b⟩ | ⟨st, hs, q, hq, _, b⟩
  · exact .inl ⟨b, b⟩
  · exact .inr ⟨st, hs, q, hq, .inr b, b⟩
theorem name_signs {i : It} (h : ItOk i) : (∀ c ∈ i.name, c ≠ 10 ∧ c ≠ 13 ∧ c ≠ 46) ∧ i.name.length ≤ 4 := by
  rcases h.name with ⟨a, _⟩ | ⟨st, hs, q, hq, a, _⟩
  · rw [a]; exact ⟨fun c hc => (nomatch hc), by decide⟩
  · have h1 := sign_stay st hs
    obtain ⟨h2, h3, h4⟩ := sign_pair q hq
    rcases a with a | a <;> rw [a]
    · refine ⟨fun c hc => ?_, by simp⟩
      rcases List.mem_cons.mp hc with rfl | hc
      · exact h2
      · rw [List.mem_singleton.mp hc]; exact h1
    · refine ⟨fun c hc => ?_, by simp; omega⟩
      rcases List.mem_append.mp hc with hc | hc
      · exact h3 c hc
      · rw [List.mem_singleton.mp hc]; exact h1
theorem veil_signs {i : It} (h : ItOk i) : (∀ c ∈ i.veil, c ≠ 10 ∧ c ≠ 13 ∧ c ≠ 46) ∧ i.veil.length ≤ 1 := by
  rcases h.veil with a | ⟨v, hv, a⟩ <;> rw [a]
  · exact ⟨fun c hc => (nomatch hc), by decide⟩
  · exact ⟨fun c hc => by rw [List.mem_singleton.mp hc]; exact sign_veil v hv, by simp⟩
theorem body_plain {i : It} (h : ItOk i) : Plain (body i) := by
  intro c hc
  unfold body at hc
  rcases List.mem_append.mp hc with hc | hc
  · rcases List.mem_append.mp hc with hc | hc
    · have := (veil_signs h).1 c hc; exact ⟨this.1, this.2.1⟩
    · rw [List.eq_of_mem_replicate hc]; exact ⟨by decide, by decide⟩
  · have := (name_signs h).1 c hc; exact ⟨this.1, this.2.1⟩
theorem body_ne {i : It} (h : ItOk i) : body i ≠ [] := by
  unfold body
  have := h.dots
  intro q
  have h2 := congrArg List.length q
  simp at h2
  omega
-- the ends of rows
theorem crlf_plain : ∀ (a r : List Nat), Plain a → crlfL (a ++ r) = a ++ crlfL r
  | [], r, _ => rfl
  | c :: a, r, h => by
    have hc := h c (.head _)
    have ih := crlf_plain a r fun x hx => h x (.tail _ hx)
    show crlfL (c :: (a ++ r)) = c :: (a ++ crlfL r)
    rw [← ih]
    cases a ++ r with
    | nil =>
      conv => lhs; unfold crlfL
      rw [if_neg (by omega)]
      rfl
    | cons d s =>
      conv => lhs; unfold crlfL
      rw [if_neg (by omega), if_neg (by omega)]
theorem crlf_fin {f : List Nat} (hf : f ∈ finsN) {c : Nat} (hc : c ≠ 10 ∧ c ≠ 13) (r : List Nat) : crlfL (f ++ c :: r) = crlfL f ++ crlfL (c :: r) := by
  have h10 : ∀ x, crlfL (10 :: c :: x) = 13 :: 10 :: crlfL (c :: x) := fun x => by
    conv => lhs; unfold crlfL
    rw [if_neg (by omega), if_pos (by omega)]
  have h13 : ∀ x, crlfL (13 :: c :: x) = 13 :: 10 :: crlfL (c :: x) := fun x => by
    conv => lhs; unfold crlfL
    rw [if_neg (by omega), if_pos (by omega)]
  have h1310 : ∀ x, crlfL (13 :: 10 :: x) = 13 :: 10 :: crlfL x := fun x => by
    conv => lhs; unfold crlfL
    rw [if_pos (by omega)]
  have h1013 : ∀ x, crlfL (10 :: 13 :: x) = 13 :: 10 :: crlfL (13 :: x) := fun x => by
    conv => lhs; unfold crlfL
    rw [if_neg (by omega), if_pos (by omega)]
  have h1313 : ∀ x, crlfL (13 :: 13 :: x) = 13 :: 10 :: crlfL (13 :: x) := fun x => by
    conv => lhs; unfold crlfL
    rw [if_neg (by omega), if_pos (by omega)]
  simp only [finsN, endsN, List.mem_cons, List.not_mem_nil, or_false] at hf
  rcases hf with rfl | rfl | rfl | rfl | rfl | rfl | rfl
  · rfl
  · show crlfL (13 :: 10 :: 13 :: 10 :: c :: r) = [13, 10, 13, 10] ++ crlfL (c :: r)
    rw [h1310, h1310]; rfl
  · show crlfL (10 :: c :: r) = [13, 10] ++ crlfL (c :: r)
    rw [h10]; rfl
  · show crlfL (13 :: c :: r) = [13, 10] ++ crlfL (c :: r)
    rw [h13]; rfl
  · show crlfL (13 :: 10 :: c :: r) = [13, 10] ++ crlfL (c :: r)
    rw [h1310]; rfl
  · show crlfL (10 :: 13 :: c :: r) = [13, 10, 13, 10] ++ crlfL (c :: r)
    rw [h1013, h13]; rfl
  · show crlfL (13 :: 13 :: 10 :: c :: r) = [13, 10, 13, 10] ++ crlfL (c :: r)
    rw [h1313, h1310]; rfl
theorem txt_cons (i : It) (l : List It) : txt (i :: l) = i.fin ++ (body i ++ txt l) := by
  unfold txt
  rw [List.flatMap_cons, List.append_assoc]
theorem crlf_txt : ∀ l : List It, (∀ i ∈ l, ItOk i) → crlfL (txt l) = txt (l.map fun i => { i with fin := crlfL i.fin })
  | [], _ => rfl
  | i :: l, h => by
    have hi := h i (.head _)
    have ih := crlf_txt l fun j hj => h j (.tail _ hj)
    rw [txt_cons, List.map_cons, txt_cons, ← ih]
    show crlfL (i.fin ++ (body i ++ txt l)) = crlfL i.fin ++ (body i ++ crlfL (txt l))
    rw [← crlf_plain _ (txt l) (body_plain hi)]
    cases hb : body i with
    | nil => exact absurd hb (body_ne hi)
    | cons c b => exact crlf_fin hi.fin (body_plain hi c (by rw [hb]; exact .head _)) _
-- the dots
theorem dots_plain : ∀ (a r : List Nat), (∀ c ∈ a, c ≠ 10) → dotsL false (a ++ r) = a ++ dotsL false r
  | [], r, _ => rfl
  | c :: a, r, h => by
    show dotsL false (c :: (a ++ r)) = c :: (a ++ dotsL false r)
    conv => lhs; unfold dotsL
    rw [if_neg (by intro q; cases q.1), show (c == 10) = false from beq_eq_false_iff_ne.mpr (h c (.head _)), dots_plain a r fun x hx => h x (.tail _ hx)]
theorem dots_body {i : It} (h : ItOk i) (r : List Nat) : dotsL true (body i ++ r) = body (send i) ++ dotsL false r := by
  have hn : ∀ c ∈ i.name, c ≠ 10 := fun c hc => ((name_signs h).1 c hc).1
  have h46 : ∀ (n : Nat) (x : List Nat), dotsL false (List.replicate n 46 ++ (i.name ++ x)) = List.replicate n 46 ++ (i.name ++ dotsL false x) := fun n x => by
    rw [dots_plain _ _ fun c hc => by rw [List.eq_of_mem_replicate hc]; decide, dots_plain _ _ hn]
  unfold body
  rcases h.veil with a | ⟨v, hv, a⟩
  · have hd := h.dots
    obtain ⟨n, hn2⟩ : ∃ n, i.dots = n + 1 := ⟨i.dots - 1, by omega⟩
    show dotsL true (i.veil ++ List.replicate i.dots 46 ++ i.name ++ r) = i.veil ++ List.replicate (if i.veil = [] then i.dots + 1 else i.dots) 46 ++ i.name ++ dotsL false r
    rw [a, if_pos rfl, hn2, List.nil_append, List.nil_append, List.replicate_succ, List.replicate_succ, List.replicate_succ]
    show dotsL true (46 :: (List.replicate n 46 ++ i.name ++ r)) = 46 :: 46 :: (List.replicate n 46 ++ i.name ++ dotsL false r)
    conv => lhs; unfold dotsL
    rw [if_pos ⟨rfl, rfl⟩, List.append_assoc, h46, List.append_assoc]
  · have hs := sign_veil v hv
    show dotsL true (i.veil ++ List.replicate i.dots 46 ++ i.name ++ r) = i.veil ++ List.replicate (if i.veil = [] then i.dots + 1 else i.dots) 46 ++ i.name ++ dotsL false r
    rw [a, if_neg (by simp)]
    show dotsL true (v :: (List.replicate i.dots 46 ++ i.name ++ r)) = v :: (List.replicate i.dots 46 ++ i.name ++ dotsL false r)
    conv => lhs; unfold dotsL
    rw [if_neg fun q => hs.2.2 q.2, show (v == 10) = false from beq_eq_false_iff_ne.mpr hs.1, List.append_assoc, h46, List.append_assoc]
theorem dots_fin {f : List Nat} (hf : f ∈ finsN) (hne : f ≠ []) (b : Bool) (r : List Nat) : dotsL b (crlfL f ++ r) = crlfL f ++ dotsL true r := by
  have h1310 : ∀ (b : Bool) x, dotsL b (13 :: 10 :: x) = 13 :: 10 :: dotsL true x := fun b x => by
    conv => lhs; unfold dotsL
    rw [if_neg (by omega)]
    conv => lhs; unfold dotsL
    rw [if_neg (by omega)]
    rfl
  simp only [finsN, endsN, List.mem_cons, List.not_mem_nil, or_false] at hf
  rcases hf with rfl | rfl | rfl | rfl | rfl | rfl | rfl
  · exact absurd rfl hne
  · show dotsL b (13 :: 10 :: 13 :: 10 :: r) = 13 :: 10 :: 13 :: 10 :: dotsL true r
    rw [h1310, h1310]
  · exact h1310 b r
  · exact h1310 b r
  · exact h1310 b r
  · show dotsL b (13 :: 10 :: 13 :: 10 :: r) = 13 :: 10 :: 13 :: 10 :: dotsL true r
    rw [h1310, h1310]
  · show dotsL b (13 :: 10 :: 13 :: 10 :: r) = 13 :: 10 :: 13 :: 10 :: dotsL true r
    rw [h1310, h1310]
structure Wf (l : List It) : Prop where
  ok : ∀ i ∈ l, ItOk i
  fins : ∀ i ∈ l.tail, i.fin ≠ []
theorem dots_txt : ∀ (l : List It) (b : Bool), (∀ i ∈ l, ItOk i) → (∀ i ∈ l.tail, i.fin ≠ []) → (b = true ∨ ∀ i ∈ l, i.fin ≠ []) → dotsL b (txt (l.map fun i => { i with fin := crlfL i.fin })) = txt (l.map send)
  | [], b, _, _, _ => by cases b <;> rfl
  | i :: l, b, h, ht, hb => by
    have hi := h i (.head _)
    have ih := dots_txt l false (fun j hj => h j (.tail _ hj)) (fun j hj => ht j (List.mem_of_mem_tail hj)) (.inr ht)
    rw [List.map_cons, List.map_cons, txt_cons, txt_cons, ← ih]
    show dotsL b (crlfL i.fin ++ (body i ++ txt (l.map fun i => { i with fin := crlfL i.fin }))) = crlfL i.fin ++ (body (send i) ++ dotsL false (txt (l.map fun i => { i with fin := crlfL i.fin })))
    rw [← dots_body hi]
    by_cases hf : i.fin = []
    · have hb1 : b = true := hb.resolve_right fun q => q i (.head _) hf
      rw [hf, hb1]
      rfl
    · rw [dots_fin hi.fin hf]
theorem quote_txt {l : List It} (h : Wf l) : quoteL (txt l) = txt (l.map send) := by
  unfold quoteL
  rw [crlf_txt l h.ok]
  exact dots_txt l true h.ok h.fins (.inl rfl)
-- preparing
theorem prep_app (a b : List Nat) : prepN (a ++ b) = prepN a ++ prepN b := List.flatMap_append
theorem prep_fixed : ∀ (a : List Nat), (∀ c ∈ a, prepC c = [c]) → prepN a = a
  | [], _ => rfl
  | c :: a, h => by
    have ih := prep_fixed a fun x hx => h x (.tail _ hx)
    unfold prepN at *
    rw [List.flatMap_cons, ih, h c (.head _)]
    rfl
theorem fin_signs : ∀ f ∈ finsN, ∀ c ∈ f, c = 10 ∨ c = 13 := by decide +kernel
theorem prep_item {i : It} (h : ItOk i) : prepN (i.fin ++ body i) = (prepd i).fin ++ body (prepd i) := by
  have h1 : prepN i.fin = i.fin := prep_fixed _ fun c hc => by
    rcases fin_signs _ h.fin c hc with rfl | rfl
    · exact prep_plain.1
    · exact prep_plain.2.1
  have h2 : prepN i.veil = [] := by
    rcases h.veil with a | ⟨v, hv, a⟩ <;> rw [a]
    · rfl
    · unfold prepN
      rw [List.flatMap_cons, prep_veil v hv]
      rfl
  have h3 : prepN (List.replicate i.dots 46) = List.replicate i.dots 46 := prep_fixed _ fun c hc => by rw [List.eq_of_mem_replicate hc]; exact prep_plain.2.2
  have h4 : prepN i.name = i.fold := by
    rcases h.name with ⟨a, b⟩ | ⟨st, hs, q, hq, a, b⟩
    · rw [a, b]; rfl
    · have p1 := prep_stay st hs
      obtain ⟨p2, p3⟩ := prep_pair q hq
      rcases a with a | a <;> rw [a, b]
      · unfold prepN
        rw [List.flatMap_cons, List.flatMap_cons, p1, p2]
        rfl
      · exact prep_fixed _ fun c hc => by
          rcases List.mem_append.mp hc with hc | hc
          · exact p3 c hc
          · rw [List.mem_singleton.mp hc]; exact p1
  rw [prep_app]
  unfold body
  rw [prep_app, prep_app, h1, h2, h3, h4]
  rfl
theorem prep_txt : ∀ (l : List It), (∀ i ∈ l, ItOk i) → prepN (txt l) = txt (l.map prepd)
  | [], _ => rfl
  | i :: l, h => by
    have ih := prep_txt l fun j hj => h j (.tail _ hj)
    have e : txt (i :: l) = (i.fin ++ body i) ++ txt l := by unfold txt; rw [List.flatMap_cons]
    have e2 : txt ((i :: l).map prepd) = ((prepd i).fin ++ body (prepd i)) ++ txt (l.map prepd) := by unfold txt; rw [List.map_cons, List.flatMap_cons]
    rw [e, prep_app, prep_item (h i (.head _)), ih, e2]
end Mine
end
-- part PSum
section
open PySem PySem.W PyProof.Rows PySem.Calls PySem.Spec
set_option maxRecDepth 100000
set_option linter.unusedVariables false
namespace Mine
noncomputable def sg {α : Type} (l : List α) (f : α → Int) : Int := (l.map f).sum
section
variable {α β : Type}
theorem sg_nil (f : α → Int) : sg [] f = 0 := rfl
theorem sg_cons (a : α) (l : List α) (f : α → Int) : sg (a :: l) f = f a + sg l f := by unfold sg; rw [List.map_cons, List.sum_cons]
theorem sg_append (l k : List α) (f : α → Int) : sg (l ++ k) f = sg l f + sg k f := by unfold sg; rw [List.map_append, List.sum_append]
theorem sg_congr {l : List α} {f g : α → Int} (h : ∀ a ∈ l, f a = g a) : sg l f = sg l g := by unfold sg; rw [List.map_congr_left h]
theorem sg_add (l : List α) (f g : α → Int) : sg l (fun a => f a + g a) = sg l f + sg l g := by
  induction l with
  | nil => rfl
  | cons a r ih => rw [sg_cons, sg_cons, sg_cons, ih]; omega
theorem sg_mul (l : List α) (c : Int) (f : α → Int) : sg l (fun a => c * f a) = c * sg l f := by
  induction l with
  | nil => simp [sg]
  | cons a r ih => rw [sg_cons, sg_cons, ih, Int.mul_add]
theorem sg_zero (l : List α) : sg l (fun _ => 0) = 0 := by
  induction l with
  | nil => rfl
  | cons a r ih => rw [sg_cons, ih]; rfl
theorem sg_swap (l : List α) (k : List β) (f : α → β → Int) : sg l (fun a => sg k fun b => f a b) = sg k fun b => sg l fun a => f a b := by
  induction l with
  | nil => rw [sg_nil]; exact (sg_zero k).symm
  | cons a r ih =>
    rw [sg_cons, ih, ← sg_add]
    exact sg_congr fun b _ => (sg_cons a r fun a => f a b).symm
theorem sg_range_succ (n : Nat) (f : Nat → Int) : sg (List.range (n + 1)) f = sg (List.range n) f + f n := by
  rw [List.range_succ, sg_append, sg_cons, sg_nil]; omega
theorem sg_delta (i : Nat) (x : Int) : ∀ n, sg (List.range n) (fun k => if k = i then x else 0) = if i < n then x else 0
  | 0 => by simp [sg]
  | n + 1 => by
    rw [sg_range_succ, sg_delta i x n]
    by_cases h : i < n
    · rw [if_pos h, if_neg (by omega), if_pos (by omega)]; omega
    · by_cases h2 : n = i
      · rw [if_neg h, if_pos h2, if_pos (by omega)]; omega
      · rw [if_neg h, if_neg h2, if_neg (by omega)]; omega
theorem sg_tail (a : Nat) (f : Nat → Int) : ∀ b, (∀ k, a ≤ k → f k = 0) → sg (List.range (a + b)) f = sg (List.range a) f
  | 0, _ => rfl
  | b + 1, h => by
    rw [← Nat.add_assoc, sg_range_succ, sg_tail a f b h, h (a + b) (by omega)]; omega
end
noncomputable def pair (W : List (Int × Int)) (g : Nat → Int) : Int := sg W fun p => p.2 * g p.1.toNat
noncomputable def KeysND (W : List (Int × Int)) : Prop := (W.map (·.1)).Nodup
theorem getZ_none {W : List (Int × Int)} {k : Int} (h : k ∉ W.map (·.1)) : getZ W k = none ∧ W.any (fun p => decide (p.1 = k)) = false := by
  induction W with
  | nil => exact ⟨rfl, rfl⟩
  | cons p r ih =>
    rw [List.map_cons, List.mem_cons, not_or] at h
    obtain ⟨h1, h2⟩ := ih h.2
    have hp : ¬ p.1 = k := fun q => h.1 q.symm
    unfold getZ at h1 ⊢
    constructor
    · rw [List.find?_cons_of_neg (by simpa using hp)]; exact h1
    · rw [List.any_cons, h2, decide_eq_false hp]; rfl
theorem getZ_mem {W : List (Int × Int)} {k : Int} (h : k ∈ W.map (·.1)) : W.any (fun p => decide (p.1 = k)) = true := by
  obtain ⟨p, hp, e⟩ := List.mem_map.mp h
  exact List.any_eq_true.mpr ⟨p, hp, decide_eq_true e⟩
theorem map_off {W : List (Int × Int)} {k x : Int} (h : k ∉ W.map (·.1)) : W.map (fun p => if p.1 = k then (p.1, x) else p) = W := by
  induction W with
  | nil => rfl
  | cons p r ih =>
    rw [List.map_cons, List.mem_cons, not_or] at h
    rw [List.map_cons, ih h.2, if_neg fun q => h.1 q.symm]
theorem pair_map {W : List (Int × Int)} {k v : Int} (g : Nat → Int) (hn : KeysND W) (h : k ∈ W.map (·.1)) :
    pair (W.map fun p => if p.1 = k then (p.1, (getZ W k).getD 0 + v) else p) g = pair W g + v * g k.toNat := by
  induction W with
  | nil => cases h
  | cons p r ih =>
    unfold KeysND at hn
    rw [List.map_cons, List.nodup_cons] at hn
    by_cases e : p.1 = k
    · have hz : getZ (p :: r) k = some p.2 := by unfold getZ; rw [List.find?_cons_of_pos (by simpa using e)]; rfl
      rw [hz, List.map_cons, map_off (e ▸ hn.1), if_pos e]
      unfold pair
      rw [sg_cons, sg_cons]
      simp only [Option.getD_some]
      rw [Int.add_mul, e]
      omega
    · have hz : getZ (p :: r) k = getZ r k := by unfold getZ; rw [List.find?_cons_of_neg (by simpa using e)]
      have h2 : k ∈ r.map (·.1) := by
        rw [List.map_cons, List.mem_cons] at h
        exact h.resolve_left fun q => e q.symm
      have := ih hn.2 h2
      rw [hz, List.map_cons, if_neg e]
      unfold pair at this ⊢
      rw [sg_cons, sg_cons, this]
      omega
theorem pair_set {W : List (Int × Int)} {k v : Int} (g : Nat → Int) (hn : KeysND W) : pair (setZ W k ((getZ W k).getD 0 + v)) g = pair W g + v * g k.toNat := by
  unfold setZ
  by_cases h : k ∈ W.map (·.1)
  · rw [if_pos (getZ_mem h)]
    exact pair_map g hn h
  · obtain ⟨h1, h2⟩ := getZ_none h
    rw [if_neg (by rw [h2]; decide), h1]
    unfold pair
    rw [sg_append, sg_cons, sg_nil]
    simp only [Option.getD_none]
    rw [Int.zero_add, Int.add_zero]
theorem nd_set {W : List (Int × Int)} {k v : Int} (hn : KeysND W) : KeysND (setZ W k v) := by
  unfold setZ
  by_cases h : k ∈ W.map (·.1)
  · rw [if_pos (getZ_mem h)]
    unfold KeysND at *
    rw [List.map_map]
    have : ((fun p : Int × Int => p.1) ∘ fun p => if p.1 = k then (p.1, v) else p) = fun p => p.1 := by
      funext p
      show (if p.1 = k then (p.1, v) else p).1 = p.1
      split <;> rfl
    rw [this]
    exact hn
  · obtain ⟨h1, h2⟩ := getZ_none h
    rw [if_neg (by rw [h2]; decide)]
    unfold KeysND at *
    rw [List.map_append, List.nodup_append]
    refine ⟨hn, by simp, ?_⟩
    intro a ha b hb e
    rw [List.map_singleton, List.mem_singleton] at hb
    have hkb : k = b := hb.symm
    exact h (by rw [hkb, ← e]; exact ha)
noncomputable def T (p : Nat) (g : Nat → Int) (n : Nat) : Int := g n + sg (List.range p) fun c => if n.testBit c then 0 else g (n ||| 2 ^ c)
theorem bit_is : ∀ n < 512, ∀ c < 9, (Builtin.bitAnd (((n : Nat) : Int).fdiv (2 ^ c)) 1 = 0 ↔ n.testBit c = false) := by decide +kernel
theorem bit_add : ∀ n < 512, ∀ c < 9, n.testBit c = false → n + 2 ^ c = n ||| 2 ^ c := by decide +kernel
theorem pair_col {W : List (Int × Int)} {t v : Int} {c : Nat} (g : Nat → Int) (hn : KeysND W) (h0 : 0 ≤ t) (h1 : t < 512) (hc : c < 9) :
    KeysND (colStep W t v c) ∧ pair (colStep W t v c) g = pair W g + v * (if t.toNat.testBit c then 0 else g (t.toNat ||| 2 ^ c)) := by
  obtain ⟨n, rfl⟩ := Int.eq_ofNat_of_zero_le h0
  have hn5 : n < 512 := by omega
  rw [Int.toNat_natCast]
  unfold colStep
  by_cases hb : Builtin.bitAnd (((n : Nat) : Int).fdiv (2 ^ c)) 1 = 0
  · have hf := (bit_is n hn5 c hc).mp hb
    rw [if_pos hb]
    refine ⟨nd_set hn, ?_⟩
    rw [pair_set g hn, hf, if_neg (by decide)]
    have e : ((n : Int) + 2 ^ c).toNat = n ||| 2 ^ c := by
      rw [← bit_add n hn5 c hc hf]
      have : ((2 : Int) ^ c) = ((2 ^ c : Nat) : Int) := by simp
      rw [this, ← Int.natCast_add, Int.toNat_natCast]
    rw [e]
  · have hf : n.testBit c = true := by
      cases q : n.testBit c with
      | true => rfl
      | false => exact absurd ((bit_is n hn5 c hc).mpr q) hb
    rw [if_neg hb, hf, if_pos rfl, Int.mul_zero, Int.add_zero]
    exact ⟨hn, rfl⟩
theorem pair_cols {W : List (Int × Int)} {t v : Int} (g : Nat → Int) (hn : KeysND W) (h0 : 0 ≤ t) (h1 : t < 512) : ∀ n, n ≤ 9 →
    KeysND (colsF W t v n) ∧ pair (colsF W t v n) g = pair W g + v * sg (List.range n) fun c => if t.toNat.testBit c then 0 else g (t.toNat ||| 2 ^ c)
  | 0, _ => ⟨hn, by rw [List.range_zero, sg_nil, Int.mul_zero, Int.add_zero]; rfl⟩
  | n + 1, hle => by
    obtain ⟨a, b⟩ := pair_cols (v := v) g hn h0 h1 n (by omega)
    rw [cols_succ, sg_range_succ]
    obtain ⟨c, d⟩ := pair_col (v := v) (c := n) g a h0 h1 (by omega)
    exact ⟨c, by rw [d, b, Int.mul_add]; omega⟩
theorem pair_taken {n : Nat} (g : Nat → Int) (hle : n ≤ 9) : ∀ (l F : List (Int × Int)), KeysND F → KeysIn l → KeysND (l.foldl (fun F p => colsF F p.1 p.2 n) F) ∧
    pair (l.foldl (fun F p => colsF F p.1 p.2 n) F) g = pair F g + sg l fun p => p.2 * sg (List.range n) fun c => if p.1.toNat.testBit c then 0 else g (p.1.toNat ||| 2 ^ c)
  | [], F, hn, _ => ⟨hn, by rw [sg_nil, Int.add_zero]; rfl⟩
  | p :: r, F, hn, hk => by
    have hp := hk p (.head _)
    obtain ⟨a, b⟩ := pair_cols (v := p.2) g hn hp.1 hp.2 n hle
    obtain ⟨c, d⟩ := pair_taken g hle r (colsF F p.1 p.2 n) a fun q hq => hk q (.tail _ hq)
    rw [List.foldl_cons, sg_cons]
    exact ⟨c, by rw [d, b]; omega⟩
theorem pair_place {W : List (Int × Int)} {n : Int} (g : Nat → Int) (hle : n ≤ 9) (hn : KeysND W) (hk : KeysIn W) : KeysND (placeF W n) ∧ pair (placeF W n) g = pair W (T n.toNat g) := by
  unfold placeF takenF
  rw [List.take_length]
  obtain ⟨a, b⟩ := pair_taken (n := n.toNat) g (by omega) W W hn hk
  refine ⟨a, ?_⟩
  rw [b]
  unfold pair
  rw [← sg_add]
  exact sg_congr fun p _ => by unfold T; rw [Int.mul_add]
theorem keys_place {W : List (Int × Int)} {n : Int} (hle : n ≤ 9) (hk : KeysIn W) : KeysIn (placeF W n) := taken_keys hk (by omega) _
theorem pair_ways (g : Nat → Int) : ∀ (ps : List Int) (W : List (Int × Int)), (∀ n ∈ ps, n ≤ 9) → KeysND W → KeysIn W → pair (ps.foldl placeF W) g = pair W (ps.foldr (fun p g => T p.toNat g) g)
  | [], W, _, _, _ => rfl
  | p :: r, W, h, hn, hk => by
    obtain ⟨a, b⟩ := pair_place (n := p) (r.foldr (fun p g => T p.toNat g) g) (h p (.head _)) hn hk
    rw [List.foldl_cons, pair_ways g r _ (fun n hn => h n (.tail _ hn)) a (keys_place (h p (.head _)) hk), b]
    rfl
theorem ways_pair (g : Nat → Int) (ps : List Int) (h : ∀ n ∈ ps, n ≤ 9) : pair (waysF ps) g = ps.foldr (fun p g => T p.toNat g) g 0 := by
  unfold waysF
  rw [pair_ways g ps _ h (by unfold KeysND; simp) fun p hp => by rw [List.mem_singleton.mp hp]; exact ⟨by decide, by decide⟩]
  unfold pair
  rw [sg_cons, sg_nil]
  show 1 * _ + 0 = _
  rw [Int.one_mul, Int.add_zero]
  rfl
noncomputable def dot (rs : List Int) (F : Nat → Int) : Int := sg (List.range 10) fun k => rs.getD k 0 * F k
theorem dot_add {rs : List Int} {F : Nat → Int} {i : Nat} {v : Int} (hl : rs.length = 10) (hi : i < 10) : dot (rs.set i (rs.getD i 0 + v)) F = dot rs F + v * F i := by
  have e : ∀ k ∈ List.range 10, (rs.set i (rs.getD i 0 + v)).getD k 0 * F k = rs.getD k 0 * F k + if k = i then v * F i else 0 := fun k hk => by
    by_cases q : k = i
    · subst q
      rw [if_pos rfl, List.getD_eq_getElem?_getD, List.getElem?_set_self (by omega), Option.getD_some, Int.add_mul]
    · rw [if_neg q, List.getD_eq_getElem?_getD, List.getElem?_set_ne (fun z => q z.symm), ← List.getD_eq_getElem?_getD, Int.add_zero]
  unfold dot
  rw [sg_congr e, sg_add, sg_delta, if_pos hi]
theorem rooks_dot (F : Nat → Int) {W : List (Int × Int)} (hk : KeysIn W) : ∀ i, dot (rookL W i) F = sg (W.take i) fun p => p.2 * F (popc p.1)
  | 0 => by
    rw [List.take_zero, sg_nil]
    unfold dot
    refine (sg_congr (g := fun _ => 0) fun k hk => ?_).trans (sg_zero _)
    have : ∀ k < 10, ([0, 0, 0, 0, 0, 0, 0, 0, 0, 0] : List Int).getD k 0 = 0 := by decide
    show ([0, 0, 0, 0, 0, 0, 0, 0, 0, 0] : List Int).getD k 0 * F k = 0
    rw [this k (List.mem_range.mp hk), Int.zero_mul]
  | i + 1 => by
    cases e : W[i]? with
    | none =>
      have h1 : W.take (i + 1) = W.take i := by rw [List.take_add_one, e]; simp
      have h2 : rookL W (i + 1) = rookL W i := by unfold rookL; rw [h1]
      rw [h1, h2]
      exact rooks_dot F hk i
    | some p =>
      have hp := hk p (List.mem_of_getElem? e)
      have hb := (popc_lt p.1.toNat (by omega)).2
      rw [show ((p.1.toNat : Nat) : Int) = p.1 by omega] at hb
      have hc : popc p.1 < 10 := by unfold popc; omega
      rw [rook_succ e]
      unfold rookAdd
      rw [dot_add (rookL_len W i) hc, rooks_dot F hk i, List.take_add_one, e, Option.toList_some, sg_append, sg_cons, sg_nil, Int.add_zero]
theorem popc_nat : ∀ n < 512, popc ((n : Nat) : Int) = (List.range 9).countP fun c => n.testBit c := by decide +kernel
noncomputable def pcN (n : Nat) : Nat := (List.range 9).countP fun c => n.testBit c
theorem rooks_are (F : Nat → Int) (ps : List Int) (h : ∀ n ∈ ps, n ≤ 9) : dot (rookL (waysF ps) (waysF ps).length) F = ps.foldr (fun p g => T p.toNat g) (fun n => F (pcN n)) 0 := by
  have hk := ways_keys ps h
  rw [rooks_dot F hk, List.take_length, ← ways_pair _ ps h]
  unfold pair
  refine sg_congr fun p hp => ?_
  have := hk p hp
  have e := popc_nat p.1.toNat (by omega)
  rw [show ((p.1.toNat : Nat) : Int) = p.1 by omega] at e
  rw [e]
  rfl
end Mine
end
-- part PRook
section
open PySem PySem.W PyProof.Rows PySem.Calls PySem.Spec
set_option maxRecDepth 100000
set_option linter.unusedVariables false
namespace Mine
local macro_rules | `(tactic| walk_at "PAD") => `(tactic| fail "pad")
theorem bit_or (n c d : Nat) : (n ||| 2 ^ c).testBit d = (n.testBit d || decide (c = d)) := by
  rw [Nat.testBit_or, Nat.testBit_two_pow]
theorem T_apply (p : Nat) (g : Nat → Int) (n : Nat) : T p g n = g n + sg (List.range p) fun c => if n.testBit c then 0 else g (n ||| 2 ^ c) := rfl
theorem T_comm (p q : Nat) (g : Nat → Int) : T p (T q g) = T q (T p g) := by
  funext n
  have key : ∀ p q : Nat, T p (T q g) n = g n + (sg (List.range q) fun d => if n.testBit d then 0 else g (n ||| 2 ^ d)) + (sg (List.range p) fun c => if n.testBit c then 0 else g (n ||| 2 ^ c)) +
      sg (List.range p) fun c => sg (List.range q) fun d => if n.testBit c || n.testBit d || decide (c = d) then 0 else g (n ||| 2 ^ c ||| 2 ^ d) := by
    intro p q
    rw [T_apply, T_apply q]
    have e : ∀ c ∈ List.range p, (if n.testBit c then 0 else T q g (n ||| 2 ^ c)) = (if n.testBit c then 0 else g (n ||| 2 ^ c)) + sg (List.range q) fun d => if n.testBit c || n.testBit d || decide (c = d) then 0 else g (n ||| 2 ^ c ||| 2 ^ d) := by
      intro c _
      cases hc : n.testBit c with
      | true =>
        rw [if_pos rfl, if_pos rfl, Int.zero_add]
        exact ((sg_congr fun d _ => by rw [Bool.true_or, Bool.true_or, if_pos rfl]).trans (sg_zero _)).symm
      | false =>
        rw [if_neg (by decide), if_neg (by decide), T_apply]
        congr 1
        exact sg_congr fun d _ => by rw [bit_or, Bool.false_or]
    rw [sg_congr e, sg_add]
    omega
  rw [key p q, key q p, sg_swap]
  have e2 : (sg (List.range q) fun b => sg (List.range p) fun a => if n.testBit a || n.testBit b || decide (a = b) then 0 else g (n ||| 2 ^ a ||| 2 ^ b)) =
      sg (List.range q) fun c => sg (List.range p) fun d => if n.testBit c || n.testBit d || decide (c = d) then 0 else g (n ||| 2 ^ c ||| 2 ^ d) := by
    refine sg_congr fun c _ => sg_congr fun d _ => ?_
    rw [Bool.or_comm (n.testBit d), show decide (d = c) = decide (c = d) by simp [eq_comm], Nat.or_assoc, Nat.or_comm (2 ^ d), ← Nat.or_assoc]
  rw [e2]
  omega
theorem T_mul (p : Nat) (a : Int) (g : Nat → Int) : T p (fun n => a * g n) = fun n => a * T p g n := by
  funext n
  rw [T_apply, T_apply, Int.mul_add, ← sg_mul]
  congr 1
  refine sg_congr fun c _ => ?_
  split
  · rw [Int.mul_zero]
  · rfl
theorem T_zero (g : Nat → Int) : T 0 g = g := by
  funext n
  rw [T_apply, List.range_zero, sg_nil, Int.add_zero]
noncomputable def EqB (s : Nat) (f g : Nat → Int) : Prop := ∀ n, n < 2 ^ s → f n = g n
theorem EqB.T {s p : Nat} {f g : Nat → Int} (h : EqB s f g) (hp : p ≤ s) : EqB s (T p f) (T p g) := by
  intro n hn
  rw [T_apply, T_apply, h n hn]
  congr 1
  refine sg_congr fun c hc => ?_
  split
  · rfl
  · have := List.mem_range.mp hc
    exact h _ (Nat.or_lt_two_pow hn (Nat.pow_lt_pow_right (by decide) (by omega)))
noncomputable def Ts (ps : List Nat) (g : Nat → Int) : Nat → Int := ps.foldr T g
theorem Ts_cons (p : Nat) (ps : List Nat) (g : Nat → Int) : Ts (p :: ps) g = T p (Ts ps g) := rfl
theorem Ts_comm (p : Nat) (g : Nat → Int) : ∀ ps : List Nat, T p (Ts ps g) = Ts ps (T p g)
  | [] => rfl
  | q :: r => by rw [Ts_cons, Ts_cons, T_comm, Ts_comm p g r]
theorem Ts_mul (a : Int) (g : Nat → Int) : ∀ ps : List Nat, Ts ps (fun n => a * g n) = fun n => a * Ts ps g n
  | [] => rfl
  | q :: r => by rw [Ts_cons, Ts_mul a g r, T_mul]; rfl
theorem EqB.Ts {s : Nat} {f g : Nat → Int} (h : EqB s f g) : ∀ {ps : List Nat}, (∀ p ∈ ps, p ≤ s) → EqB s (Ts ps f) (Ts ps g)
  | [], _ => h
  | q :: r, hp => EqB.T (EqB.Ts h fun p hq => hp p (.tail _ hq)) (hp q (.head _))
theorem Ts_append (a b : List Nat) (g : Nat → Int) : Ts (a ++ b) g = Ts a (Ts b g) := by unfold Ts; rw [List.foldr_append]
noncomputable def fall (x : Int) : Nat → Int
  | 0 => 1
  | j + 1 => fall x j * (x - j)
theorem fall_front (x : Int) : ∀ j, fall x (j + 1) = x * fall (x - 1) j
  | 0 => by simp [fall]
  | j + 1 => by
    rw [fall, fall_front x j, fall, Int.mul_assoc]
    congr 2
    omega
theorem fall_up (x : Int) : ∀ j : Nat, fall (x + 1) j = fall x j + (j : Int) * fall x (j - 1)
  | 0 => by simp [fall]
  | j + 1 => by
    have h1 := fall_front (x + 1) j
    rw [show x + 1 - 1 = x by omega] at h1
    rw [h1, Nat.add_sub_cancel, fall]
    have : ((j + 1 : Nat) : Int) = (j : Int) + 1 := by omega
    rw [this, ← Int.mul_comm (fall x j), ← Int.mul_comm (fall x j), ← Int.mul_add]
    congr 1
    omega
noncomputable def G (s : Nat) (x : Int) (n : Nat) : Int := if pcN n ≤ s then fall x (s - pcN n) else 0
theorem free_count : ∀ s < 10, ∀ n < 2 ^ s, ((List.range s).countP fun c => !n.testBit c) + pcN n = s := by decide +kernel
theorem pc_up : ∀ n < 512, ∀ c < 9, n.testBit c = false → pcN (n ||| 2 ^ c) = pcN n + 1 := by decide +kernel
theorem sg_count (a : Int) (b : Nat → Bool) : ∀ l : List Nat, (sg l fun c => if b c then 0 else a) = (l.countP fun c => !b c : Nat) * a
  | [] => by simp [sg]
  | c :: r => by
    rw [sg_cons, sg_count a b r, List.countP_cons]
    cases b c
    · simp [Int.add_mul]; omega
    · simp
theorem pow_le_512 {s n : Nat} (hs : s ≤ 9) (hn : n < 2 ^ s) : n < 512 := Nat.lt_of_lt_of_le hn (Nat.pow_le_pow_right (by decide) hs : 2 ^ s ≤ 2 ^ 9)
theorem T_full {s : Nat} (hs : s ≤ 9) (x : Int) : EqB s (T s (G s x)) (G s (x + 1)) := by
  intro n hn
  have hc := free_count s (by omega) n hn
  have h5 := pow_le_512 hs hn
  have hle : pcN n ≤ s := by omega
  have e : ∀ c ∈ List.range s, (if n.testBit c then 0 else G s x (n ||| 2 ^ c)) = if n.testBit c then 0 else fall x (s - pcN n - 1) := by
    intro c hc1
    have hc2 := List.mem_range.mp hc1
    cases q : n.testBit c with
    | true => rfl
    | false =>
      rw [if_neg (by decide), if_neg (by decide)]
      have hp : 0 < (List.range s).countP fun c => !n.testBit c := List.countP_pos_iff.mpr ⟨c, hc1, by rw [q]; rfl⟩
      unfold G
      rw [pc_up n h5 c (by omega) q, if_pos (by omega), Nat.sub_sub]
  rw [T_apply, sg_congr e, sg_count]
  unfold G
  rw [if_pos hle, if_pos hle, fall_up]
  congr 2
  omega
theorem G_send {s : Nat} (hs : s ≤ 9) (x : Int) : EqB s (G (s + 1) x) (fun n => x * G s (x - 1) n) := by
  intro n hn
  have hc := free_count s (by omega) n hn
  unfold G
  show (if pcN n ≤ s + 1 then fall x (s + 1 - pcN n) else 0) = x * (if pcN n ≤ s then fall (x - 1) (s - pcN n) else 0)
  rw [if_pos (by omega), if_pos (by omega), show s + 1 - pcN n = (s - pcN n) + 1 by omega, fall_front]
noncomputable def sent (ks : List Int) : Nat := ks.count 2
noncomputable def vc (ks : List Int) : Nat := if (3 : Int) ∈ ks then (ks.drop (ks.idxOf 3)).count 2 else 0
noncomputable def cnt : List Int → List Nat
  | [] => []
  | k :: r => if k = 0 then sent r :: cnt r else if k = 1 then vc r :: cnt r else cnt r
noncomputable def P : List Int → Int → Nat → Int
  | [], _, _ => 1
  | k :: r, x, v => if k = 0 then P r (x + 1) v else if k = 1 then P r x (v + 1) else if k = 2 then x * P r (x - 1) v else P r (x + v) 0
theorem vc_le (ks : List Int) : vc ks ≤ sent ks := by
  unfold vc sent
  split
  · exact List.Sublist.count_le _ (List.drop_sublist _ _)
  · exact Nat.zero_le _
theorem sent_cons (k : Int) (r : List Int) : sent (k :: r) = sent r + if k = 2 then 1 else 0 := by
  unfold sent
  rw [List.count_cons]
  by_cases h : k = 2
  · subst h; simp
  · simp [h]
theorem vc_cons {k : Int} (r : List Int) (h : k ≠ 3) : vc (k :: r) = vc r := by
  unfold vc
  by_cases h3 : (3 : Int) ∈ r
  · have e : (k :: r).idxOf 3 = r.idxOf 3 + 1 := by rw [List.idxOf_cons, show (k == 3) = false from beq_eq_false_iff_ne.mpr h]; rfl
    rw [if_pos h3, if_pos (.tail _ h3), e, List.drop_succ_cons]
  · have h4 : (3 : Int) ∉ k :: r := fun q => by
      rcases List.mem_cons.mp q with q | q
      · exact h q.symm
      · exact h3 q
    rw [if_neg h3, if_neg h4]
theorem vc_three (r : List Int) : vc (3 :: r) = sent r := by
  unfold vc sent
  rw [if_pos (.head _)]
  simp
theorem cnt_le : ∀ ks : List Int, ∀ p ∈ cnt ks, p ≤ sent ks
  | [], p, h => by cases h
  | k :: r, p, h => by
    have hs : sent r ≤ sent (k :: r) := by rw [sent_cons]; omega
    unfold cnt at h
    split at h
    · rcases List.mem_cons.mp h with rfl | h
      · exact hs
      · exact Nat.le_trans (cnt_le r p h) hs
    · split at h
      · rcases List.mem_cons.mp h with rfl | h
        · exact Nat.le_trans (vc_le r) hs
        · exact Nat.le_trans (cnt_le r p h) hs
      · exact Nat.le_trans (cnt_le r p h) hs
theorem rep_le {v p q : Nat} (h : p ∈ List.replicate v q) : p = q := List.eq_of_mem_replicate h
theorem T_fulls {s : Nat} (hs : s ≤ 9) : ∀ (v : Nat) (x : Int), EqB s (Ts (List.replicate v s) (G s x)) (G s (x + v))
  | 0, x => fun n hn => by show G s x n = _; rw [show x + ((0 : Nat) : Int) = x by omega]
  | v + 1, x => by
    intro n hn
    rw [List.replicate_succ, Ts_cons, Ts_comm]
    rw [EqB.Ts (T_full hs x) (fun p hp => Nat.le_of_eq (rep_le hp)) n hn, T_fulls hs v (x + 1) n hn]
    congr 1
    omega
theorem one_lt (s : Nat) : 0 < 2 ^ s := Nat.pow_pos (by decide)
theorem gjw : ∀ (ks : List Int) (v : Nat) (x : Int), sent ks ≤ 9 → (∀ k ∈ ks, 0 ≤ k ∧ k < 4) → Ts (List.replicate v (vc ks)) (Ts (cnt ks) (G (sent ks) x)) 0 = P ks x v
  | [], v, x, _, _ => by
    have e : ∀ v, Ts (List.replicate v (vc [])) (G 0 x) = G 0 x := by
      intro v
      induction v with
      | zero => rfl
      | succ v ih => rw [List.replicate_succ, Ts_cons, ih]; exact T_zero _
    show Ts (List.replicate v (vc [])) (G 0 x) 0 = 1
    rw [e]
    rfl
  | k :: r, v, x, hs, hk => by
    have hr : ∀ k ∈ r, 0 ≤ k ∧ k < 4 := fun j hj => hk j (.tail _ hj)
    have hk0 := hk k (.head _)
    have hsr : sent r ≤ 9 := by rw [sent_cons] at hs; omega
    have hvr : ∀ p ∈ List.replicate v (vc r), p ≤ sent r := fun p hp => by rw [rep_le hp]; exact vc_le r
    by_cases h0 : k = 0
    · subst h0
      rw [vc_cons r (by decide), sent_cons, if_neg (by decide), Nat.add_zero]
      unfold cnt P
      rw [if_pos rfl, if_pos rfl, Ts_cons, Ts_comm, ← gjw r v (x + 1) hsr hr]
      exact EqB.Ts (EqB.Ts (T_full hsr x) (cnt_le r)) hvr 0 (one_lt _)
    · by_cases h1 : k = 1
      · subst h1
        rw [vc_cons r (by decide), sent_cons, if_neg (by decide), Nat.add_zero]
        unfold cnt P
        rw [if_neg (by decide), if_pos rfl, if_neg (by decide), if_pos rfl, Ts_cons, ← gjw r (v + 1) x hsr hr, List.replicate_succ, Ts_cons]
        exact (congrFun (Ts_comm (vc r) (Ts (cnt r) (G (sent r) x)) (List.replicate v (vc r))) 0).symm
      · by_cases h2 : k = 2
        · subst h2
          rw [vc_cons r (by decide), sent_cons, if_pos rfl]
          unfold cnt P
          rw [if_neg (by decide), if_neg (by decide), if_neg (by decide), if_neg (by decide), if_pos rfl, ← gjw r v (x - 1) hsr hr]
          have e := EqB.Ts (EqB.Ts (G_send hsr x) (cnt_le r)) hvr 0 (one_lt _)
          rw [e, Ts_mul, Ts_mul]
        · have h3 : k = 3 := by omega
          subst h3
          rw [vc_three, sent_cons, if_neg (by decide), Nat.add_zero]
          unfold cnt P
          rw [if_neg (by decide), if_neg (by decide), if_neg (by decide), if_neg (by decide), if_neg (by decide), ← gjw r 0 (x + v) hsr hr]
          have c : ∀ (v : Nat) (g : Nat → Int), Ts (List.replicate v (sent r)) (Ts (cnt r) g) = Ts (cnt r) (Ts (List.replicate v (sent r)) g) := by
            intro v g
            induction v with
            | zero => rfl
            | succ v ih => rw [List.replicate_succ, Ts_cons, ih, Ts_comm]; rfl
          rw [c]
          exact EqB.Ts (T_fulls hsr v x) (cnt_le r) 0 (one_lt _)
theorem walk_is : ∀ (ks : List Int) (p x : Int) (v : Nat), (∀ k ∈ ks, 0 ≤ k ∧ k < 4) → (ks.foldl wTurn (p, x, (v : Int))).1 = p * P ks x v
  | [], p, x, v, _ => (Int.mul_one p).symm
  | k :: r, p, x, v, hk => by
    have hr : ∀ k ∈ r, 0 ≤ k ∧ k < 4 := fun j hj => hk j (.tail _ hj)
    have hk0 := hk k (.head _)
    rw [List.foldl_cons]
    by_cases h0 : k = 0
    · subst h0
      exact walk_is r p (x + 1) v hr
    · by_cases h1 : k = 1
      · subst h1
        exact walk_is r p x (v + 1) hr
      · by_cases h2 : k = 2
        · subst h2
          have := walk_is r (p * x) (x - 1) v hr
          rw [Int.mul_assoc] at this
          exact this
        · have h3 : k = 3 := by omega
          subst h3
          exact walk_is r p (x + v) 0 hr
theorem walk_P (ks : List Int) (x : Int) (hk : ∀ k ∈ ks, 0 ≤ k ∧ k < 4) : (walkF ks x).1 = P ks x 0 := by
  have := walk_is ks 1 x 0 hk
  rw [Int.one_mul] at this
  exact this
end Mine
end
-- part PMail
section
open PySem PySem.W PyProof.Rows PySem.Calls PySem.Spec
set_option maxRecDepth 100000
set_option linter.unusedVariables false
namespace Mine
noncomputable def age1 (i : It) (k : Int) : It := if k = 2 then send i else if k = 3 then prepd i else i
noncomputable def age (ks : List Int) (i : It) : It := ks.foldl age1 i
noncomputable def lay (b : Bool) (d : Deed) : It := ⟨if b then [] else d.fin, if d.kind = 1 then d.veil else [], 1, d.typed, d.folded⟩
noncomputable def its : Bool → List Deed → List It
  | _, [] => []
  | b, d :: r => if d.kind < 2 then age (r.map (·.kind)) (lay b d) :: its false r else its b r
structure DOk (d : Deed) : Prop where
  lo : 0 ≤ d.kind
  hi : d.kind < 4
  fin : d.fin ∈ endsN
  veil : ∃ v ∈ veilsN, d.veil = [v]
  name : (d.typed = [] ∧ d.folded = []) ∨ ∃ st ∈ staysN, ∃ q ∈ pairsN, d.typed = [q.1, st] ∧ d.folded = q.2 ++ [st]
theorem strOf_inj {a b : List Nat} (h : strOf a = ⟨b.toArray⟩) : a = b := by
  have := congrArg (fun x : Str => x.cps.toList) h
  simpa using this
theorem DOk.of {d : Deed} (h : DeedOk d) : DOk d := by
  obtain ⟨⟨v, hv, e1⟩, ⟨e, he, e2⟩, h3⟩ := h.row
  refine ⟨h.lo, h.hi, strOf_inj e2 ▸ he, ⟨v, hv, strOf_inj e1⟩, ?_⟩
  rcases h3 with ⟨a, b⟩ | ⟨st, hs, q, hq, a, b⟩
  · exact .inl ⟨strOf_inj a, strOf_inj b⟩
  · exact .inr ⟨st, hs, q, hq, strOf_inj a, strOf_inj b⟩
theorem ends_fins : ∀ f ∈ endsN, f ∈ finsN ∧ f ≠ [] := by decide +kernel
theorem lay_ok {b : Bool} {d : Deed} (h : DOk d) : ItOk (lay b d) := by
  obtain ⟨v, hv, e⟩ := h.veil
  refine ⟨?_, ?_, Nat.le_refl _, ?_⟩
  · show (if b then [] else d.fin) ∈ finsN
    cases b
    · exact (ends_fins _ h.fin).1
    · exact .head _
  · show (if d.kind = 1 then d.veil else []) = [] ∨ ∃ v ∈ veilsN, (if d.kind = 1 then d.veil else []) = [v]
    split
    · exact .inr ⟨v, hv, e⟩
    · exact .inl rfl
  · rcases h.name with ⟨a, b⟩ | ⟨st, hs, q, hq, a, b⟩
    · exact .inl ⟨a, b⟩
    · exact .inr ⟨st, hs, q, hq, .inl a, b⟩
theorem age1_ok {i : It} (h : ItOk i) (k : Int) : ItOk (age1 i k) := by
  unfold age1
  split
  · exact h.send
  · split
    · exact h.prepd
    · exact h
theorem age1_fin {i : It} (h : ItOk i) (k : Int) (hne : i.fin ≠ []) : (age1 i k).fin ≠ [] := by
  unfold age1
  split
  · exact (crlf_fins _ h.fin).2.2.1 hne
  · split
    · exact hne
    · exact hne
theorem Wf.map {l : List It} (h : Wf l) (k : Int) : Wf (l.map fun i => age1 i k) := by
  refine ⟨fun i hi => ?_, fun i hi => ?_⟩
  · obtain ⟨j, hj, rfl⟩ := List.mem_map.mp hi
    exact age1_ok (h.ok j hj) k
  · rw [← List.map_tail] at hi
    obtain ⟨j, hj, rfl⟩ := List.mem_map.mp hi
    exact age1_fin (h.ok j (List.mem_of_mem_tail hj)) k (h.fins j hj)
theorem txt_append (a b : List It) : txt (a ++ b) = txt a ++ txt b := List.flatMap_append
theorem txt_ne {l : List It} (h : Wf l) : txt l ≠ [] ↔ l ≠ [] := by
  cases l with
  | nil => exact ⟨fun q => absurd rfl q, fun q => absurd rfl q⟩
  | cons i l =>
    refine ⟨fun _ q => (nomatch q), fun _ q => ?_⟩
    rw [txt_cons] at q
    have := List.append_eq_nil_iff.mp q
    exact body_ne (h.ok i (.head _)) (List.append_eq_nil_iff.mp this.2).1
theorem mail_items : ∀ (ds : List Deed) (S : List It), Wf S → (∀ d ∈ ds, DOk d ∨ d = lastDeed) → ds.foldl mailStep (txt S) = txt (S.map (age (ds.map (·.kind))) ++ its S.isEmpty ds)
  | [], S, _, _ => by
    show txt S = txt (S.map (fun i => i) ++ [])
    rw [List.map_id', List.append_nil]
  | d :: r, S, hS, hd => by
    have hr : ∀ d ∈ r, DOk d ∨ d = lastDeed := fun x hx => hd x (.tail _ hx)
    have hk : 0 ≤ d.kind ∧ d.kind < 4 := by
      rcases hd d (.head _) with h | h
      · exact ⟨h.lo, h.hi⟩
      · rw [h]; exact ⟨by decide, by decide⟩
    have step : ∀ k, d.kind = k → (S.map (age1 · k)).map (age (r.map (·.kind))) = S.map (age ((d :: r).map (·.kind))) := fun k e => by
      rw [List.map_map, List.map_cons, e]
      rfl
    rw [List.foldl_cons]
    by_cases h2 : d.kind = 2
    · have e : mailStep (txt S) d = txt (S.map (age1 · 2)) := by
        unfold mailStep
        rw [if_pos h2, quote_txt hS]
        rfl
      rw [e, mail_items r _ (hS.map 2) hr, step 2 h2]
      congr 2
      rw [its, if_neg (by omega), List.isEmpty_map]
    · by_cases h3 : d.kind = 3
      · have e : mailStep (txt S) d = txt (S.map (age1 · 3)) := by
          unfold mailStep
          rw [if_neg h2, if_pos h3, prep_txt _ hS.ok]
          rfl
        rw [e, mail_items r _ (hS.map 3) hr, step 3 h3]
        congr 2
        rw [its, if_neg (by omega), List.isEmpty_map]
      · have hdo : DOk d := (hd d (.head _)).resolve_right fun q => h2 (by rw [q]; rfl)
        have e : mailStep (txt S) d = txt (S ++ [lay S.isEmpty d]) := by
          unfold mailStep
          rw [if_neg h2, if_neg h3, txt_append, List.append_assoc, List.append_assoc, List.append_assoc]
          congr 1
          have hfin : (if txt S ≠ [] then d.fin else []) = if S.isEmpty then [] else d.fin := by
            cases S with
            | nil => rfl
            | cons i l => rw [if_pos ((txt_ne hS).mpr (by simp))]; rfl
          rw [hfin]
          show _ = (if S.isEmpty then [] else d.fin) ++ ((if d.kind = 1 then d.veil else []) ++ List.replicate 1 46 ++ d.typed) ++ []
          rw [List.append_nil, List.append_assoc (if d.kind = 1 then d.veil else [])]
          rfl
        have hW : Wf (S ++ [lay S.isEmpty d]) := by
          refine ⟨fun i hi => ?_, fun i hi => ?_⟩
          · rcases List.mem_append.mp hi with hi | hi
            · exact hS.ok i hi
            · rw [List.mem_singleton.mp hi]; exact lay_ok hdo
          · cases S with
            | nil => cases hi
            | cons j l =>
              have hi2 : i ∈ l ++ [lay false d] := hi
              rcases List.mem_append.mp hi2 with hi | hi
              · exact hS.fins i hi
              · rw [List.mem_singleton.mp hi]; exact (ends_fins _ hdo.fin).2
        have e01 : ∀ i : It, age1 i d.kind = i := fun i => by unfold age1; rw [if_neg h2, if_neg h3]
        rw [e, mail_items r _ hW hr]
        congr 1
        have h4 : its S.isEmpty (d :: r) = age (r.map (·.kind)) (lay S.isEmpty d) :: its false r := by rw [its, if_pos (by omega)]
        have h5 : S.map (age ((d :: r).map (·.kind))) = S.map (age (r.map (·.kind))) := by
          refine List.map_congr_left fun i _ => ?_
          show (r.map (·.kind)).foldl age1 (age1 i d.kind) = _
          rw [e01]
          rfl
        have h6 : (S ++ [lay S.isEmpty d]).isEmpty = false := by cases S <;> rfl
        rw [h4, h5, h6, List.map_append, List.append_assoc]
        rfl
theorem mail_is (ds : List Deed) (h : ∀ d ∈ ds, DOk d ∨ d = lastDeed) : mailF ds = txt (its true ds) := mail_items ds [] ⟨fun i hi => (nomatch hi), fun i hi => (nomatch hi)⟩ h
-- what the years do to a row
theorem crlf_twice {f : List Nat} (h : f ∈ finsN) : crlfL (crlfL f) = crlfL f := (crlf_fins f h).2.1
noncomputable def finA (ks : List Int) (f : List Nat) : List Nat := if (2 : Int) ∈ ks then crlfL f else f
theorem finA_two (ks : List Int) {f : List Nat} (h : f ∈ finsN) : finA ks (crlfL f) = finA (2 :: ks) f := by
  unfold finA
  rw [if_pos (List.mem_cons_self (a := (2 : Int)) (l := ks))]
  split
  · exact crlf_twice h
  · rfl
theorem finA_other (ks : List Int) {k : Int} (h : k ≠ 2) (f : List Nat) : finA (k :: ks) f = finA ks f := by
  unfold finA
  have : (2 : Int) ∈ k :: ks ↔ (2 : Int) ∈ ks := by
    rw [List.mem_cons]
    exact ⟨fun q => q.resolve_left fun e => h e.symm, .inr⟩
  by_cases q : (2 : Int) ∈ ks
  · rw [if_pos q, if_pos (this.mpr q)]
  · rw [if_neg q, if_neg fun z => q (this.mp z)]
theorem age_bare : ∀ (ks : List Int) (i : It), i.fin ∈ finsN → i.veil = [] → (age ks i).fin = finA ks i.fin ∧ body (age ks i) = List.replicate (i.dots + sent ks) 46 ++ (if (3 : Int) ∈ ks then i.fold else i.name)
  | [], i, _, hv => ⟨rfl, by show body i = _; unfold body; rw [hv]; rfl⟩
  | k :: ks, i, hf, hv => by
    show (age ks (age1 i k)).fin = _ ∧ body (age ks (age1 i k)) = _
    rw [sent_cons]
    by_cases h2 : k = 2
    · subst h2
      obtain ⟨a, b⟩ := age_bare ks (send i) (crlf_fins _ hf).1 hv
      have e : age1 i 2 = send i := rfl
      rw [e, a, b, if_pos rfl]
      refine ⟨finA_two ks hf, ?_⟩
      have ed : (send i).dots = i.dots + 1 := if_pos hv
      have em : (3 : Int) ∈ (2 : Int) :: ks ↔ (3 : Int) ∈ ks := by simp
      rw [ed, show i.dots + 1 + sent ks = i.dots + (sent ks + 1) by omega]
      congr 1
      by_cases q : (3 : Int) ∈ ks
      · rw [if_pos q, if_pos (em.mpr q)]; rfl
      · rw [if_neg q, if_neg fun z => q (em.mp z)]; rfl
    · rw [if_neg h2, finA_other ks h2]
      by_cases h3 : k = 3
      · subst h3
        obtain ⟨a, b⟩ := age_bare ks (prepd i) hf rfl
        have e : age1 i 3 = prepd i := rfl
        rw [e, a, b, if_pos (List.mem_cons_self (a := (3 : Int)) (l := ks))]
        refine ⟨rfl, ?_⟩
        show List.replicate (i.dots + sent ks) 46 ++ (if (3 : Int) ∈ ks then i.fold else i.fold) = _
        split <;> rfl
      · obtain ⟨a, b⟩ := age_bare ks i hf hv
        have e : age1 i k = i := by unfold age1; rw [if_neg h2, if_neg h3]
        have em : (3 : Int) ∈ k :: ks ↔ (3 : Int) ∈ ks := by
          rw [List.mem_cons]
          exact ⟨fun q => q.resolve_left fun z => h3 z.symm, .inr⟩
        rw [e, a, b]
        refine ⟨rfl, ?_⟩
        congr 1
        by_cases q : (3 : Int) ∈ ks
        · rw [if_pos q, if_pos (em.mpr q)]
        · rw [if_neg q, if_neg fun z => q (em.mp z)]
theorem age_veiled : ∀ (ks : List Int) (i : It), i.fin ∈ finsN → i.veil ≠ [] → (age ks i).fin = finA ks i.fin ∧ body (age ks i) = if (3 : Int) ∈ ks then List.replicate (i.dots + vc ks) 46 ++ i.fold else body i
  | [], i, _, hv => ⟨rfl, rfl⟩
  | k :: ks, i, hf, hv => by
    show (age ks (age1 i k)).fin = _ ∧ body (age ks (age1 i k)) = _
    by_cases h3 : k = 3
    · subst h3
      obtain ⟨a, b⟩ := age_bare ks (prepd i) hf rfl
      have e : age1 i 3 = prepd i := rfl
      rw [e, a, b, if_pos (List.mem_cons_self (a := (3 : Int)) (l := ks)), vc_three, finA_other ks (by decide)]
      refine ⟨rfl, ?_⟩
      show List.replicate (i.dots + sent ks) 46 ++ (if (3 : Int) ∈ ks then i.fold else i.fold) = _
      split <;> rfl
    · have em : (3 : Int) ∈ k :: ks ↔ (3 : Int) ∈ ks := by
        rw [List.mem_cons]
        exact ⟨fun q => q.resolve_left fun z => h3 z.symm, .inr⟩
      rw [vc_cons ks h3]
      by_cases h2 : k = 2
      · subst h2
        have e : age1 i 2 = send i := rfl
        obtain ⟨a, b⟩ := age_veiled ks (send i) (crlf_fins _ hf).1 hv
        have ed : (send i).dots = i.dots := if_neg hv
        rw [e, a, b]
        refine ⟨finA_two ks hf, ?_⟩
        have eb : body (send i) = body i := by
          show i.veil ++ List.replicate (send i).dots 46 ++ i.name = _
          rw [ed]
          rfl
        rw [ed, eb]
        by_cases q : (3 : Int) ∈ ks
        · rw [if_pos q, if_pos (em.mpr q)]; rfl
        · rw [if_neg q, if_neg fun z => q (em.mp z)]
      · have e : age1 i k = i := by unfold age1; rw [if_neg h2, if_neg h3]
        obtain ⟨a, b⟩ := age_veiled ks i hf hv
        rw [e, a, b, finA_other ks h2]
        refine ⟨rfl, ?_⟩
        by_cases q : (3 : Int) ∈ ks
        · rw [if_pos q, if_pos (em.mpr q)]
        · rw [if_neg q, if_neg fun z => q (em.mp z)]
end Mine
end
-- part PTold
section
open PySem PySem.W PyProof.Rows PySem.Calls PySem.Spec
set_option maxRecDepth 100000
set_option linter.unusedVariables false
namespace Mine
noncomputable def toldGo : List Deed → List Row → List Row
  | [], t => t
  | d :: r, t => toldGo r (toldStep (r.map (·.kind)) d t)
theorem toldGo_at (ds : List Deed) : ∀ (k i : Nat), i + k = ds.length → toldGo (ds.drop i) (toldF ds i) = toldF ds ds.length
  | 0, i, h => by rw [List.drop_eq_nil_of_le (by omega), show i = ds.length by omega]; rfl
  | k + 1, i, h => by
    have hi : i < ds.length := by omega
    have e : toldF ds (i + 1) = toldStep (laterOf ds i) ds[i] (toldF ds i) := by
      conv => lhs; unfold toldF
      rw [List.getElem?_eq_getElem hi]
    rw [List.drop_eq_getElem_cons hi, toldGo, ← toldGo_at ds k (i + 1) (by omega), e]
    rfl
theorem toldGo_all (ds : List Deed) : toldGo ds [] = toldF ds ds.length := toldGo_at ds ds.length 0 (by omega)
noncomputable def EndOk : List Deed → Prop
  | [] => True
  | d :: r => (d.kind < 2 → (2 : Int) ∈ r.map (·.kind)) ∧ EndOk r
theorem endOk : ∀ d8 : List Deed, EndOk (d8 ++ [lastDeed])
  | [] => ⟨fun h => absurd h (by decide), trivial⟩
  | d :: r => ⟨fun _ => List.mem_map.mpr ⟨lastDeed, List.mem_append_right _ (.head _), rfl⟩, endOk r⟩
noncomputable def jt (t : List Row) : List Nat := t.flatMap fun r => [13, 10] ++ rowL r
theorem jt_append (a b : List Row) : jt (a ++ b) = jt a ++ jt b := List.flatMap_append
theorem jt_one (r : Row) : jt [r] = 13 :: 10 :: rowL r := by show [13, 10] ++ rowL r ++ [] = _; rw [List.append_nil]; rfl
noncomputable def twoEnds (f : List Nat) : Bool := decide (f = [10, 13]) || decide (f = [13, 13, 10])
theorem ends_crlf : ∀ f ∈ endsN, crlfL f = (if twoEnds f then [13, 10] else []) ++ [13, 10] := by decide +kernel
noncomputable def rowOf (ks : List Int) (d : Deed) : Row :=
  if d.kind = 0 then ⟨[], (ks.count 2 : Nat), if (3 : Int) ∈ ks then d.folded else d.typed⟩
  else if (3 : Int) ∈ ks then ⟨[], ((ks.drop (ks.idxOf 3)).count 2 : Nat), d.folded⟩ else ⟨d.veil, 0, d.typed⟩
noncomputable def noRow : Row := ⟨[], -1, []⟩
theorem step_late {ks : List Int} {d : Deed} (t : List Row) (h : ¬ d.kind < 2) : toldStep ks d t = t := by
  unfold toldStep
  simp only
  simp only [show ¬ d.kind = 0 by omega, show ¬ d.kind = 1 by omega, h, false_and, if_false]
theorem step_lay {ks : List Int} {d : Deed} (t : List Row) (h0 : 0 ≤ d.kind) (h : d.kind < 2) : toldStep ks d t = (if t ≠ [] ∧ twoEnds d.fin = true then t ++ [noRow] else t) ++ [rowOf ks d] := by
  unfold toldStep rowOf
  simp only
  have e : (d.kind < 2 ∧ t ≠ [] ∧ (d.fin = [10, 13] ∨ d.fin = [13, 13, 10])) ↔ (t ≠ [] ∧ twoEnds d.fin = true) := by
    unfold twoEnds
    rw [Bool.or_eq_true, decide_eq_true_eq, decide_eq_true_eq]
    exact ⟨fun q => q.2, fun q => ⟨h, q⟩⟩
  have e2 : (if d.kind < 2 ∧ t ≠ [] ∧ (d.fin = [10, 13] ∨ d.fin = [13, 13, 10]) then t ++ [⟨[], -1, []⟩] else t) = if t ≠ [] ∧ twoEnds d.fin = true then t ++ [noRow] else t := by
    by_cases q : t ≠ [] ∧ twoEnds d.fin = true
    · rw [if_pos q, if_pos (e.mpr q)]; rfl
    · rw [if_neg q, if_neg fun z => q (e.mp z)]
  rw [e2]
  by_cases hk : d.kind = 0
  · rw [if_pos hk, if_pos hk]
  · have h1 : d.kind = 1 := by omega
    rw [if_neg hk, if_neg hk]
    by_cases h3 : (3 : Int) ∈ ks
    · rw [if_pos ⟨h1, h3⟩, if_pos h3]
    · rw [if_neg fun q => h3 q.2, if_pos h1, if_neg h3]
theorem step_ne {ks : List Int} {d : Deed} {t : List Row} (h : t ≠ []) : toldStep ks d t ≠ [] := by
  by_cases hk : d.kind < 2
  · by_cases h0 : 0 ≤ d.kind
    · rw [step_lay t h0 hk]; simp
    · unfold toldStep
      simp only
      rw [if_neg (by omega), if_neg (by omega), if_neg (by omega)]
      split
      · simp
      · exact h
  · rw [step_late t hk]; exact h
theorem go_ne : ∀ (ds : List Deed) (t : List Row), t ≠ [] → toldGo ds t ≠ []
  | [], t, h => h
  | d :: r, t, h => go_ne r _ (step_ne h)
theorem row_body {ks : List Int} {d : Deed} (b : Bool) (h : DOk d) (hk : d.kind < 2) : (age ks (lay b d)).fin = finA ks (lay b d).fin ∧ body (age ks (lay b d)) = rowL (rowOf ks d) := by
  have hi := lay_ok (b := b) h
  have h0 := h.lo
  have tn : ∀ n : Nat, (1 + (n : Int)).toNat = 1 + n := fun n => by omega
  by_cases hk0 : d.kind = 0
  · have hv : (lay b d).veil = [] := if_neg (by omega)
    obtain ⟨a, c⟩ := age_bare ks (lay b d) hi.fin hv
    refine ⟨a, ?_⟩
    rw [c]
    unfold rowL rowOf sent
    rw [if_pos hk0]
    show List.replicate (1 + ks.count 2) 46 ++ _ = [] ++ List.replicate (1 + ((ks.count 2 : Nat) : Int)).toNat 46 ++ _
    rw [tn]
    rfl
  · have hk1 : d.kind = 1 := by omega
    obtain ⟨v, hv, ev⟩ := h.veil
    have hv1 : (lay b d).veil = d.veil := if_pos hk1
    obtain ⟨a, c⟩ := age_veiled ks (lay b d) hi.fin (by rw [hv1, ev]; simp)
    refine ⟨a, ?_⟩
    rw [c]
    unfold rowL rowOf
    rw [if_neg hk0]
    by_cases h3 : (3 : Int) ∈ ks
    · rw [if_pos h3, if_pos h3]
      unfold vc
      rw [if_pos h3]
      show List.replicate (1 + (ks.drop (ks.idxOf 3)).count 2) 46 ++ _ = [] ++ List.replicate (1 + (((ks.drop (ks.idxOf 3)).count 2 : Nat) : Int)).toNat 46 ++ _
      rw [tn]
      rfl
    · rw [if_neg h3, if_neg h3]
      unfold body
      rw [hv1]
      rfl
theorem fin_sent {ks : List Int} (h2 : (2 : Int) ∈ ks) (f : List Nat) : finA ks f = crlfL f := if_pos h2
theorem kind_low {d : Deed} (h : DOk d ∨ d = lastDeed) (hk : d.kind < 2) : DOk d := h.resolve_right fun q => by rw [q] at hk; exact absurd hk (by decide)
theorem go_text : ∀ (ds : List Deed) (t : List Row), EndOk ds → (∀ d ∈ ds, DOk d ∨ d = lastDeed) → t ≠ [] → jt (toldGo ds t) = jt t ++ txt (its false ds)
  | [], t, _, _, _ => by show jt t = jt t ++ []; rw [List.append_nil]
  | d :: r, t, he, hd, ht => by
    have hr : ∀ d ∈ r, DOk d ∨ d = lastDeed := fun x hx => hd x (.tail _ hx)
    rw [toldGo, go_text r _ he.2 hr (step_ne ht)]
    by_cases hk : d.kind < 2
    · have hdo := kind_low (hd d (.head _)) hk
      obtain ⟨a, b⟩ := row_body (ks := r.map (·.kind)) false hdo hk
      rw [its, if_pos hk, txt_cons, a, b, fin_sent (he.1 hk), step_lay t hdo.lo hk, jt_append, jt_one]
      have hf : (lay false d).fin = d.fin := rfl
      rw [hf, ends_crlf _ hdo.fin]
      by_cases q : twoEnds d.fin = true
      · rw [if_pos ⟨ht, q⟩, if_pos q, jt_append, jt_one]
        show jt t ++ [13, 10] ++ (13 :: 10 :: rowL _) ++ txt _ = jt t ++ ([13, 10] ++ [13, 10] ++ (rowL _ ++ txt _))
        simp only [List.append_assoc, List.cons_append, List.nil_append]
      · rw [if_neg fun z => q z.2, if_neg q]
        simp only [List.append_assoc, List.cons_append, List.nil_append]
    · rw [its, if_neg hk, step_late t hk]
theorem go_first : ∀ ds : List Deed, EndOk ds → (∀ d ∈ ds, DOk d ∨ d = lastDeed) → (toldGo ds [] = [] ∧ its true ds = []) ∨ (toldGo ds [] ≠ [] ∧ jt (toldGo ds []) = 13 :: 10 :: txt (its true ds))
  | [], _, _ => .inl ⟨rfl, rfl⟩
  | d :: r, he, hd => by
    have hr : ∀ d ∈ r, DOk d ∨ d = lastDeed := fun x hx => hd x (.tail _ hx)
    by_cases hk : d.kind < 2
    · have hdo := kind_low (hd d (.head _)) hk
      obtain ⟨a, b⟩ := row_body (ks := r.map (·.kind)) true hdo hk
      have hs : toldStep (r.map (·.kind)) d [] = [rowOf (r.map (·.kind)) d] := by rw [step_lay [] hdo.lo hk, if_neg fun q => q.1 rfl]; rfl
      refine .inr ⟨by rw [toldGo, hs]; exact go_ne r _ (by simp), ?_⟩
      rw [toldGo, hs, go_text r _ he.2 hr (by simp), its, if_pos hk, txt_cons, a, b, jt_one]
      have hf : finA (r.map (·.kind)) (lay true d).fin = [] := by
        show finA (r.map (·.kind)) [] = []
        unfold finA
        split <;> rfl
      rw [hf]
      rfl
    · rw [toldGo, step_late [] hk, its, if_neg hk]
      exact go_first r he.2 hr
theorem all_go (ds : List Deed) : toldAll ds = if toldGo ds [] ≠ [] then toldGo ds [] else [noRow] := by
  unfold toldAll
  rw [toldGo_all]
  rfl
theorem all_ne (ds : List Deed) : toldAll ds ≠ [] := by
  rw [all_go]
  split
  · assumption
  · simp
theorem told_text {ds : List Deed} (he : EndOk ds) (hd : ∀ d ∈ ds, DOk d ∨ d = lastDeed) : jt (toldAll ds) = 13 :: 10 :: mailF ds := by
  rw [mail_is ds hd, all_go]
  rcases go_first ds he hd with ⟨a, b⟩ | ⟨a, b⟩
  · rw [a, b, if_neg (by simp)]; rfl
  · rw [if_pos a, b]
theorem crlf_str : (Str.ofString "\r\n").cps.toList = [13, 10] := by decide +kernel
theorem join_text : ∀ rows : List Row, rows ≠ [] → 13 :: 10 :: (Str.join (Str.ofString "\r\n") (rows.map fun r => strOf (rowL r))).cps.toList = jt rows
  | [], h => absurd rfl h
  | [r], _ => by
    rw [jt_one]
    show 13 :: 10 :: (strOf (rowL r)).cps.toList = _
    simp
  | r :: q :: t, _ => by
    have ih := join_text (q :: t) (by simp)
    have e : Str.join (Str.ofString "\r\n") ((r :: q :: t).map fun r => strOf (rowL r)) = strOf (rowL r) ++ Str.ofString "\r\n" ++ Str.join (Str.ofString "\r\n") ((q :: t).map fun r => strOf (rowL r)) := rfl
    have e2 : jt (r :: q :: t) = (13 :: 10 :: rowL r) ++ jt (q :: t) := by show jt ([r] ++ (q :: t)) = _; rw [jt_append, jt_one]
    rw [e, e2, ← ih]
    show 13 :: 10 :: (((strOf (rowL r)).cps ++ (Str.ofString "\r\n").cps) ++ _).toList = _
    rw [Array.toList_append, Array.toList_append, crlf_str]
    simp
theorem join_mail {ds : List Deed} (he : EndOk ds) (hd : ∀ d ∈ ds, DOk d ∨ d = lastDeed) : Txt.join (Str.ofString "\r\n") ((toldAll ds).map fun r => strOf (rowL r)) = strOf (mailF ds) := by
  have h1 := join_text (toldAll ds) (all_ne ds)
  rw [told_text he hd] at h1
  have h2 : (Str.join (Str.ofString "\r\n") ((toldAll ds).map fun r => strOf (rowL r))).cps.toList = mailF ds := by
    injection h1 with _ h1
    injection h1
  show PySem.Builtin.Str.glued _ _ = _
  rw [StrLaws.glued_eq_join]
  apply Str.ext'
  apply Array.toList_inj.mp
  rw [h2]
-- the rows' counts
noncomputable def tc (rows : List Row) (g : Nat → Int) : Nat → Int := rows.foldr (fun r g => T r.count.toNat g) g
theorem tc_append (a b : List Row) (g : Nat → Int) : tc (a ++ b) g = tc a (tc b g) := by unfold tc; rw [List.foldr_append]
theorem tc_no (g : Nat → Int) : tc [noRow] g = g := T_zero g
theorem tc_row {ks : List Int} {d : Deed} (h0 : 0 ≤ d.kind) (hk : d.kind < 2) (g : Nat → Int) : tc [rowOf ks d] g = if d.kind = 0 then T (sent ks) g else T (vc ks) g := by
  show T (rowOf ks d).count.toNat g = _
  unfold rowOf
  by_cases hk0 : d.kind = 0
  · rw [if_pos hk0, if_pos hk0]
    show T (((ks.count 2 : Nat) : Int)).toNat g = _
    rw [Int.toNat_natCast]
    rfl
  · rw [if_neg hk0, if_neg hk0]
    unfold vc
    by_cases h3 : (3 : Int) ∈ ks
    · rw [if_pos h3, if_pos h3]
      show T ((((ks.drop (ks.idxOf 3)).count 2 : Nat) : Int)).toNat g = _
      rw [Int.toNat_natCast]
    · rw [if_neg h3, if_neg h3]
      rfl
theorem cnt_cons (k : Int) (r : List Int) : cnt (k :: r) = if k = 0 then sent r :: cnt r else if k = 1 then vc r :: cnt r else cnt r := rfl
theorem tc_go : ∀ (ds : List Deed) (t : List Row) (g : Nat → Int), (∀ d ∈ ds, 0 ≤ d.kind) → tc (toldGo ds t) g = tc t (Ts (cnt (ds.map (·.kind))) g)
  | [], t, g, _ => rfl
  | d :: r, t, g, h => by
    have h0 := h d (.head _)
    rw [toldGo, tc_go r _ g fun x hx => h x (.tail _ hx), List.map_cons]
    by_cases hk : d.kind < 2
    · rw [step_lay t h0 hk, tc_append, tc_row h0 hk]
      have e : ∀ f, tc (if t ≠ [] ∧ twoEnds d.fin = true then t ++ [noRow] else t) f = tc t f := fun f => by
        split
        · rw [tc_append, tc_no]
        · rfl
      rw [e, cnt_cons]
      by_cases hk0 : d.kind = 0
      · rw [if_pos hk0, if_pos hk0]; rfl
      · rw [if_neg hk0, if_neg hk0, if_pos (by omega)]; rfl
    · rw [step_late t hk]
      rw [cnt_cons, if_neg (by omega), if_neg (by omega)]
theorem counts_are {ds : List Deed} (h : ∀ d ∈ ds, 0 ≤ d.kind) (g : Nat → Int) : ((toldAll ds).map (·.count)).foldr (fun p g => T p.toNat g) g = Ts (cnt (ds.map (·.kind))) g := by
  rw [List.foldr_map]
  show tc (toldAll ds) g = _
  have e := tc_go ds [] g h
  have e' : tc (toldGo ds []) g = Ts (cnt (ds.map (·.kind))) g := e
  rw [all_go, ← e']
  split
  · rfl
  · rename_i q
    rw [Decidable.not_not.mp q]
    exact tc_no g
-- what each told row is like
structure RowGood (r : Row) : Prop where
  head : (∀ c ∈ r.head, c ≠ 10 ∧ c ≠ 13 ∧ c ≠ 46) ∧ r.head.length ≤ 1
  name : (∀ c ∈ r.name, c ≠ 10 ∧ c ≠ 13 ∧ c ≠ 46) ∧ r.name.length ≤ 4
  lo : -1 ≤ r.count
  hi : r.count ≤ 9
theorem noRow_good : RowGood noRow := ⟨⟨fun c hc => (nomatch hc), by decide⟩, ⟨fun c hc => (nomatch hc), by decide⟩, by decide, by decide⟩
theorem nil_signs : (∀ c ∈ ([] : List Nat), c ≠ 10 ∧ c ≠ 13 ∧ c ≠ 46) ∧ ([] : List Nat).length ≤ 1 := ⟨fun c hc => (nomatch hc), by decide⟩
theorem rowOf_good {ks : List Int} {d : Deed} (h : DOk d) (hl : ks.length ≤ 9) : RowGood (rowOf ks d) := by
  have ht := name_signs (lay_ok (b := true) h)
  have hf := name_signs (lay_ok (b := true) h).prepd
  have hv : (∀ c ∈ d.veil, c ≠ 10 ∧ c ≠ 13 ∧ c ≠ 46) ∧ d.veil.length ≤ 1 := by
    obtain ⟨v, hv, e⟩ := h.veil
    rw [e]
    exact ⟨fun c hc => by rw [List.mem_singleton.mp hc]; exact sign_veil v hv, by simp⟩
  have c1 : ks.count 2 ≤ ks.length := List.count_le_length
  have c2 : (ks.drop (ks.idxOf 3)).count 2 ≤ ks.count 2 := List.Sublist.count_le _ (List.drop_sublist _ _)
  unfold rowOf
  split
  · refine ⟨nil_signs, ?_, ?_, ?_⟩
    · show (∀ c ∈ (if (3 : Int) ∈ ks then d.folded else d.typed), _) ∧ _
      split
      · exact hf
      · exact ht
    · show -1 ≤ ((ks.count 2 : Nat) : Int); omega
    · show ((ks.count 2 : Nat) : Int) ≤ 9; omega
  · split
    · refine ⟨nil_signs, hf, ?_, ?_⟩
      · show -1 ≤ (((ks.drop (ks.idxOf 3)).count 2 : Nat) : Int); omega
      · show (((ks.drop (ks.idxOf 3)).count 2 : Nat) : Int) ≤ 9; omega
    · exact ⟨hv, ht, by show (-1 : Int) ≤ 0; decide, by show (0 : Int) ≤ 9; decide⟩
theorem go_good : ∀ (ds : List Deed) (t : List Row), ds.length ≤ 10 → (∀ d ∈ ds, DOk d ∨ d = lastDeed) → (∀ r ∈ t, RowGood r) → ∀ r ∈ toldGo ds t, RowGood r
  | [], t, _, _, h => h
  | d :: r, t, hl, hd, h => by
    rw [List.length_cons] at hl
    refine go_good r _ (by omega) (fun x hx => hd x (.tail _ hx)) ?_
    by_cases hk : d.kind < 2
    · have hdo := kind_low (hd d (.head _)) hk
      rw [step_lay t hdo.lo hk]
      intro q hq
      rcases List.mem_append.mp hq with hq | hq
      · by_cases z : t ≠ [] ∧ twoEnds d.fin = true
        · rw [if_pos z] at hq
          rcases List.mem_append.mp hq with hq | hq
          · exact h q hq
          · rw [List.mem_singleton.mp hq]; exact noRow_good
        · rw [if_neg z] at hq
          exact h q hq
      · rw [List.mem_singleton.mp hq]
        exact rowOf_good hdo (by rw [List.length_map]; omega)
    · rw [step_late t hk]; exact h
theorem all_good {ds : List Deed} (hl : ds.length ≤ 10) (hd : ∀ d ∈ ds, DOk d ∨ d = lastDeed) : ∀ r ∈ toldAll ds, RowGood r := by
  rw [all_go]
  split
  · exact go_good ds [] hl hd fun r hr => nomatch hr
  · intro r hr
    rw [List.mem_singleton.mp hr]
    exact noRow_good
theorem all_len (ds : List Deed) : (toldAll ds).length ≤ 2 * ds.length + 1 := by
  unfold toldAll
  have := toldF_len ds ds.length
  split
  · omega
  · simp
theorem row_dots {r : Row} (h : RowGood r) : ((dotsN (rowL r) : Nat) : Int) = 1 + r.count := by
  have z : ∀ l : List Nat, (∀ c ∈ l, c ≠ 10 ∧ c ≠ 13 ∧ c ≠ 46) → dotsN l = 0 := fun l hl => by
    unfold dotsN
    refine List.countP_eq_zero.mpr fun c hc => ?_
    have := (hl c hc).2.2
    simpa using this
  have e : dotsN (rowL r) = (1 + r.count).toNat := by
    unfold rowL
    have : dotsN (r.head ++ List.replicate (1 + r.count).toNat 46 ++ r.name) = dotsN r.head + dotsN (List.replicate (1 + r.count).toNat 46) + dotsN r.name := by
      unfold dotsN
      rw [List.countP_append, List.countP_append]
    rw [this, z _ h.head.1, z _ h.name.1]
    unfold dotsN
    rw [List.countP_replicate]
    simp
  rw [e]
  have := h.lo
  omega
theorem row_free {r : Row} (h : RowGood r) : ∀ c ∈ rowL r, c ≠ 10 ∧ c ≠ 13 := by
  intro c hc
  unfold rowL at hc
  rcases List.mem_append.mp hc with hc | hc
  · rcases List.mem_append.mp hc with hc | hc
    · have := h.head.1 c hc; exact ⟨this.1, this.2.1⟩
    · rw [List.eq_of_mem_replicate hc]; exact ⟨by decide, by decide⟩
  · have := h.name.1 c hc; exact ⟨this.1, this.2.1⟩
-- lengths
theorem age_dots : ∀ (ks : List Int) (i : It), (age ks i).dots ≤ i.dots + ks.length
  | [], i => Nat.le_refl _
  | k :: ks, i => by
    have := age_dots ks (age1 i k)
    have h1 : (age1 i k).dots ≤ i.dots + 1 := by
      unfold age1
      split
      · show (if i.veil = [] then i.dots + 1 else i.dots) ≤ _
        split <;> omega
      · split
        · show i.dots ≤ _; omega
        · omega
    rw [List.length_cons]
    show (age ks (age1 i k)).dots ≤ _
    omega
theorem age_ok : ∀ (ks : List Int) {i : It}, ItOk i → ItOk (age ks i)
  | [], i, h => h
  | k :: ks, i, h => age_ok ks (age1_ok h k)
theorem its_ok : ∀ (ds : List Deed) (b : Bool), ds.length ≤ 10 → (∀ d ∈ ds, DOk d ∨ d = lastDeed) → (its b ds).length ≤ ds.length ∧ ∀ i ∈ its b ds, ItOk i ∧ i.dots ≤ 10
  | [], b, _, _ => ⟨Nat.le_refl _, fun i hi => nomatch hi⟩
  | d :: r, b, hl, hd => by
    rw [List.length_cons] at hl
    have hr : ∀ d ∈ r, DOk d ∨ d = lastDeed := fun x hx => hd x (.tail _ hx)
    rw [its]
    split
    · rename_i hk
      obtain ⟨a, c⟩ := its_ok r false (by omega) hr
      refine ⟨by rw [List.length_cons, List.length_cons]; omega, fun i hi => ?_⟩
      rcases List.mem_cons.mp hi with rfl | hi
      · have hdo := kind_low (hd d (.head _)) hk
        refine ⟨age_ok _ (lay_ok hdo), ?_⟩
        have := age_dots (r.map (·.kind)) (lay b d)
        have e : (lay b d).dots = 1 := rfl
        rw [List.length_map] at this
        omega
      · exact c i hi
    · obtain ⟨a, c⟩ := its_ok r b (by omega) hr
      exact ⟨by rw [List.length_cons]; omega, c⟩
theorem txt_len : ∀ l : List It, (∀ i ∈ l, ItOk i ∧ i.dots ≤ 10) → (txt l).length ≤ 20 * l.length
  | [], _ => Nat.le_refl _
  | i :: l, h => by
    have ih := txt_len l fun j hj => h j (.tail _ hj)
    obtain ⟨hi, hd⟩ := h i (.head _)
    have h1 := (crlf_fins _ hi.fin).2.2.2
    have h2 := (veil_signs hi).2
    have h3 := (name_signs hi).2
    rw [txt_cons, List.length_append, List.length_append, List.length_cons]
    unfold body
    rw [List.length_append, List.length_append, List.length_replicate]
    omega
theorem mail_len {ds : List Deed} (hl : ds.length ≤ 10) (hd : ∀ d ∈ ds, DOk d ∨ d = lastDeed) : (mailF ds).length ≤ 200 ∧ (prepN (mailF ds)).length ≤ 200 := by
  obtain ⟨a, c⟩ := its_ok ds true hl hd
  rw [mail_is ds hd, prep_txt _ fun i hi => (c i hi).1]
  have h1 := txt_len _ c
  have h2 := txt_len ((its true ds).map prepd) fun i hi => by
    obtain ⟨j, hj, rfl⟩ := List.mem_map.mp hi
    exact ⟨(c j hj).1.prepd, (c j hj).2⟩
  rw [List.length_map] at h2
  omega
end Mine
end
-- part PSplit
section
open PySem PySem.W PyProof.Rows PySem.Calls PySem.Spec
open PySem.StrLaws PySem.Builtin PySem.Builtin.Str
set_option maxRecDepth 100000
set_option linter.unusedVariables false
namespace Mine
noncomputable abbrev crlfS : Str := Str.ofString "\r\n"
theorem crlf_len : crlfS.length = 2 := by decide +kernel
noncomputable def joinL : List (List Nat) → List Nat
  | [] => []
  | [r] => r
  | r :: q :: t => r ++ 13 :: 10 :: joinL (q :: t)
theorem at_iff (x : Str) (i : Nat) : At x crlfS x.length i ↔ (i + 2 ≤ x.length ∧ (x.cps.toList.drop i).take 2 = [13, 10]) := by
  unfold At
  rw [crlf_len, subAt_eq, crlf_len, crlf_str, beq_iff_eq]
theorem parts_rows (x : Str) : ∀ (rows : List (List Nat)) (cuts : List Nat) (a f : Nat), rows ≠ [] → (∀ r ∈ rows, Plain r) → a ≤ x.length → x.cps.toList.drop a = joinL rows → ChainG x crlfS x.length a cuts f → (∀ k, f ≤ k → ¬ At x crlfS x.length k) →
    partsFrom x crlfS.length a cuts = rows.map strOf
  | [], _, _, _, h, _, _, _, _, _ => absurd rfl h
  | [r], [], a, f, _, _, ha, hd, _, _ => by
    show [strSub x a x.length] = [strOf r]
    congr 1
    apply Str.ext'
    apply Array.toList_inj.mp
    have hn : x.cps.toList.length = x.length := by simp [Str.length]
    rw [strSub_toList, hd]
    show r.take (x.length - a) = r
    have hl := congrArg List.length hd
    rw [List.length_drop, hn] at hl
    have hl2 : x.length - a = r.length := hl
    rw [hl2, List.take_length]
  | [r], c :: cs, a, f, _, hp, ha, hd, hc, _ => by
    obtain ⟨h1, h2, _⟩ := hc
    obtain ⟨h3, h4⟩ := (at_iff x c).mp h2
    have e : x.cps.toList.drop c = r.drop (c - a) := by
      have hd' : x.cps.toList.drop a = r := hd
      rw [← hd', List.drop_drop]
      congr 1
      omega
    rw [e] at h4
    have hm : (13 : Nat) ∈ r := List.mem_of_mem_drop (List.mem_of_mem_take (h4 ▸ List.mem_cons_self (a := 13) (l := [10])))
    exact absurd rfl (hp r (.head _) 13 hm).2
  | r :: q :: t, cuts, a, f, _, hp, ha, hd, hc, hf => by
    have hn : x.cps.toList.length = x.length := by simp [Str.length]
    have hd' : x.cps.toList.drop a = r ++ 13 :: 10 :: joinL (q :: t) := hd
    have hlen := congrArg List.length hd'
    rw [List.length_drop, hn, List.length_append, List.length_cons, List.length_cons] at hlen
    have eAt : x.cps.toList.drop (a + r.length) = 13 :: 10 :: joinL (q :: t) := by
      rw [← List.drop_drop, hd', List.drop_left]
    have hA : At x crlfS x.length (a + r.length) := (at_iff x _).mpr ⟨by omega, by rw [eAt]; rfl⟩
    cases cuts with
    | nil =>
      have e : f = a := hc
      exact absurd hA (hf _ (by omega))
    | cons c cs =>
      obtain ⟨h1, h2, h3, h4⟩ := hc
      obtain ⟨h5, h6⟩ := (at_iff x c).mp h2
      have hle : c ≤ a + r.length := Nat.le_of_not_lt fun hlt => h3 (a + r.length) (by omega) hlt hA
      have hge : a + r.length ≤ c := Nat.le_of_not_lt fun hlt => by
        have e : x.cps.toList.drop c = r.drop (c - a) ++ 13 :: 10 :: joinL (q :: t) := by
          have : x.cps.toList.drop c = (x.cps.toList.drop a).drop (c - a) := by rw [List.drop_drop]; congr 1; omega
          rw [this, hd', List.drop_append_of_le_length (by omega)]
        have hne : r.drop (c - a) ≠ [] := fun z => by
          have := congrArg List.length z
          rw [List.length_drop] at this
          have : r.length - (c - a) = 0 := this
          omega
        cases hr : r.drop (c - a) with
        | nil => exact hne hr
        | cons y ys =>
          rw [hr] at e
          rw [e] at h6
          have hy : y = 13 := by
            injection h6
          have hm : (13 : Nat) ∈ r := List.mem_of_mem_drop (i := c - a) (by rw [hr, hy]; exact .head _)
          exact absurd rfl (hp r (.head _) 13 hm).2
      have hce : c = a + r.length := Nat.le_antisymm hle hge
      have ih := parts_rows x (q :: t) cs (c + crlfS.length) f (by simp) (fun y hy => hp y (.tail _ hy)) (by rw [crlf_len]; exact h5) (by
        rw [crlf_len, hce, ← List.drop_drop, eAt]
        rfl) h4 hf
      show strSub x a c :: partsFrom x crlfS.length (c + crlfS.length) cs = strOf r :: (q :: t).map strOf
      rw [ih]
      congr 1
      apply Str.ext'
      apply Array.toList_inj.mp
      rw [strSub_toList, hd', hce, Nat.add_sub_cancel_left]
      show (r ++ _).take r.length = r
      rw [List.take_left]
theorem kind_crlf (x : Str) : ¬ PySem.Builtin.Str.strKind x < PySem.Builtin.Str.strKind crlfS := by
  have h : ∀ y : Str, PySem.Builtin.Str.strKind crlfS ≤ PySem.Builtin.Str.strKind y := fun y => by
    have e : PySem.Builtin.Str.strKind crlfS = PySem.Builtin.Str.strKind ⟨#[13, 10]⟩ := by decide +kernel
    rw [e]
    unfold PySem.Builtin.Str.strKind
    rw [if_pos (by decide +kernel)]
    split
    · omega
    · split <;> omega
  exact Nat.not_lt.mpr (h x)
theorem split_rows {x : Str} {rows : List (List Nat)} (hne : rows ≠ []) (hp : ∀ r ∈ rows, Plain r) (hx : x.cps.toList = joinL rows) : Txt.split x crlfS = rows.map strOf := by
  obtain ⟨f, hG, hn⟩ := occ_tight x crlfS (by rw [crlf_len]; decide)
  have key := parts_rows x rows _ 0 f hne hp (Nat.zero_le _) (by rw [List.drop_zero]; exact hx) hG hn
  have hw : partsFrom x crlfS.length 0 [] = [x] := by
    show [strSub x 0 x.length] = [x]
    rw [sub_whole]
  unfold Txt.split
  split
  · rename_i hc
    rw [Bool.or_eq_true, decide_eq_true_eq, decide_eq_true_eq] at hc
    have hs : x.length < crlfS.length := hc.resolve_right (kind_crlf x)
    cases hcuts : occurrences x crlfS 0 x.length (x.length + 1) with
    | nil => rw [hcuts, hw] at key; exact key
    | cons c cs =>
      rw [hcuts] at hG
      have := hG.2.1.1
      omega
  · split
    · rename_i he
      rw [List.isEmpty_iff.mp he, hw] at key
      exact key
    · rw [partsBetween_eq]
      exact key
theorem joinL_jt : ∀ rows : List Row, rows ≠ [] → 13 :: 10 :: joinL (rows.map rowL) = jt rows
  | [], h => absurd rfl h
  | [r], _ => (jt_one r).symm
  | r :: q :: t, _ => by
    have ih := joinL_jt (q :: t) (by simp)
    have e2 : jt (r :: q :: t) = (13 :: 10 :: rowL r) ++ jt (q :: t) := by show jt ([r] ++ (q :: t)) = _; rw [jt_append, jt_one]
    rw [e2, ← ih]
    rfl
theorem split_mail {ds : List Deed} (hl : ds.length ≤ 10) (he : EndOk ds) (hd : ∀ d ∈ ds, DOk d ∨ d = lastDeed) : Txt.split (strOf (mailF ds)) crlfS = (toldAll ds).map fun r => strOf (rowL r) := by
  have h1 := joinL_jt (toldAll ds) (all_ne ds)
  rw [told_text he hd] at h1
  have h2 : joinL ((toldAll ds).map rowL) = mailF ds := by
    injection h1 with _ h1
    injection h1
  rw [split_rows (rows := (toldAll ds).map rowL) (by simpa using all_ne ds) (fun r hr => ?_) (by rw [h2]), List.map_map]
  · rfl
  · obtain ⟨q, hq, rfl⟩ := List.mem_map.mp hr
    exact row_free (all_good hl hd q hq)
end Mine
end
-- part PDiff
section
open PySem PySem.W PyProof.Rows PySem.Calls PySem.Spec
set_option maxRecDepth 100000
set_option linter.unusedVariables false
namespace Mine
theorem prod_fall (p x : Int) : ∀ j, prodF p x j = p * fall x j
  | 0 => by simp [prodF, fall]
  | j + 1 => by rw [prodF, prod_fall p x j, fall, Int.mul_assoc]
theorem due_sg (rk : List Int) (x : Int) (S : Nat) : ∀ n, dueF rk x S n = sg (List.range n) fun k => rk.getD k 0 * fall x (S - k)
  | 0 => rfl
  | n + 1 => by rw [dueF, due_sg rk x S n, prod_fall, sg_range_succ]
theorem due_is {ps : List Int} {ks : List Int} (h9 : ∀ n ∈ ps, n ≤ 9) (hs : sent ks ≤ 9) (hk : ∀ k ∈ ks, 0 ≤ k ∧ k < 4) (hc : ∀ g, ps.foldr (fun p g => T p.toNat g) g = Ts (cnt ks) g) (x : Int) :
    (walkF ks x).1 = dueF (rookL (waysF ps) (waysF ps).length) x (sent ks) (sent ks + 1) := by
  have h1 := rooks_are (fun k => if k ≤ sent ks then fall x (sent ks - k) else 0) ps h9
  rw [hc] at h1
  have h2 : Ts (cnt ks) (fun n => if pcN n ≤ sent ks then fall x (sent ks - pcN n) else 0) 0 = P ks x 0 := gjw ks 0 x hs hk
  rw [h2] at h1
  rw [walk_P ks x hk, ← h1, due_sg]
  unfold dot
  have e : 10 = (sent ks + 1) + (9 - sent ks) := by omega
  rw [e, sg_tail _ _ _ fun k hk => by dsimp only; rw [if_neg (by omega), Int.mul_zero]]
  refine sg_congr fun k hk => ?_
  have := List.mem_range.mp hk
  dsimp only
  rw [if_pos (by omega)]
theorem sg_range_front (f : Nat → Int) : ∀ n, sg (List.range (n + 1)) f = f 0 + sg (List.range n) fun i => f (i + 1)
  | 0 => by rw [sg_range_succ]; simp [sg]
  | n + 1 => by rw [sg_range_succ, sg_range_front f n, sg_range_succ]; omega
theorem sg_rev : ∀ (n : Nat) (f : Nat → Int), sg (List.range (n + 1)) f = sg (List.range (n + 1)) fun i => f (n - i)
  | 0, f => sg_congr fun i hi => by rw [Nat.zero_sub]; have := List.mem_range.mp hi; rw [show i = 0 by omega]
  | n + 1, f => by
    rw [sg_range_front, sg_range_succ (n + 1) (fun i => f (n + 1 - i)), sg_rev n fun i => f (i + 1)]
    have : (sg (List.range (n + 1)) fun i => f (n + 1 - i)) = sg (List.range (n + 1)) fun i => f (n - i + 1) := sg_congr fun i hi => by
      have := List.mem_range.mp hi
      rw [show n + 1 - i = n - i + 1 by omega]
    rw [this, Nat.sub_self]
    omega
noncomputable def ev (n : Nat) (a : Nat → Int) (x : Int) : Int := sg (List.range n) fun i => a i * fall x i
noncomputable def Dc (a : Nat → Int) (i : Nat) : Int := ((i : Int) + 1) * a (i + 1)
noncomputable def Dn : Nat → (Nat → Int) → Nat → Int
  | 0, a => a
  | j + 1, a => Dn j (Dc a)
theorem ev_zero (n : Nat) (a : Nat → Int) : ev (n + 1) a 0 = a 0 := by
  unfold ev
  rw [sg_range_front]
  have h : ∀ i, fall 0 (i + 1) = 0 := fun i => by rw [fall_front, Int.zero_mul]
  rw [sg_congr (g := fun _ => 0) fun i _ => by rw [h, Int.mul_zero], sg_zero]
  simp [fall]
theorem ev_diff (n : Nat) (a : Nat → Int) (x : Int) : ev (n + 1) a (x + 1) - ev (n + 1) a x = ev n (Dc a) x := by
  unfold ev
  rw [sg_range_front, sg_range_front]
  have h : (sg (List.range n) fun i => a (i + 1) * fall (x + 1) (i + 1)) = (sg (List.range n) fun i => a (i + 1) * fall x (i + 1)) + sg (List.range n) fun i => Dc a i * fall x i := by
    rw [← sg_add]
    refine sg_congr fun i _ => ?_
    rw [fall_up x (i + 1), Int.mul_add, Nat.add_sub_cancel]
    unfold Dc
    rw [Int.mul_comm ((i : Int) + 1) (a (i + 1)), Int.mul_assoc]
    rfl
  rw [h]
  show a 0 * 1 + _ - (a 0 * 1 + _) = _
  omega
theorem diff_map : ∀ (n : Nat) (f : Nat → Int), diffL ((List.range (n + 1)).map f) = (List.range n).map fun i => f (i + 1) - f i
  | 0, f => rfl
  | n + 1, f => by
    have e : (List.range (n + 1 + 1)).map f = f 0 :: (List.range (n + 1)).map fun i => f (i + 1) := by rw [List.range_succ_eq_map, List.map_cons, List.map_map]; rfl
    have e2 : (List.range (n + 1)).map (fun i => f (i + 1)) = f 1 :: (List.range n).map fun i => f (i + 2) := by rw [List.range_succ_eq_map, List.map_cons, List.map_map]; rfl
    have e3 : (List.range (n + 1)).map (fun i => f (i + 1) - f i) = (f 1 - f 0) :: (List.range n).map fun i => f (i + 2) - f (i + 1) := by rw [List.range_succ_eq_map, List.map_cons, List.map_map]; rfl
    have ih := diff_map n fun i => f (i + 1)
    rw [e2] at ih
    rw [e, e2, e3]
    show (f 1 - f 0) :: diffL (f 1 :: (List.range n).map fun i => f (i + 2)) = _
    rw [ih]
theorem firsts_ev : ∀ (n : Nat) (a : Nat → Int), firstsF n ((List.range n).map fun (i : Nat) => ev n a (i : Int)) = (List.range n).map fun j => Dn j a 0
  | 0, a => rfl
  | n + 1, a => by
    have e : (List.range (n + 1)).map (fun (i : Nat) => ev (n + 1) a (i : Int)) = ev (n + 1) a 0 :: (List.range n).map fun (i : Nat) => ev (n + 1) a ((i + 1 : Nat) : Int) := by rw [List.range_succ_eq_map, List.map_cons, List.map_map]; rfl
    have d := diff_map n fun (i : Nat) => ev (n + 1) a (i : Int)
    rw [e] at d
    rw [e]
    show ev (n + 1) a 0 :: firstsF n (diffL (ev (n + 1) a 0 :: (List.range n).map fun (i : Nat) => ev (n + 1) a ((i + 1 : Nat) : Int))) = _
    rw [d]
    have e4 : ((List.range n).map fun (i : Nat) => ev (n + 1) a ((i + 1 : Nat) : Int) - ev (n + 1) a (i : Int)) = (List.range n).map fun (i : Nat) => ev n (Dc a) (i : Int) := List.map_congr_left fun i _ => by
      rw [show ((i + 1 : Nat) : Int) = (i : Int) + 1 by omega]
      exact ev_diff n a i
    rw [e4, firsts_ev n (Dc a), ev_zero]
    conv => rhs; rw [List.range_succ_eq_map, List.map_cons, List.map_map]
    rfl
theorem Dn_fac : ∀ (j : Nat) (a : Nat → Int), Dn j a 0 = a j * facF (j + 1)
  | 0, a => by simp [Dn, facF]
  | j + 1, a => by
    rw [Dn, Dn_fac j (Dc a)]
    have : facF (j + 1 + 1) = facF (j + 1) * ((j : Int) + 1) := by
      rw [facF]
      congr 1
    rw [this]
    unfold Dc
    rw [Int.mul_comm ((j : Int) + 1), Int.mul_assoc, Int.mul_comm ((j : Int) + 1)]
theorem firsts_is {rk : List Int} {S : Nat} {W : Int → Int} (h : ∀ x, W x = dueF rk x S (S + 1)) :
    firstsF (S + 1) ((List.range (S + 1)).map fun (i : Nat) => W (i : Int)) = (List.range (S + 1)).map fun j => rk.getD (S - j) 0 * facF (j + 1) := by
  have e : (List.range (S + 1)).map (fun (i : Nat) => W (i : Int)) = (List.range (S + 1)).map fun (i : Nat) => ev (S + 1) (fun i => rk.getD (S - i) 0) (i : Int) := List.map_congr_left fun i _ => by
    rw [h, due_sg, sg_rev]
    unfold ev
    refine sg_congr fun k hk => ?_
    have := List.mem_range.mp hk
    rw [show S - (S - k) = k by omega]
  rw [e, firsts_ev]
  exact List.map_congr_left fun j _ => Dn_fac j _
end Mine
end
-- part PFacts
section
open PySem PySem.W PyProof.Rows PySem.Calls PySem.Spec
set_option maxRecDepth 100000
set_option linter.unusedVariables false
namespace Mine
theorem law_facts (ds : List Deed) (h : DsOk ds) : LawFacts ds := by
  have hlen := h.len
  have he : EndOk ds := by
    obtain ⟨d8, rfl, _, _⟩ := h
    exact endOk d8
  have hd : ∀ d ∈ ds, DOk d ∨ d = lastDeed := by
    obtain ⟨d8, rfl, _, hok⟩ := h
    intro d hd
    rcases List.mem_append.mp hd with hd | hd
    · exact .inl (DOk.of (hok d hd))
    · exact .inr (List.mem_singleton.mp hd)
  have hk : ∀ d ∈ ds, 0 ≤ d.kind ∧ d.kind < 4 := fun d hx => by
    rcases hd d hx with q | q
    · exact ⟨q.lo, q.hi⟩
    · rw [q]; exact ⟨by decide, by decide⟩
  have hks : ∀ k ∈ kindsOf ds, 0 ≤ k ∧ k < 4 := fun k hx => by
    obtain ⟨d, hy, rfl⟩ := List.mem_map.mp hx
    exact hk d hy
  have hgood := all_good (ds := ds) (by omega) hd
  have hnine : (kindsOf ds).length ≤ 9 := by unfold kindsOf; rw [List.length_map, hlen]; exact Nat.le_refl _
  have hsends : sent (kindsOf ds) ≤ 9 := Nat.le_trans List.count_le_length hnine
  have hps : ∀ n ∈ countsOf ds, n ≤ 9 := fun n hn => by
    obtain ⟨r, hr, rfl⟩ := List.mem_map.mp hn
    exact (hgood r hr).hi
  have hdue : ∀ x, (walkF (kindsOf ds) x).1 = dueF (rooksOf ds) x (sendsOf ds) (sendsOf ds + 1) := fun x =>
    due_is hps hsends hks (fun g => counts_are (fun d hx => (hk d hx).1) g) x
  have hfirst : firstsOf ds = (List.range (sendsOf ds + 1)).map fun j => (rooksOf ds).getD (sendsOf ds - j) 0 * facF (j + 1) := firsts_is (W := fun x => (walkF (kindsOf ds) x).1) hdue
  have hmail := mail_len (ds := ds) (by omega) hd
  refine ⟨fun i => ?_, fun d hx => ?_, ⟨?_, fun r hr => ?_⟩, join_mail he hd, split_mail (by omega) he hd, ?_, fun r hr => row_dots (hgood r hr), hnine, hsends, ?_, fun i hi => ?_, hdue⟩
  · have := mail_len (ds := ds.take i) (by rw [List.length_take]; omega) fun d hx => hd d (List.mem_of_mem_take hx)
    exact ⟨Nat.le_trans this.2 (by decide), Nat.le_trans this.1 (by decide)⟩
  · rcases hd d hx with q | q
    · have a := lay_ok (b := false) q
      have b := (crlf_fins _ (ends_fins _ q.fin).1).2.2.2
      have c := (name_signs a).2
      obtain ⟨v, _, ev⟩ := q.veil
      have c' : d.typed.length ≤ 4 := c
      rw [ev]
      exact ⟨by simp, by omega, by omega⟩
    · rw [q]
      exact ⟨by decide, by decide, by decide⟩
  · have := all_len ds
    omega
  · have g := hgood r hr
    have g1 := g.head.2
    have g2 := g.name.2
    exact ⟨by omega, g.lo, g.hi, by omega⟩
  · show (mailF ds).toArray.size ≤ 4000
    rw [List.size_toArray]
    omega
  · rw [hfirst, List.length_map, List.length_range]
  · rw [hfirst, List.getD_eq_getElem?_getD, List.getElem?_map, List.getElem?_range (by omega)]
    rfl
end Mine
end
set_option maxRecDepth 100000 in
set_option maxHeartbeats 8000000 in
theorem PySem.Challenge.cw_ti0027_01_holds : PySem.Challenge.rw_ti0027_01.Holds := by
  exact Mine.final Mine.law_facts
